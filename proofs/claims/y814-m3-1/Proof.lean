import JvmDerived
import JvmDerived.Pilot.@@N@@Statement
import JvmDerived.Pilot.@@N@@Code
set_option linter.unusedVariables false
set_option linter.unusedSimpArgs false
namespace Jvm.RoadKit
open Sem ClassFile Op Lib Jvm.Stand Jvm.Free Jvm.LawKit
section New
variable {p : Program} {l : Launch} {e : Env} {R : Room} {s : State} {m : MethodId} {args : Array Value} {below : List Frame} {meth : Method} {c : Code} {T : State} {locs : List Loc} {cells slots : Nat}
theorem retI (X : Stand p l e R s m args below meth c T locs cells slots) (hx : p.tables.exec = Jvm.exec) {pc : Nat} {Ls : Array Slot} {z : Int32} {rest : List Value} (hret : meth.sig.returnType = some .int) (hd : decode c.code pc = .ok (.ireturn, 1)) {fs : List Frame}
    (hl : ∀ (f : JFrame) (acts : List Action), f.method = m → f.locked = none → f.entered = [] → (doReturn e (T.setTop f) acts (some (.int z))).1 = T.setFrames fs) : Steps p.tables e below (T.setTop (mkF m pc Ls (.int z :: rest))) (T.setFrames fs) :=
  retOut X hx (w := .int z) (t := .int) hret rfl (Or.inl ⟨rfl, Or.inl rfl, _, rfl⟩) hd hl
end New
end Jvm.RoadKit
namespace Jvm.Own
open Sem ClassFile Op Lib Jvm.Stand Jvm.Free Jvm.LawKit Jvm.RoadKit
/-- from A on the run comes to B -/
abbrev Go (tb : Tables) (e : Env) (below : List Frame) (A B : State) : Prop := ∀ t, Steps tb e below B t → Steps tb e below A t
theorem gc {tb : Tables} {e : Env} {below : List Frame} {A B C : State} (h : Go tb e below A B) (k : ∀ t, Steps tb e below C t → Steps tb e below B t) : Go tb e below A C := fun t q => h t (k t q)
theorem gcT {tb : Tables} {e : Env} {below : List Frame} {A B C : State} (h : Go tb e below A B) (k : Steps tb e below B C) : Go tb e below A C := fun t q => h t (k.trans q)
theorem lremM {p : Program} {l : Launch} {e : Env} {R : Room} {s : State} {m : MethodId} {args : Array Value} {below : List Frame} {meth : Method} {c : Code} {T : State} {locs : List Loc} {cells slots : Nat} {g : JFrame} {target : State} (X : Stand p l e R s m args below meth c T locs cells slots) (hx : p.tables.exec = Jvm.exec) (hg : g.method = m) {x y : Int64} {rest : List Value} (hd : decode c.code g.pc = .ok (.lrem, 1)) (hs : g.stack = .long y :: .long x :: rest) (hy : y ≠ 0)
    (hr : Steps p.tables e below (T.setTop { g with pc := g.pc + 1, stack := .long (x % y) :: rest }) target) : Steps p.tables e below (T.setTop g) target :=
  XS.lrem X.here hx hg hd hs hy (by rw [lrem_mod]; exact hr)
theorem eqInt {s : State} {args : Array Value} {a : Term} {c : Int32} (h : (Cond.eq a (.int c)).value args s none s [] = some true) : a.eval args s none [] s = some (.int c) := by
  obtain ⟨x, y, hx, hy, k1, k2⟩ := cmp_v (Or.inl h)
  cases hy
  obtain ⟨z, rfl⟩ := k2
  simp [Cond.value, hx, Term.eval] at h
  subst h; exact hx
theorem neqInt {s : State} {args : Array Value} {a : Term} {c x : Int32} (hx : a.eval args s none [] s = some (.int x)) (h : (Cond.not (Cond.eq a (.int c))).value args s none s [] = some true) : ¬ x = c := by
  intro q
  have h2 := not_v h
  subst q
  simp [Cond.value, hx, Term.eval] at h2
theorem elAt {s : State} {args : Array Value} {t u : Term} {a w : Addr} {cl : Cell} {ty : FieldType} {i : Int32} (ht : t.eval args s none [] s = some (.ref a)) (A : Arr s s.heap a cl ty) (h : (Cond.eq (.elem t (.int i)) u).value args s none s [] = some true) (hu : u.eval args s none [] s = some (.ref w)) {j : Nat} (hj : i.toNatClampNeg = j) : cl.slots[j]? = some (.ref w) := by
  obtain ⟨x, y, hx, hy, k1, k2⟩ := cmp_v (Or.inl h)
  rw [hu] at hy; cases hy
  have hr : x.isRef = true := k2.2
  have e := gotT (eq_R hx hu hr rfl) h
  subst e
  have q := (elem_in hx ht (Term.int_eval i) A.1).2
  rw [hj] at q; exact q
theorem arvOf {s : State} {args : Array Value} {t : Term} {a : Addr} {cl : Cell} {ty : FieldType} {z : Int32} {vs : List Value} {dv : Value} (hf : Fit s) (ev : t.eval args s none [] s = some (.ref a)) (A : Arr s s.heap a cl ty) (hl : (Term.length t).eval args s none [] s = some (.int z)) (hz : ¬ z < 0) (hn : z.toNatClampNeg = vs.length) (H : HasL cl 0 vs) : Arv s s.heap a cl.cls ty z vs dv := by
  have ha : s.arrayAt? a = some cl := Arr.fin (Vm.Alike.refl _) A
  by_cases q : cl.slots.size < 2 ^ 31
  · rw [len_f ev ha q] at hl
    cases hl
    exact Arv.start hf A q rfl hz hn H
  · simp [Term.eval, ev, ha, q] at hl
theorem selPriv {s : State} {args : Array Value} {C : String} {z y : MethodName} (w : (Cond.selects C z z).before args s = true) (hc : z.cls = y.cls) (hp : s.PrivateAt y) (hi : (Cond.instanceMethod y).before args s = true) (hy : y.cls ≠ "java/lang/invoke/MethodHandle" ∧ y.cls ≠ "java/lang/invoke/VarHandle") : (Cond.selects y.cls y y).before args s = true := by
  obtain ⟨c2, r2, m2, -, -, q3, -, kP, hkP, hkPi⟩ := Cond.selects_spec w
  exact selects_self_of_private (hc ▸ findClass_of_methodNamed q3) hkP hkPi hp hi hy
end Jvm.Own
namespace Jvm.Pilot.@@N@@
open Jvm Jvm.ClassFile Sem Op Lib Jvm.Free Jvm.Stand Jvm.LawKit Jvm.RoadKit Jvm.Own Bundle Jvm.Pilot.@@N@@.Jvm.D
theorem own_w {Z : State} {a0 : Array Value} (hw : ∀ d ∈ tables_1, d.before a0 Z = true) (i : Nat) {d : Jvm.Cond} (h : tables_1[i]? = some d) : d.before a0 Z = true := hw _ (List.mem_of_getElem? h)
def own_d (h i : Nat) : Nat := (i + 16 - h) % 16
def own_fu {α : Type} (K : Nat → α) (f : Nat) (x : α) : Nat → α := fun i => if i = f then x else K i
/-- all slots from the home on up to i are taken -/
def own_path (K : Nat → Int64) (h i : Nat) : Prop := ∀ u, u < own_d h i → K ((h + u) % 16) ≠ -1
def own_WF (H : Int64 → Nat) (K : Nat → Int64) : Prop := (∀ i, i < 16 → K i ≠ -1 → own_path K (H (K i)) i) ∧ (∀ i j, i < 16 → j < 16 → K i ≠ -1 → K i = K j → i = j)
theorem own_WF.path {H : Int64 → Nat} {K : Nat → Int64} (W : own_WF H K) : ∀ i, i < 16 → K i ≠ -1 → own_path K (H (K i)) i := W.1
theorem own_WF.dist {H : Int64 → Nat} {K : Nat → Int64} (W : own_WF H K) : ∀ i j, i < 16 → j < 16 → K i ≠ -1 → K i = K j → i = j := W.2
theorem own_least (P : Nat → Prop) [DecidablePred P] : ∀ n, P n → ∃ t, t ≤ n ∧ P t ∧ ∀ u, u < t → ¬ P u := by
  intro n
  induction n using Nat.strongRecOn with
  | ind n ih =>
    intro hn
    by_cases h : ∃ u, u < n ∧ P u
    · obtain ⟨u, hu, pu⟩ := h
      obtain ⟨t, h1, h2, h3⟩ := ih u hu pu
      exact ⟨t, by omega, h2, h3⟩
    · exact ⟨n, Nat.le_refl _, hn, fun u hu pu => h ⟨u, hu, pu⟩⟩
theorem own_dd (h i : Nat) (h1 : h < 16) (h2 : i < 16) : (h + own_d h i) % 16 = i ∧ own_d h i < 16 := by unfold own_d; omega
/-- the search for a key that is there -/
theorem own_find {H : Int64 → Nat} (hH : ∀ k, H k < 16) {K : Nat → Int64} (W : own_WF H K) {i : Nat} (hi : i < 16) {k : Int64} (hk : k ≠ -1) (e : K i = k) :
    ∃ t, t < 16 ∧ (H k + t) % 16 = i ∧ ∀ u, u < t → K ((H k + u) % 16) ≠ k ∧ K ((H k + u) % 16) ≠ -1 := by
  have h1 := hH k
  obtain ⟨a, b⟩ := own_dd (H k) i h1 hi
  refine ⟨own_d (H k) i, b, a, fun u hu => ?_⟩
  have hp := W.path i hi (by rw [e]; exact hk)
  rw [e] at hp
  refine ⟨fun q => ?_, hp u hu⟩
  have := W.dist i ((H k + u) % 16) hi (by omega) (by rw [e]; exact hk) (by rw [e, q])
  unfold own_d at *
  omega
/-- the search for a key that isn't there -/
theorem own_miss {H : Int64 → Nat} (hH : ∀ k, H k < 16) {K : Nat → Int64} {g : Nat} (hg : g < 16) (hf : K g = -1) {k : Int64} (hk : ∀ i, i < 16 → K i ≠ k) :
    ∃ t, t < 16 ∧ K ((H k + t) % 16) = -1 ∧ ∀ u, u < t → K ((H k + u) % 16) ≠ k ∧ K ((H k + u) % 16) ≠ -1 := by
  have h1 := hH k
  obtain ⟨a, b⟩ := own_dd (H k) g h1 hg
  obtain ⟨t, h2, h3, h4⟩ := own_least (fun t => K ((H k + t) % 16) = -1) (own_d (H k) g) (by show K _ = _; rw [a]; exact hf)
  exact ⟨t, by omega, h3, fun u hu => ⟨hk _ (by omega), h4 u hu⟩⟩
/-- putting -/
theorem own_put {H : Int64 → Nat} (hH : ∀ k, H k < 16) {K : Nat → Int64} (W : own_WF H K) {k : Int64} (hk : k ≠ -1) (hn : ∀ i, i < 16 → K i ≠ k) {t : Nat} (ht : t < 16) (hf : K ((H k + t) % 16) = -1) (hu : ∀ u, u < t → K ((H k + u) % 16) ≠ -1) :
    own_WF H (own_fu K ((H k + t) % 16) k) := by
  have h1 := hH k
  generalize hj : (H k + t) % 16 = j at *
  have hj' : j < 16 := by omega
  have nf : ∀ i, K i ≠ -1 → own_fu K j k i ≠ -1 := fun i q => by
    unfold own_fu; split
    · exact hk
    · exact q
  refine ⟨fun i hi q u hu' => ?_, fun i i' hi hi' q e => ?_⟩
  · by_cases c : i = j
    · subst c
      have e1 : own_fu K i k i = k := by simp [own_fu]
      rw [e1] at hu' ⊢
      have : own_d (H k) i = t := by unfold own_d; omega
      exact nf _ (hu u (by omega))
    · have e1 : own_fu K j k i = K i := by simp [own_fu, c]
      rw [e1] at hu' q ⊢
      exact nf _ (W.path i hi q u hu')
  · by_cases c : i = j <;> by_cases c' : i' = j
    · rw [c, c']
    · simp [own_fu, c, c'] at e
      exact absurd e.symm (hn i' hi')
    · simp [own_fu, c, c'] at e
      exact absurd e (hn i hi)
    · simp [own_fu, c, c'] at e q
      exact W.dist i i' hi hi' q e
/-- what the table holds -/
def own_Has (K : Nat → Int64) (P : Nat → Int32) (k : Int64) (p : Int32) : Prop := ∃ i, i < 16 ∧ K i = k ∧ P i = p
/-- the invariant of removing: f is the hole, a the slot that is looked at -/
def own_J (H : Int64 → Nat) (K0 : Nat → Int64) (P0 : Nat → Int32) (r : Int64) (K : Nat → Int64) (P : Nat → Int32) (f a : Nat) : Prop := (f < 16) ∧ (a < 16) ∧ (f ≠ a) ∧ (K f ≠ -1) ∧ (∀ i, i < 16 → i ≠ f → K i ≠ -1 → own_path K (H (K i)) i) ∧ (∀ v, 0 < v → v < own_d f a → K ((f + v) % 16) ≠ -1 ∧ 0 < own_d f (H (K ((f + v) % 16))) ∧ own_d f (H (K ((f + v) % 16))) ≤ v) ∧ (∀ i j, i < 16 → j < 16 → i ≠ f → j ≠ f → K i ≠ -1 → K i = K j → i = j) ∧ (∀ k p, k ≠ -1 → ((∃ i, i < 16 ∧ i ≠ f ∧ K i = k ∧ P i = p) ↔ (own_Has K0 P0 k p ∧ k ≠ r))) ∧ (∀ i, i < 16 → (K i = -1 ↔ K0 i = -1))
theorem own_J.f16 {H : Int64 → Nat} {K0 : Nat → Int64} {P0 : Nat → Int32} {r : Int64} {K : Nat → Int64} {P : Nat → Int32} {f a : Nat} (J : own_J H K0 P0 r K P f a) : f < 16 := J.1
theorem own_J.a16 {H : Int64 → Nat} {K0 : Nat → Int64} {P0 : Nat → Int32} {r : Int64} {K : Nat → Int64} {P : Nat → Int32} {f a : Nat} (J : own_J H K0 P0 r K P f a) : a < 16 := J.2.1
theorem own_J.ne {H : Int64 → Nat} {K0 : Nat → Int64} {P0 : Nat → Int32} {r : Int64} {K : Nat → Int64} {P : Nat → Int32} {f a : Nat} (J : own_J H K0 P0 r K P f a) : f ≠ a := J.2.2.1
theorem own_J.hole {H : Int64 → Nat} {K0 : Nat → Int64} {P0 : Nat → Int32} {r : Int64} {K : Nat → Int64} {P : Nat → Int32} {f a : Nat} (J : own_J H K0 P0 r K P f a) : K f ≠ -1 := J.2.2.2.1
theorem own_J.path {H : Int64 → Nat} {K0 : Nat → Int64} {P0 : Nat → Int32} {r : Int64} {K : Nat → Int64} {P : Nat → Int32} {f a : Nat} (J : own_J H K0 P0 r K P f a) : ∀ i, i < 16 → i ≠ f → K i ≠ -1 → own_path K (H (K i)) i := J.2.2.2.2.1
theorem own_J.done {H : Int64 → Nat} {K0 : Nat → Int64} {P0 : Nat → Int32} {r : Int64} {K : Nat → Int64} {P : Nat → Int32} {f a : Nat} (J : own_J H K0 P0 r K P f a) : ∀ v, 0 < v → v < own_d f a → K ((f + v) % 16) ≠ -1 ∧ 0 < own_d f (H (K ((f + v) % 16))) ∧ own_d f (H (K ((f + v) % 16))) ≤ v := J.2.2.2.2.2.1
theorem own_J.dist {H : Int64 → Nat} {K0 : Nat → Int64} {P0 : Nat → Int32} {r : Int64} {K : Nat → Int64} {P : Nat → Int32} {f a : Nat} (J : own_J H K0 P0 r K P f a) : ∀ i j, i < 16 → j < 16 → i ≠ f → j ≠ f → K i ≠ -1 → K i = K j → i = j := J.2.2.2.2.2.2.1
theorem own_J.cont {H : Int64 → Nat} {K0 : Nat → Int64} {P0 : Nat → Int32} {r : Int64} {K : Nat → Int64} {P : Nat → Int32} {f a : Nat} (J : own_J H K0 P0 r K P f a) : ∀ k p, k ≠ -1 → ((∃ i, i < 16 ∧ i ≠ f ∧ K i = k ∧ P i = p) ↔ (own_Has K0 P0 k p ∧ k ≠ r)) := J.2.2.2.2.2.2.2.1
theorem own_J.free {H : Int64 → Nat} {K0 : Nat → Int64} {P0 : Nat → Int32} {r : Int64} {K : Nat → Int64} {P : Nat → Int32} {f a : Nat} (J : own_J H K0 P0 r K P f a) : ∀ i, i < 16 → (K i = -1 ↔ K0 i = -1) := J.2.2.2.2.2.2.2.2
def own_btw (f h a : Nat) : Prop := 0 < own_d f h ∧ own_d f h ≤ own_d f a
instance own_btwD (f h a : Nat) : Decidable (own_btw f h a) := inferInstanceAs (Decidable (_ ∧ _))
theorem own_J_stay {H : Int64 → Nat} (hH : ∀ k, H k < 16) {K0 P0 r K P f a} (J : own_J H K0 P0 r K P f a) (hg : ∃ g, g < 16 ∧ K0 g = -1) (ha : K a ≠ -1) (b : own_btw f (H (K a)) a) :
    own_J H K0 P0 r K P f ((a + 1) % 16) := by
  have f16 := J.f16; have a16 := J.a16; have ne := J.ne
  have key : ∀ v, 0 < v → v < own_d f a + 1 → K ((f + v) % 16) ≠ -1 ∧ 0 < own_d f (H (K ((f + v) % 16))) ∧ own_d f (H (K ((f + v) % 16))) ≤ v := fun v h1 h2 => by
    by_cases c : v < own_d f a
    · exact J.done v h1 c
    · have e : (f + v) % 16 = a := by unfold own_d at *; omega
      have e2 : v = own_d f a := by omega
      rw [e, e2]
      exact ⟨ha, b⟩
  have nf : f ≠ (a + 1) % 16 := by
    intro q
    obtain ⟨g, g16, hg⟩ := hg
    have hgf := (J.free g g16).mpr hg
    have : g ≠ f := fun z => J.hole (z ▸ hgf)
    have hv := (key (own_d f g) (by unfold own_d; omega) (by unfold own_d at *; omega)).1
    rw [(own_dd f g f16 g16).1] at hv
    exact hv hgf
  exact ⟨f16, by omega, nf, J.hole, J.path, fun v h1 h2 => key v h1 (by unfold own_d at *; omega), J.dist, J.cont, J.free⟩
theorem own_J_move {H : Int64 → Nat} (hH : ∀ k, H k < 16) {K0 P0 r K P f a} (J : own_J H K0 P0 r K P f a) (ha : K a ≠ -1) (b : ¬ own_btw f (H (K a)) a) :
    own_J H K0 P0 r (own_fu K f (K a)) (own_fu P f (P a)) a ((a + 1) % 16) := by
  have f16 := J.f16; have a16 := J.a16; have ne := J.ne
  have h1 := hH (K a)
  have nf : ∀ i, K i ≠ -1 → own_fu K f (K a) i ≠ -1 := fun i q => by
    unfold own_fu; split
    · exact ha
    · exact q
  have ea : own_fu K f (K a) a = K a := by simp [own_fu, Ne.symm ne]
  refine ⟨a16, by omega, by omega, by rw [ea]; exact ha, fun i hi hia q u hu => ?_, fun v h1 h2 => absurd h2 (by unfold own_d; omega), fun i j hi hj hia hja q e => ?_, fun k p hk => ?_, fun i hi => ?_⟩
  · by_cases c : i = f
    · subst c
      have e1 : own_fu K i (K a) i = K a := by simp [own_fu]
      rw [e1] at hu ⊢
      have hp := J.path a a16 (Ne.symm ne) ha
      refine nf _ (hp u ?_)
      unfold own_btw own_d at *
      omega
    · have e1 : own_fu K f (K a) i = K i := by simp [own_fu, c]
      rw [e1] at hu q ⊢
      exact nf _ (J.path i hi c q u hu)
  · by_cases c : i = f <;> by_cases c' : j = f
    · rw [c, c']
    · simp [own_fu, c, c'] at e
      exact absurd (J.dist a j a16 hj (Ne.symm ne) c' ha e) (Ne.symm hja)
    · simp [own_fu, c, c'] at e q
      exact absurd (J.dist i a hi a16 c (Ne.symm ne) q e) hia
    · simp [own_fu, c, c'] at e q
      exact J.dist i j hi hj c c' q e
  · rw [← J.cont k p hk]
    constructor
    · rintro ⟨i, hi, hia, e1, e2⟩
      by_cases c : i = f
      · subst c
        simp [own_fu] at e1 e2
        exact ⟨a, a16, Ne.symm ne, e1, e2⟩
      · simp [own_fu, c] at e1 e2
        exact ⟨i, hi, c, e1, e2⟩
    · rintro ⟨i, hi, hif, e1, e2⟩
      by_cases c : i = a
      · subst c
        exact ⟨f, f16, ne, by simp [own_fu, e1], by simp [own_fu, e2]⟩
      · exact ⟨i, hi, c, by simp [own_fu, hif, e1], by simp [own_fu, hif, e2]⟩
  · by_cases c : i = f
    · subst c
      have e1 : own_fu K i (K a) i = K a := by simp [own_fu]
      rw [e1]
      constructor
      · exact fun q => absurd q ha
      · exact fun q => absurd ((J.free i hi).mpr q) J.hole
    · have e1 : own_fu K f (K a) i = K i := by simp [own_fu, c]
      rw [e1]; exact J.free i hi
theorem own_J_end {H : Int64 → Nat} (hH : ∀ k, H k < 16) {K0 P0 r K P f a} (J : own_J H K0 P0 r K P f a) (ha : K a = -1) :
    own_WF H (own_fu K f (-1)) ∧ (∀ k p, k ≠ -1 → (own_Has (own_fu K f (-1)) P k p ↔ (own_Has K0 P0 k p ∧ k ≠ r))) := by
  have f16 := J.f16; have a16 := J.a16; have ne := J.ne
  refine ⟨⟨fun i hi q u hu => ?_, fun i j hi hj q e => ?_⟩, fun k p hk => ?_⟩
  · have c : i ≠ f := fun z => q (by simp [own_fu, z])
    have e1 : own_fu K f (-1) i = K i := by simp [own_fu, c]
    rw [e1] at q hu ⊢
    have h1 := hH (K i)
    have hp := J.path i hi c q
    have hne : (H (K i) + u) % 16 ≠ f := by
      intro z
      by_cases w : own_d f i < own_d f a
      · have := J.done (own_d f i) (by unfold own_d; omega) w
        rw [(own_dd f i f16 hi).1] at this
        unfold own_d at *
        omega
      · have hai : a ≠ i := fun z => q (z ▸ ha)
        have hx : own_d (H (K i)) a < own_d (H (K i)) i := by unfold own_d at *; omega
        have := hp _ hx
        rw [(own_dd (H (K i)) a h1 a16).1] at this
        exact this ha
    have := hp u hu
    simpa [own_fu, hne] using this
  · have c : i ≠ f := fun z => q (by simp [own_fu, z])
    have c' : j ≠ f := fun z => q (by rw [e]; simp [own_fu, z])
    simp [own_fu, c, c'] at e q
    exact J.dist i j hi hj c c' q e
  · rw [← J.cont k p hk]
    constructor
    · rintro ⟨i, hi, e1, e2⟩
      by_cases c : i = f
      · simp [own_fu, c] at e1
        exact absurd e1.symm hk
      · simp [own_fu, c] at e1
        exact ⟨i, hi, c, e1, e2⟩
    · rintro ⟨i, hi, hif, e1, e2⟩
      exact ⟨i, hi, by simp [own_fu, hif, e1], e2⟩
theorem own_J_start {H : Int64 → Nat} {K P} (W : own_WF H K) {i : Nat} (hi : i < 16) {r : Int64} (hr : r ≠ -1) (e : K i = r) :
    own_J H K P r K P i ((i + 1) % 16) := by
  refine ⟨hi, by omega, by omega, by rw [e]; exact hr, fun j hj _ q => W.path j hj q, fun v h1 h2 => absurd h2 (by unfold own_d; omega), fun j j' hj hj' _ _ q z => W.dist j j' hj hj' q z, fun k p hk => ?_, fun _ _ => Iff.rfl⟩
  constructor
  · rintro ⟨j, hj, hji, e1, e2⟩
    exact ⟨⟨j, hj, e1, e2⟩, fun z => hji (W.dist j i hj hi (by rw [e1]; exact hk) (by rw [e1, e, z]))⟩
  · rintro ⟨⟨j, hj, e1, e2⟩, q⟩
    exact ⟨j, hj, fun z => q (by rw [← e1, z, e]), e1, e2⟩

/-! lists -/
def own_K (ks : List Int64) : Nat → Int64 := fun i => ks.getD i 0
def own_P (ps : List Int32) : Nat → Int32 := fun i => ps.getD i 0
theorem own_Kset {ks : List Int64} {f : Nat} (x : Int64) (h : f < ks.length) : own_K (ks.set f x) = own_fu (own_K ks) f x := by
  funext i
  simp only [own_K, own_fu, List.getD_eq_getElem?_getD, List.getElem?_set]
  by_cases c : f = i
  · subst c; simp [h]
  · simp [c, Ne.symm c]
theorem own_Pset {ks : List Int32} {f : Nat} (x : Int32) (h : f < ks.length) : own_P (ks.set f x) = own_fu (own_P ks) f x := by
  funext i
  simp only [own_P, own_fu, List.getD_eq_getElem?_getD, List.getElem?_set]
  by_cases c : f = i
  · subst c; simp [h]
  · simp [c, Ne.symm c]
def own_rsk (H : Int64 → Nat) (ks : List Int64) (f a : Nat) : List Int64 := if own_btw f (H (own_K ks a)) a then ks else ks.set f (own_K ks a)
def own_rsp (H : Int64 → Nat) (ks : List Int64) (ps : List Int32) (f a : Nat) : List Int32 := if own_btw f (H (own_K ks a)) a then ps else ps.set f (own_P ps a)
def own_rsf (H : Int64 → Nat) (ks : List Int64) (f a : Nat) : Nat := if own_btw f (H (own_K ks a)) a then f else a
def own_rm (H : Int64 → Nat) : Nat → List Int64 → List Int32 → Nat → Nat → List Int64 × List Int32
  | 0, ks, ps, f, _ => (ks.set f (-1), ps)
  | n + 1, ks, ps, f, a => own_rm H n (own_rsk H ks f a) (own_rsp H ks ps f a) (own_rsf H ks f a) ((a + 1) % 16)
def own_ok (H : Int64 → Nat) : Nat → List Int64 → Nat → Nat → Prop
  | 0, ks, _, a => own_K ks a = -1
  | n + 1, ks, f, a => own_K ks a ≠ -1 ∧ own_ok H n (own_rsk H ks f a) (own_rsf H ks f a) ((a + 1) % 16)
theorem own_rm_spec {H : Int64 → Nat} (hH : ∀ k, H k < 16) {K0 P0 r} (hg : ∃ g, g < 16 ∧ K0 g = -1) : ∀ n ks ps f a, ks.length = 16 → ps.length = 16 → own_J H K0 P0 r (own_K ks) (own_P ps) f a → K0 ((a + n) % 16) = -1 → (∀ u, u < n → K0 ((a + u) % 16) ≠ -1) →
    own_ok H n ks f a ∧ (own_rm H n ks ps f a).1.length = 16 ∧ (own_rm H n ks ps f a).2.length = 16 ∧ own_WF H (own_K (own_rm H n ks ps f a).1) ∧ (∀ k p, k ≠ -1 → (own_Has (own_K (own_rm H n ks ps f a).1) (own_P (own_rm H n ks ps f a).2) k p ↔ (own_Has K0 P0 k p ∧ k ≠ r))) ∧ (∀ i, i < 16 → K0 i = -1 → own_K (own_rm H n ks ps f a).1 i = -1) := by
  intro n
  induction n with
  | zero =>
    intro ks ps f a l1 l2 J h0 _
    have a16 := J.a16
    have ha : own_K ks a = -1 := (J.free a a16).mpr (by simpa [Nat.mod_eq_of_lt a16] using h0)
    obtain ⟨w1, w2⟩ := own_J_end hH J ha
    refine ⟨ha, by simp [own_rm, l1], by simp [own_rm, l2], ?_, ?_, fun i hi q => ?_⟩
    · show own_WF H (own_K (ks.set f (-1)))
      rw [own_Kset _ (by rw [l1]; exact J.f16)]; exact w1
    · show ∀ k p, k ≠ -1 → (own_Has (own_K (ks.set f (-1))) (own_P ps) k p ↔ _)
      rw [own_Kset _ (by rw [l1]; exact J.f16)]; exact w2
    · show own_K (ks.set f (-1)) i = -1
      rw [own_Kset _ (by rw [l1]; exact J.f16)]
      unfold own_fu; split
      · rfl
      · exact (J.free i hi).mpr q
  | succ n ih =>
    intro ks ps f a l1 l2 J h0 hu
    have a16 := J.a16
    have ha : own_K ks a ≠ -1 := fun q => hu 0 (by omega) (by simpa [Nat.mod_eq_of_lt a16] using (J.free a a16).mp q)
    have h0' : K0 (((a + 1) % 16 + n) % 16) = -1 := by rw [← h0]; congr 1; omega
    have hu' : ∀ u, u < n → K0 (((a + 1) % 16 + u) % 16) ≠ -1 := fun u q => by
      have := hu (u + 1) (by omega)
      rwa [show (a + (u + 1)) % 16 = ((a + 1) % 16 + u) % 16 by omega] at this
    by_cases b : own_btw f (H (own_K ks a)) a
    · have J' := own_J_stay hH J hg ha b
      have e1 : own_rsk H ks f a = ks := by simp [own_rsk, b]
      have e2 : own_rsp H ks ps f a = ps := by simp [own_rsp, b]
      have e3 : own_rsf H ks f a = f := by simp [own_rsf, b]
      have := ih ks ps f ((a + 1) % 16) l1 l2 J' h0' hu'
      refine ⟨⟨ha, ?_⟩, ?_⟩
      · rw [e1, e3]; exact this.1
      · simp only [own_rm, e1, e2, e3]; exact this.2
    · have J' := own_J_move hH J ha b
      rw [← own_Kset (ks := ks) _ (by rw [l1]; exact J.f16), ← own_Pset (ks := ps) _ (by rw [l2]; exact J.f16)] at J'
      have e1 : own_rsk H ks f a = ks.set f (own_K ks a) := by simp [own_rsk, b]
      have e2 : own_rsp H ks ps f a = ps.set f (own_P ps a) := by simp [own_rsp, b]
      have e3 : own_rsf H ks f a = a := by simp [own_rsf, b]
      have := ih _ _ _ _ (by simp [l1]) (by simp [l2]) J' h0' hu'
      refine ⟨⟨ha, ?_⟩, ?_⟩
      · rw [e1, e3]; exact this.1
      · simp only [own_rm, e1, e2, e3]; exact this.2

/-! the table -/
def own_Tb (H : Int64 → Nat) (ks : List Int64) (ps : List Int32) (m : List (Int64 × Int32)) (U : List Nat) : Prop :=
  ks.length = 16 ∧ ps.length = 16 ∧ own_WF H (own_K ks) ∧ (∀ k p, k ≠ -1 → (own_Has (own_K ks) (own_P ps) k p ↔ (k, p) ∈ m)) ∧ (∀ i, i < 16 → i ∉ U → own_K ks i = -1)
theorem own_hole4 (a b c d : Nat) : ∃ g, g < 16 ∧ g ≠ a ∧ g ≠ b ∧ g ≠ c ∧ g ≠ d := by
  refine Classical.byContradiction fun h => ?_
  have h0 : ¬ (0 ≠ a ∧ 0 ≠ b ∧ 0 ≠ c ∧ 0 ≠ d) := fun q => h ⟨0, by omega, q⟩
  have h1 : ¬ (1 ≠ a ∧ 1 ≠ b ∧ 1 ≠ c ∧ 1 ≠ d) := fun q => h ⟨1, by omega, q⟩
  have h2 : ¬ (2 ≠ a ∧ 2 ≠ b ∧ 2 ≠ c ∧ 2 ≠ d) := fun q => h ⟨2, by omega, q⟩
  have h3 : ¬ (3 ≠ a ∧ 3 ≠ b ∧ 3 ≠ c ∧ 3 ≠ d) := fun q => h ⟨3, by omega, q⟩
  have h4 : ¬ (4 ≠ a ∧ 4 ≠ b ∧ 4 ≠ c ∧ 4 ≠ d) := fun q => h ⟨4, by omega, q⟩
  omega
theorem own_hole (U : List Nat) (h : U.length ≤ 4) : ∃ g, g < 16 ∧ g ∉ U := by
  match U, h with
  | [], _ => exact ⟨0, by omega, by simp⟩
  | [a], _ => obtain ⟨g, h1, h2⟩ := own_hole4 a a a a; exact ⟨g, h1, by simpa using h2.1⟩
  | [a, b], _ => obtain ⟨g, h1, h2⟩ := own_hole4 a b a a; exact ⟨g, h1, by simp only [List.mem_cons, List.not_mem_nil, or_false, not_or]; exact ⟨h2.1, h2.2.1⟩⟩
  | [a, b, c], _ => obtain ⟨g, h1, h2⟩ := own_hole4 a b c a; exact ⟨g, h1, by simp only [List.mem_cons, List.not_mem_nil, or_false, not_or]; exact ⟨h2.1, h2.2.1, h2.2.2.1⟩⟩
  | [a, b, c, d], _ => obtain ⟨g, h1, h2⟩ := own_hole4 a b c d; exact ⟨g, h1, by simp only [List.mem_cons, List.not_mem_nil, or_false, not_or]; exact h2⟩
theorem own_Tb.free {H ks ps m U} (T : own_Tb H ks ps m U) (h : U.length ≤ 4) : ∃ g, g < 16 ∧ own_K ks g = -1 := by
  obtain ⟨g, h1, h2⟩ := own_hole U h
  exact ⟨g, h1, T.2.2.2.2 g h1 h2⟩
theorem own_Tb.absent {H ks ps m U} (T : own_Tb H ks ps m U) {k : Int64} (hk : k ≠ -1) (hm : ∀ p, (k, p) ∉ m) : ∀ i, i < 16 → own_K ks i ≠ k := fun i hi e =>
  hm _ ((T.2.2.2.1 k _ hk).mp ⟨i, hi, e, rfl⟩)
theorem own_Tb.put {H : Int64 → Nat} (hH : ∀ k, H k < 16) {ks ps m U} (T : own_Tb H ks ps m U) (h : U.length ≤ 4) {k : Int64} (hk : k ≠ -1) (hm : ∀ p, (k, p) ∉ m) (p : Int32) :
    ∃ t, t < 16 ∧ own_K ks ((H k + t) % 16) = -1 ∧ (∀ u, u < t → own_K ks ((H k + u) % 16) ≠ -1) ∧ own_Tb H (ks.set ((H k + t) % 16) k) (ps.set ((H k + t) % 16) p) ((k, p) :: m) ((H k + t) % 16 :: U) := by
  obtain ⟨g, g16, hg⟩ := T.free h
  have ab := T.absent hk hm
  obtain ⟨t, h1, h2, h3⟩ := own_miss hH g16 hg ab
  have j16 : (H k + t) % 16 < 16 := by omega
  refine ⟨t, h1, h2, fun u hu => (h3 u hu).2, by simp [T.1], by simp [T.2.1], ?_, ?_, ?_⟩
  · rw [own_Kset _ (by rw [T.1]; exact j16)]
    exact own_put hH T.2.2.1 hk ab h1 h2 (fun u hu => (h3 u hu).2)
  · intro k' p' hk'
    rw [own_Kset _ (by rw [T.1]; exact j16), own_Pset _ (by rw [T.2.1]; exact j16)]
    simp only [List.mem_cons, Prod.mk.injEq]
    rw [← T.2.2.2.1 k' p' hk']
    constructor
    · rintro ⟨i, hi, e1, e2⟩
      by_cases c : i = (H k + t) % 16
      · simp [own_fu, c] at e1 e2
        exact Or.inl ⟨e1.symm, e2.symm⟩
      · simp [own_fu, c] at e1 e2
        exact Or.inr ⟨i, hi, e1, e2⟩
    · rintro (⟨e1, e2⟩ | ⟨i, hi, e1, e2⟩)
      · exact ⟨_, j16, by simp [own_fu, e1], by simp [own_fu, e2]⟩
      · have c : i ≠ (H k + t) % 16 := fun z => hk' (by rw [← e1, z, h2])
        exact ⟨i, hi, by simp [own_fu, c, e1], by simp [own_fu, c, e2]⟩
  · intro i hi hu
    simp only [List.mem_cons, not_or] at hu
    rw [own_Kset _ (by rw [T.1]; exact j16)]
    simp only [own_fu, hu.1, if_false]
    exact T.2.2.2.2 i hi hu.2
theorem own_Tb.get {H : Int64 → Nat} (hH : ∀ k, H k < 16) {ks ps m U} (T : own_Tb H ks ps m U) {k : Int64} (hk : k ≠ -1) {p : Int32} (hm : (k, p) ∈ m) :
    ∃ t, t < 16 ∧ own_K ks ((H k + t) % 16) = k ∧ own_P ps ((H k + t) % 16) = p ∧ ∀ u, u < t → own_K ks ((H k + u) % 16) ≠ k ∧ own_K ks ((H k + u) % 16) ≠ -1 := by
  obtain ⟨i, hi, e1, e2⟩ := (T.2.2.2.1 k p hk).mpr hm
  obtain ⟨t, h1, h2, h3⟩ := own_find hH T.2.2.1 hi hk e1
  exact ⟨t, h1, by rw [h2]; exact e1, by rw [h2]; exact e2, h3⟩
theorem own_Tb.getn {H : Int64 → Nat} (hH : ∀ k, H k < 16) {ks ps m U} (T : own_Tb H ks ps m U) (h : U.length ≤ 4) {k : Int64} (hk : k ≠ -1) (hm : ∀ p, (k, p) ∉ m) :
    ∃ t, t < 16 ∧ own_K ks ((H k + t) % 16) = -1 ∧ ∀ u, u < t → own_K ks ((H k + u) % 16) ≠ k ∧ own_K ks ((H k + u) % 16) ≠ -1 := by
  obtain ⟨g, g16, hg⟩ := T.free h
  exact own_miss hH g16 hg (T.absent hk hm)
theorem own_Tb.remove {H : Int64 → Nat} (hH : ∀ k, H k < 16) {ks ps m U} (T : own_Tb H ks ps m U) (h : U.length ≤ 4) {k : Int64} (hk : k ≠ -1) {t : Nat} (ht : own_K ks ((H k + t) % 16) = k) :
    ∃ n, own_ok H n ks ((H k + t) % 16) (((H k + t) % 16 + 1) % 16) ∧ own_Tb H (own_rm H n ks ps ((H k + t) % 16) (((H k + t) % 16 + 1) % 16)).1 (own_rm H n ks ps ((H k + t) % 16) (((H k + t) % 16 + 1) % 16)).2 (m.filter fun z => z.1 ≠ k) U := by
  have j16 : (H k + t) % 16 < 16 := by omega
  generalize (H k + t) % 16 = j at *
  obtain ⟨g, g16, hg⟩ := T.free h
  have J := own_J_start (P := own_P ps) T.2.2.1 j16 hk ht
  have a16 : (j + 1) % 16 < 16 := by omega
  obtain ⟨n, -, hn, hl⟩ := own_least (fun n => own_K ks (((j + 1) % 16 + n) % 16) = -1) (own_d ((j + 1) % 16) g) (by show own_K ks _ = _; rw [(own_dd _ g a16 g16).1]; exact hg)
  obtain ⟨q1, q2, q3, q4, q5, q6⟩ := own_rm_spec hH ⟨g, g16, hg⟩ n ks ps j ((j + 1) % 16) T.1 T.2.1 J hn hl
  refine ⟨n, q1, q2, q3, q4, fun k' p' hk' => ?_, fun i hi hu => q6 i hi (T.2.2.2.2 i hi hu)⟩
  rw [q5 k' p' hk', T.2.2.2.1 k' p' hk']
  simp
def own_home (k : Int64) : Nat := ((k * (-7046029254386353131 : Int64)).toUInt64 >>> (60 : UInt64)).toNat
theorem own_home_lt (k : Int64) : own_home k < 16 := by
  unfold own_home
  rw [UInt64.toNat_shiftRight]
  have h := UInt64.toNat_lt (k * (-7046029254386353131 : Int64)).toUInt64
  rw [show (60 : UInt64).toNat % 64 = 60 from rfl, Nat.shiftRight_eq_div_pow]
  omega
theorem own_slot_eq (x : UInt64) : x.toInt64.toInt32 = Int32.ofNat x.toNat := by
  apply Int32.toBitVec_inj.mp
  simp
  rw [BitVec.signExtend_eq_setWidth_of_le _ (by decide)]
  apply BitVec.eq_of_toNat_eq
  simp
theorem own_nx {i : Nat} (hi : i < 16) : (Int32.ofNat i + (1 : Int32)) &&& (15 : Int32) = Int32.ofNat ((i + 1) % 16) := by
  have : ∀ j : Fin 16, (Int32.ofNat j.val + (1 : Int32)) &&& (15 : Int32) = Int32.ofNat ((j.val + 1) % 16) := by decide
  exact this ⟨i, hi⟩
theorem own_cl {i : Nat} (hi : i < 16) : (Int32.ofNat i).toNatClampNeg = i := by
  have : ∀ j : Fin 16, (Int32.ofNat j.val).toNatClampNeg = j.val := by decide
  exact this ⟨i, hi⟩
theorem own_ib {i : Nat} (hi : i < 16) : ¬ Int32.ofNat i < 0 ∧ Int32.ofNat i < (16 : Int32) := by
  have : ∀ j : Fin 16, ¬ Int32.ofNat j.val < 0 ∧ Int32.ofNat j.val < (16 : Int32) := by decide
  exact this ⟨i, hi⟩
theorem own_lt16 {i j : Nat} (hi : i < 16) (hj : j < 16) : (Int32.ofNat i < Int32.ofNat j ↔ i < j) := by
  have : ∀ a b : Fin 16, (Int32.ofNat a.val < Int32.ofNat b.val ↔ a.val < b.val) := by decide
  exact this ⟨i, hi⟩ ⟨j, hj⟩

theorem own_rdK (ks : List Int64) {i : Nat} (hi : i < 16) : (ks.map Value.long).getD (Int32.ofNat i).toNatClampNeg (.long (0 : Int64)) = .long (own_K ks i) := by
  rw [own_cl hi]
  simp only [own_K, List.getD_eq_getElem?_getD, List.getElem?_map]
  cases ks[i]? <;> rfl
theorem own_rdP (ps : List Int32) {i : Nat} (hi : i < 16) : (ps.map Value.int).getD (Int32.ofNat i).toNatClampNeg (.int (0 : Int32)) = .int (own_P ps i) := by
  rw [own_cl hi]
  simp only [own_P, List.getD_eq_getElem?_getD, List.getElem?_map]
  cases ps[i]? <;> rfl
def own_gv (ks : List Int64) (ps : List Int32) (q : Int64) (t : Nat) : Int32 := if own_K ks ((own_home q + t) % 16) = q then own_P ps ((own_home q + t) % 16) else -1

def own_okv (g i r : Int32) : Int32 := if i = r then (if g = -1 then 1 else 0) else (if g = i then 1 else 0)

theorem own_nn (x : Int64) : x &&& (9223372036854775807 : Int64) ≠ -1 := by
  intro q
  have := c_maskL x 9223372036854775807 63 (by decide) (by decide)
  rw [q, show (-1 : Int64).toInt = -1 from rfl] at this
  omega
theorem own_rem5 (x : Int32) : (x &&& 2147483647) % 5 = 0 ∨ (x &&& 2147483647) % 5 = 1 ∨ (x &&& 2147483647) % 5 = 2 ∨ (x &&& 2147483647) % 5 = 3 ∨ (x &&& 2147483647) % 5 = 4 := by
  have h0 := c_mask x 2147483647 31 (by decide) (by decide)
  have h1 := (c_irem (x &&& 2147483647) 5 5 (by decide)).1 (by omega)
  have h2 : ((x &&& 2147483647) % 5).toInt = 0 ∨ ((x &&& 2147483647) % 5).toInt = 1 ∨ ((x &&& 2147483647) % 5).toInt = 2 ∨ ((x &&& 2147483647) % 5).toInt = 3 ∨ ((x &&& 2147483647) % 5).toInt = 4 := by omega
  rcases h2 with h | h | h | h | h
  · exact Or.inl (Int32.toInt_inj.mp h)
  · exact Or.inr (Or.inl (Int32.toInt_inj.mp h))
  · exact Or.inr (Or.inr (Or.inl (Int32.toInt_inj.mp h)))
  · exact Or.inr (Or.inr (Or.inr (Or.inl (Int32.toInt_inj.mp h))))
  · exact Or.inr (Or.inr (Or.inr (Or.inr (Int32.toInt_inj.mp h))))
theorem own_K0 (i : Nat) (hi : i < 16) : own_K (List.replicate 16 (-1 : Int64)) i = -1 := by
  unfold own_K
  rw [List.getD_eq_getElem?_getD, List.getElem?_replicate, if_pos hi]; rfl
theorem own_Tb0 : own_Tb own_home (List.replicate 16 (-1 : Int64)) (List.replicate 16 (0 : Int32)) [] [] := by
  refine ⟨rfl, rfl, ⟨fun i hi q => absurd (own_K0 i hi) q, fun i j hi hj q => absurd (own_K0 i hi) q⟩, fun k p hk => ?_, fun i hi _ => own_K0 i hi⟩
  constructor
  · rintro ⟨i, hi, e, -⟩
    exact absurd ((own_K0 i hi).symm.trans e).symm hk
  · intro h; cases h

theorem d7_0 : decode jdk_33_method_48_code 0 = .ok (.iload_n 0, 1) := by decide +kernel
theorem d7_1 : decode jdk_33_method_48_code 1 = .ok (.iconst (-1), 1) := by decide +kernel
theorem d7_2 : decode jdk_33_method_48_code 2 = .ok (.ixor, 1) := by decide +kernel
theorem d7_3 : decode jdk_33_method_48_code 3 = .ok (.iload_n 0, 1) := by decide +kernel
theorem d7_4 : decode jdk_33_method_48_code 4 = .ok (.iconst 1, 1) := by decide +kernel
theorem d7_5 : decode jdk_33_method_48_code 5 = .ok (.isub, 1) := by decide +kernel
theorem d7_6 : decode jdk_33_method_48_code 6 = .ok (.iand, 1) := by decide +kernel
theorem d7_7 : decode jdk_33_method_48_code 7 = .ok (.istore_n 0, 1) := by decide +kernel
theorem d7_8 : decode jdk_33_method_48_code 8 = .ok (.iload_n 0, 1) := by decide +kernel
theorem d7_9 : decode jdk_33_method_48_code 9 = .ok (.ifCond .gt 8, 3) := by decide +kernel
theorem d7_17 : decode jdk_33_method_48_code 17 = .ok (.iconst 1, 1) := by decide +kernel
theorem d7_18 : decode jdk_33_method_48_code 18 = .ok (.istore_n 1, 1) := by decide +kernel
theorem d7_19 : decode jdk_33_method_48_code 19 = .ok (.iload_n 0, 1) := by decide +kernel
theorem d7_20 : decode jdk_33_method_48_code 20 = .ok (.ldc_w 264, 3) := by decide +kernel
theorem d7_23 : decode jdk_33_method_48_code 23 = .ok (.if_icmp .le 11, 3) := by decide +kernel
theorem d7_34 : decode jdk_33_method_48_code 34 = .ok (.iload_n 0, 1) := by decide +kernel
theorem d7_35 : decode jdk_33_method_48_code 35 = .ok (.sipush 256, 3) := by decide +kernel
theorem d7_38 : decode jdk_33_method_48_code 38 = .ok (.if_icmp .le 11, 3) := by decide +kernel
theorem d7_49 : decode jdk_33_method_48_code 49 = .ok (.iload_n 0, 1) := by decide +kernel
theorem d7_50 : decode jdk_33_method_48_code 50 = .ok (.bipush 16, 2) := by decide +kernel
theorem d7_52 : decode jdk_33_method_48_code 52 = .ok (.if_icmp .le 10, 3) := by decide +kernel
theorem d7_62 : decode jdk_33_method_48_code 62 = .ok (.iload_n 0, 1) := by decide +kernel
theorem d7_63 : decode jdk_33_method_48_code 63 = .ok (.iconst 4, 1) := by decide +kernel
theorem d7_64 : decode jdk_33_method_48_code 64 = .ok (.if_icmp .le 10, 3) := by decide +kernel
theorem d7_67 : decode jdk_33_method_48_code 67 = .ok (.iinc 1 2, 3) := by decide +kernel
theorem d7_70 : decode jdk_33_method_48_code 70 = .ok (.iload_n 0, 1) := by decide +kernel
theorem d7_71 : decode jdk_33_method_48_code 71 = .ok (.iconst 2, 1) := by decide +kernel
theorem d7_72 : decode jdk_33_method_48_code 72 = .ok (.iushr, 1) := by decide +kernel
theorem d7_73 : decode jdk_33_method_48_code 73 = .ok (.istore_n 0, 1) := by decide +kernel
theorem d7_74 : decode jdk_33_method_48_code 74 = .ok (.iload_n 1, 1) := by decide +kernel
theorem d7_75 : decode jdk_33_method_48_code 75 = .ok (.iload_n 0, 1) := by decide +kernel
theorem d7_76 : decode jdk_33_method_48_code 76 = .ok (.iconst 1, 1) := by decide +kernel
theorem d7_77 : decode jdk_33_method_48_code 77 = .ok (.iushr, 1) := by decide +kernel
theorem d7_78 : decode jdk_33_method_48_code 78 = .ok (.iadd, 1) := by decide +kernel
theorem d7_79 : decode jdk_33_method_48_code 79 = .ok (.ireturn, 1) := by decide +kernel
theorem pn7 : plainFor (⟨"java/lang/Integer", "numberOfTrailingZeros", "(I)I"⟩ : MethodName) = true := plainFor_of_name (by first | (simp [plainName, overriddenIn]; done) | decide +kernel)
theorem ef_rm7 (m : MethodId)  : entryFrame m #[(.int (16 : Int32))] 2 = mkF m 0 #[.val (.int (16 : Int32)), .unset] [] := by first | (simp [entryFrame, mkF, argsToLocals, Value.category]; done) | rfl
def Q7 (Z : State)  (h0 : Heap) (n0 : Nat) (v : Option Value) (h : Heap) (L : List Loc) : Prop := v = some (.int (4 : Int32)) ∧ Fr n0 L ∧ (h = h0)
set_option maxRecDepth 65536 in
set_option maxHeartbeats 40000000 in
theorem rm7 (l : Launch) (Z : State) (a0 : Array Value) (hw : ∀ d ∈ tables_1, d.before a0 Z = true) (ws : List Jvm.Cond)  (h0 : Heap) (n0 : Nat) (Z0 : n0 ≤ h0.size) :
    MetFree l (⟨"java/lang/Integer", "numberOfTrailingZeros", "(I)I"⟩ : MethodName) (head1 (Jvm.Cond.code (⟨"java/lang/Integer", "numberOfTrailingZeros", "(I)I"⟩ : MethodName) jdk_33_method_48_code 2 (some .int) :: ws) ({ frames := 0, cells := 0, slots := 0, locals := 0 } : Room)) (fun a U => a = #[(.int (16 : Int32))] ∧ Z.Warmed39 U.vm ∧ U.heap = h0) (fun _ _ _ _ _ => True) (fun _ U o U' => ∃ v L, o = .returned v ∧ Q7 Z  h0 n0 v U'.heap L ∧ FrameEnd U o U' L ({ frames := 0, cells := 0, slots := 0, locals := 0 } : Room).cells ({ frames := 0, cells := 0, slots := 0, locals := 0 } : Room).slots) := by
  refine MetFree.of_bodySF pn7 hisR ?_
  intro p e s m args below meth c s₁ Bd hml0 hP hK
  obtain ⟨rfl, hZ, hh⟩ := hP
  have hx := Bd.exec
  have hby := Bd.bytes
  have hml : c.maxLocals = 2 := hml0
  have hown : s.vm.findClass "java/lang/Integer" = some m.cls := findClass_of_methodNamed Bd.named
  have hnm := (name_of_methodNamed Bd.named Bd.method).1
  have X0 : Stand p l e ({ frames := 0, cells := 0, slots := 0, locals := 0 } : Room) s m #[(.int (16 : Int32))] below meth c s₁ [] 0 0 := Stand.of_body Bd
  have e0 : s₁.heap = h0 := by rw [← hh, Bd.state]; rfl
  have N0 := Fr.nil n0
  have p0 : Go p.tables e below (s₁.setTop (entryFrame m #[(.int (16 : Int32))] 2)) (s₁.setTop (mkF m 0 #[.val (.int (16 : Int32)), .unset] [])) := fun t_ k_ => castTop (ef_rm7 m ) k_
  have p101 : Go p.tables e below _ (s₁.setTop (mkF m 79 #[.val (.int (3 : Int32)), .val (.int (3 : Int32))] [(.int (4 : Int32))])) := fun t_ k_ => p0 t_ (by
    refine XS.iloadN X0.here hx rfl (hb hby d7_0) rfl ?_
    refine XS.iconst X0.here hx rfl (hb hby d7_1) ?_
    refine XS.ixor X0.here hx rfl (hb hby d7_2) rfl ?_
    refine XS.iloadN X0.here hx rfl (hb hby d7_3) rfl ?_
    refine XS.iconst X0.here hx rfl (hb hby d7_4) ?_
    refine XS.isub X0.here hx rfl (hb hby d7_5) rfl ?_
    refine XS.iand X0.here hx rfl (hb hby d7_6) rfl ?_
    refine XS.istoreN X0.here hx rfl (hb hby d7_7) rfl (l' := #[.val (.int (15 : Int32)), .unset]) rfl ?_
    refine XS.iloadN X0.here hx rfl (hb hby d7_8) rfl ?_
    refine XS.ifYes X0.here hx rfl (pc0 := 9) (pc' := 17) rfl (hb hby d7_9) rfl ((if0 _ _).trans (tlt (by decide : ((0 : Int32) < (15 : Int32)))).2.2.1) (by decide) (by decide) ?_
    refine XS.iconst X0.here hx rfl (hb hby d7_17) ?_
    refine XS.istoreN X0.here hx rfl (hb hby d7_18) rfl (l' := #[.val (.int (15 : Int32)), .val (.int (1 : Int32))]) rfl ?_
    refine XS.iloadN X0.here hx rfl (hb hby d7_19) rfl ?_
    refine X0.ldcwInt hx hown (mvT hZ (own_w hw 41 rfl)) (g := (mkF m 20 #[.val (.int (15 : Int32)), .val (.int (1 : Int32))] [(.int (15 : Int32))])) rfl (hb hby d7_20) _ ?_
    refine XS.icmpYes X0.here hx rfl (pc0 := 23) (pc' := 34) rfl (hb hby d7_23) rfl (flt (by decide : ¬ ((65536 : Int32) < (15 : Int32)))).2.2.2 (by decide) (by decide) ?_
    refine XS.iloadN X0.here hx rfl (hb hby d7_34) rfl ?_
    refine XS.sipush X0.here hx rfl (hb hby d7_35) ?_
    refine XS.icmpYes X0.here hx rfl (pc0 := 38) (pc' := 49) rfl (hb hby d7_38) rfl (flt (by decide : ¬ ((256 : Int32) < (15 : Int32)))).2.2.2 (by decide) (by decide) ?_
    refine XS.iloadN X0.here hx rfl (hb hby d7_49) rfl ?_
    refine XS.bipush X0.here hx rfl (hb hby d7_50) ?_
    refine XS.icmpYes X0.here hx rfl (pc0 := 52) (pc' := 62) rfl (hb hby d7_52) rfl (flt (by decide : ¬ ((16 : Int32) < (15 : Int32)))).2.2.2 (by decide) (by decide) ?_
    refine XS.iloadN X0.here hx rfl (hb hby d7_62) rfl ?_
    refine XS.iconst X0.here hx rfl (hb hby d7_63) ?_
    refine XS.icmpNo X0.here hx rfl (hb hby d7_64) rfl (tlt (by decide : ((4 : Int32) < (15 : Int32)))).2.2.2 ?_
    refine XS.iinc X0.here hx rfl (hb hby d7_67) rfl (l' := #[.val (.int (15 : Int32)), .val (.int (3 : Int32))]) rfl ?_
    refine XS.iloadN X0.here hx rfl (hb hby d7_70) rfl ?_
    refine XS.iconst X0.here hx rfl (hb hby d7_71) ?_
    refine XS.iushr X0.here hx rfl (hb hby d7_72) rfl ?_
    refine XS.istoreN X0.here hx rfl (hb hby d7_73) rfl (l' := #[.val (.int (3 : Int32)), .val (.int (3 : Int32))]) rfl ?_
    refine XS.iloadN X0.here hx rfl (hb hby d7_74) rfl ?_
    refine XS.iloadN X0.here hx rfl (hb hby d7_75) rfl ?_
    refine XS.iconst X0.here hx rfl (hb hby d7_76) ?_
    refine XS.iushr X0.here hx rfl (hb hby d7_77) rfl ?_
    refine XS.iadd X0.here hx rfl (hb hby d7_78) rfl ?_
    exact k_)
  obtain ⟨fs, hr, hrun, hended, hW, hsame⟩ := X0.leave (v := some (.int (4 : Int32))) (fun h => by rw [Bd.returns] at h; cases h)
  refine ⟨_, _, p101 _ (retI X0 hx Bd.returns (hb hby d7_79) hr), hrun, hended, _, _, rfl, ?_, ⟨_, rfl⟩, hW, hsame.mono (by decide) (by decide)⟩
  show Q7 Z  h0 n0 _ s₁.heap _
  rw [e0]
  exact ⟨rfl, N0, rfl⟩
theorem d6_0 : decode prog_46_method_7_code 0 = .ok (.lload_n 1, 1) := by decide +kernel
theorem d6_1 : decode prog_46_method_7_code 1 = .ok (.ldc2_w 45, 3) := by decide +kernel
theorem d6_4 : decode prog_46_method_7_code 4 = .ok (.lmul, 1) := by decide +kernel
theorem d6_5 : decode prog_46_method_7_code 5 = .ok (.bipush 64, 2) := by decide +kernel
theorem d6_7 : decode prog_46_method_7_code 7 = .ok (.aload_n 0, 1) := by decide +kernel
theorem d6_8 : decode prog_46_method_7_code 8 = .ok (.getfield 13, 3) := by decide +kernel
theorem d6_11 : decode prog_46_method_7_code 11 = .ok (.arraylength, 1) := by decide +kernel
theorem d6_12 : decode prog_46_method_7_code 12 = .ok (.invokestatic 49, 3) := by decide +kernel
theorem d6_15 : decode prog_46_method_7_code 15 = .ok (.isub, 1) := by decide +kernel
theorem d6_16 : decode prog_46_method_7_code 16 = .ok (.lushr, 1) := by decide +kernel
theorem d6_17 : decode prog_46_method_7_code 17 = .ok (.l2i, 1) := by decide +kernel
theorem d6_18 : decode prog_46_method_7_code 18 = .ok (.ireturn, 1) := by decide +kernel
theorem pd0 : parseMethodDescriptor "(I)I" = some ⟨[.int], some .int⟩ := by decide +kernel
theorem pn6 : plainFor (⟨"com/example/subsume/subsume/reasoner/Positions", "slot", "(J)I"⟩ : MethodName) = true := plainFor_of_name (by first | (simp [plainName, overriddenIn]; done) | decide +kernel)
theorem ef_rm6 (m : MethodId) (a1 : Addr) (q2 : Int64) (bk : Addr) (kk : ClassId) (ks : List Int64) : entryFrame m #[(.ref a1), (.long q2)] 3 = mkF m 0 #[.val (.ref a1), .val (.long q2), .second] [] := by first | (simp [entryFrame, mkF, argsToLocals, Value.category]; done) | rfl
def Q6 (Z : State) (a1 : Addr) (q2 : Int64) (bk : Addr) (kk : ClassId) (ks : List Int64) (h0 : Heap) (n0 : Nat) (v : Option Value) (h : Heap) (L : List Loc) : Prop := v = some (.int (Int32.ofNat (own_home q2))) ∧ Fr n0 L ∧ (h = h0)
set_option maxRecDepth 65536 in
set_option maxHeartbeats 40000000 in
theorem rm6 (l : Launch) (Z : State) (a0 : Array Value) (hw : ∀ d ∈ tables_1, d.before a0 Z = true) (ws : List Jvm.Cond) (a1 : Addr) (q2 : Int64) (bk : Addr) (kk : ClassId) (ks : List Int64) (h0 : Heap) (n0 : Nat) (Z0 : n0 ≤ h0.size) (F1 : Fld Z h0 a1 "com/example/subsume/subsume/reasoner/Positions" "keys" "[J" (.ref bk)) (V1 : Arv Z h0 bk kk .long (16 : Int32) (ks.map Value.long) (.long (0 : Int64))) :
    MetFree l (⟨"com/example/subsume/subsume/reasoner/Positions", "slot", "(J)I"⟩ : MethodName) (head1 (Jvm.Cond.code (⟨"com/example/subsume/subsume/reasoner/Positions", "slot", "(J)I"⟩ : MethodName) prog_46_method_7_code 3 (some .int) :: ws) ({ frames := 1, cells := 0, slots := 0, locals := 16 } : Room)) (fun a U => a = #[(.ref a1), (.long q2)] ∧ Z.Warmed39 U.vm ∧ U.heap = h0) (fun _ _ _ _ _ => True) (fun _ U o U' => ∃ v L, o = .returned v ∧ Q6 Z a1 q2 bk kk ks h0 n0 v U'.heap L ∧ FrameEnd U o U' L ({ frames := 1, cells := 0, slots := 0, locals := 16 } : Room).cells ({ frames := 1, cells := 0, slots := 0, locals := 16 } : Room).slots) := by
  refine MetFree.of_bodySF pn6 hisR ?_
  intro p e s m args below meth c s₁ Bd hml0 hP hK
  obtain ⟨rfl, hZ, hh⟩ := hP
  have hx := Bd.exec
  have hby := Bd.bytes
  have hml : c.maxLocals = 3 := hml0
  have hown : s.vm.findClass "com/example/subsume/subsume/reasoner/Positions" = some m.cls := findClass_of_methodNamed Bd.named
  have hnm := (name_of_methodNamed Bd.named Bd.method).1
  have X0 : Stand p l e ({ frames := 1, cells := 0, slots := 0, locals := 16 } : Room) s m #[(.ref a1), (.long q2)] below meth c s₁ [] 0 0 := Stand.of_body Bd
  have e0 : s₁.heap = h0 := by rw [← hh, Bd.state]; rfl
  have N0 := Fr.nil n0
  have p0 : Go p.tables e below (s₁.setTop (entryFrame m #[(.ref a1), (.long q2)] 3)) (s₁.setTop (mkF m 0 #[.val (.ref a1), .val (.long q2), .second] [])) := fun t_ k_ => castTop (ef_rm6 m a1 q2 bk kk ks) k_
  have p101 : Go p.tables e below _ (s₁.setTop (mkF m 8 #[.val (.ref a1), .val (.long q2), .second] [(.ref a1), (.int (64 : Int32)), (.long (q2 * (-7046029254386353131 : Int64)))])) := fun t_ k_ => p0 t_ (by
    refine XS.lloadN X0.here hx rfl (hb hby d6_0) rfl ?_
    refine X0.ldc2Long hx hown (mvT hZ (own_w hw 36 rfl)) (g := (mkF m 1 #[.val (.ref a1), .val (.long q2), .second] [(.long q2)])) rfl (hb hby d6_1) _ ?_
    refine XS.lmul X0.here hx rfl (hb hby d6_4) rfl ?_
    refine XS.bipush X0.here hx rfl (hb hby d6_5) ?_
    refine XS.aloadN X0.here hx rfl (hb hby d6_7) rfl rfl ?_
    exact k_)
  obtain ⟨T102, X102, e102, st102⟩ := getF X0 hx hZ hown (host := "") (Or.inl (own_w hw 20 rfl)) Via.refl e0 F1 (g := (mkF m 8 #[.val (.ref a1), .val (.long q2), .second] [(.ref a1), (.int (64 : Int32)), (.long (q2 * (-7046029254386353131 : Int64)))])) rfl rfl (hb hby d6_8)
  obtain ⟨cl103, Ar103, -, S103, Ng103, -, -⟩ := id V1
  have p104 : Go p.tables e below _ (T102.setTop (mkF m 12 #[.val (.ref a1), .val (.long q2), .second] [(.int (16 : Int32)), (.int (64 : Int32)), (.long (q2 * (-7046029254386353131 : Int64)))])) := fun t_ k_ => (gc p101 st102) t_ (by
    refine X102.arraylength hx (by rw [e102]; exact Ar103.1) (State.isArrayOf_alike hZ.alike Ar103.2.1) (g := (mkF m 11 #[.val (.ref a1), .val (.long q2), .second] [(.ref bk), (.int (64 : Int32)), (.long (q2 * (-7046029254386353131 : Int64)))])) rfl rfl (hb hby d6_11) _ ?_
    rw [len_of S103 Ng103]
    show Steps p.tables e below (T102.setTop (mkF m 12 #[.val (.ref a1), .val (.long q2), .second] [(.int (16 : Int32)), (.int (64 : Int32)), (.long (q2 * (-7046029254386353131 : Int64)))])) _
    exact k_)
  obtain ⟨_, _, ⟨T105, L105, k105, n105⟩, -, X105, ⟨Lc105, hQ105, l105, y105, z105⟩, st105⟩ := Jvm.LawKit.callS X102 hx (y := (⟨"java/lang/Integer", "numberOfTrailingZeros", "(I)I"⟩ : MethodName)) hown (mvT hZ (own_w hw 37 rfl)) (mvT hZ (own_w hw 38 rfl)) (mvT hZ (own_w hw 39 rfl)) (mvT hZ (own_w hw 40 rfl)) (by decide) (backOf (W := 3) (rm7 l Z a0 hw []  h0 n0 (Nat.le_trans Z0 (Keep.refl h0 []).1) ) hZ (own_w hw 40 rfl) (own_w hw 39 rfl) (by decide) (by decide)) (g := (mkF m 12 #[.val (.ref a1), .val (.long q2), .second] [(.int (16 : Int32)), (.int (64 : Int32)), (.long (q2 * (-7046029254386353131 : Int64)))])) rfl (by rw [hml]; rfl) (argsL := [(.int (16 : Int32))]) (rest := [(.int (64 : Int32)), (.long (q2 * (-7046029254386353131 : Int64)))]) (lenOf pd0 rfl) rfl (by show 2 * 0 + _ ≤ _; exact Nat.le_of_eq rfl) (hb hby d6_12) (fun _ _ => ⟨rfl, e102, (by decide : 0 + 0 ≤ _), (by decide : 0 + 0 ≤ _)⟩)
  dsimp only [Pt.U, Pt.locs, Pt.cells, Pt.slots] at X105 l105 y105 z105 st105 hQ105
  subst l105 y105 z105
  obtain ⟨rfl, N105q, q105_hh⟩ := hQ105
  have N105 := Fr.app N0 N105q
  have p106 : Go p.tables e below _ (T105.setTop (mkF m 18 #[.val (.ref a1), .val (.long q2), .second] [(.int ((((q2 * (-7046029254386353131 : Int64)).toUInt64 >>> (60 : UInt64)).toInt64).toInt32))])) := fun t_ k_ => (gc p104 st105) t_ (by
    refine XS.isub X105.here hx rfl (hb hby d6_15) rfl ?_
    refine XS.lushr X105.here hx rfl (hb hby d6_16) rfl ?_
    refine XS.l2i X105.here hx rfl (hb hby d6_17) rfl ?_
    exact k_)
  obtain ⟨fs, hr, hrun, hended, hW, hsame⟩ := X105.leave (v := some (.int ((((q2 * (-7046029254386353131 : Int64)).toUInt64 >>> (60 : UInt64)).toInt64).toInt32))) (fun h => by rw [Bd.returns] at h; cases h)
  refine ⟨_, _, p106 _ (retI X105 hx Bd.returns (hb hby d6_18) hr), hrun, hended, _, _, rfl, ?_, ⟨_, rfl⟩, hW, hsame.mono (by decide) (by decide)⟩
  show Q6 Z a1 q2 bk kk ks h0 n0 _ T105.heap _
  rw [q105_hh]
  exact ⟨congrArg (fun z => some (Value.int z)) (own_slot_eq _), N105, rfl⟩
theorem d11_0 : decode prog_46_method_8_code 0 = .ok (.iload_n 1, 1) := by decide +kernel
theorem d11_1 : decode prog_46_method_8_code 1 = .ok (.iconst 1, 1) := by decide +kernel
theorem d11_2 : decode prog_46_method_8_code 2 = .ok (.iadd, 1) := by decide +kernel
theorem d11_3 : decode prog_46_method_8_code 3 = .ok (.aload_n 0, 1) := by decide +kernel
theorem d11_4 : decode prog_46_method_8_code 4 = .ok (.getfield 13, 3) := by decide +kernel
theorem d11_7 : decode prog_46_method_8_code 7 = .ok (.arraylength, 1) := by decide +kernel
theorem d11_8 : decode prog_46_method_8_code 8 = .ok (.iconst 1, 1) := by decide +kernel
theorem d11_9 : decode prog_46_method_8_code 9 = .ok (.isub, 1) := by decide +kernel
theorem d11_10 : decode prog_46_method_8_code 10 = .ok (.iand, 1) := by decide +kernel
theorem d11_11 : decode prog_46_method_8_code 11 = .ok (.ireturn, 1) := by decide +kernel
theorem pn11 : plainFor (⟨"com/example/subsume/subsume/reasoner/Positions", "next", "(I)I"⟩ : MethodName) = true := plainFor_of_name (by first | (simp [plainName, overriddenIn]; done) | decide +kernel)
theorem ef_rm11 (m : MethodId) (a1 : Addr) (i : Nat) (bk : Addr) (kk : ClassId) (ks : List Int64) : entryFrame m #[(.ref a1), (.int (Int32.ofNat i))] 2 = mkF m 0 #[.val (.ref a1), .val (.int (Int32.ofNat i))] [] := by first | (simp [entryFrame, mkF, argsToLocals, Value.category]; done) | rfl
def Q11 (Z : State) (a1 : Addr) (i : Nat) (bk : Addr) (kk : ClassId) (ks : List Int64) (h0 : Heap) (n0 : Nat) (v : Option Value) (h : Heap) (L : List Loc) : Prop := v = some (.int (Int32.ofNat ((i + 1) % 16))) ∧ Fr n0 L ∧ (h = h0)
set_option maxRecDepth 65536 in
set_option maxHeartbeats 40000000 in
theorem rm11 (l : Launch) (Z : State) (a0 : Array Value) (hw : ∀ d ∈ tables_1, d.before a0 Z = true) (ws : List Jvm.Cond) (a1 : Addr) (i : Nat) (bk : Addr) (kk : ClassId) (ks : List Int64) (h0 : Heap) (n0 : Nat) (Z0 : n0 ≤ h0.size) (F1 : Fld Z h0 a1 "com/example/subsume/subsume/reasoner/Positions" "keys" "[J" (.ref bk)) (V1 : Arv Z h0 bk kk .long (16 : Int32) (ks.map Value.long) (.long (0 : Int64))) (hi : i < 16) :
    MetFree l (⟨"com/example/subsume/subsume/reasoner/Positions", "next", "(I)I"⟩ : MethodName) (head1 (Jvm.Cond.code (⟨"com/example/subsume/subsume/reasoner/Positions", "next", "(I)I"⟩ : MethodName) prog_46_method_8_code 2 (some .int) :: ws) ({ frames := 0, cells := 0, slots := 0, locals := 0 } : Room)) (fun a U => a = #[(.ref a1), (.int (Int32.ofNat i))] ∧ Z.Warmed39 U.vm ∧ U.heap = h0) (fun _ _ _ _ _ => True) (fun _ U o U' => ∃ v L, o = .returned v ∧ Q11 Z a1 i bk kk ks h0 n0 v U'.heap L ∧ FrameEnd U o U' L ({ frames := 0, cells := 0, slots := 0, locals := 0 } : Room).cells ({ frames := 0, cells := 0, slots := 0, locals := 0 } : Room).slots) := by
  refine MetFree.of_bodySF pn11 hisR ?_
  intro p e s m args below meth c s₁ Bd hml0 hP hK
  obtain ⟨rfl, hZ, hh⟩ := hP
  have hx := Bd.exec
  have hby := Bd.bytes
  have hml : c.maxLocals = 2 := hml0
  have hown : s.vm.findClass "com/example/subsume/subsume/reasoner/Positions" = some m.cls := findClass_of_methodNamed Bd.named
  have hnm := (name_of_methodNamed Bd.named Bd.method).1
  have X0 : Stand p l e ({ frames := 0, cells := 0, slots := 0, locals := 0 } : Room) s m #[(.ref a1), (.int (Int32.ofNat i))] below meth c s₁ [] 0 0 := Stand.of_body Bd
  have e0 : s₁.heap = h0 := by rw [← hh, Bd.state]; rfl
  have N0 := Fr.nil n0
  have p0 : Go p.tables e below (s₁.setTop (entryFrame m #[(.ref a1), (.int (Int32.ofNat i))] 2)) (s₁.setTop (mkF m 0 #[.val (.ref a1), .val (.int (Int32.ofNat i))] [])) := fun t_ k_ => castTop (ef_rm11 m a1 i bk kk ks) k_
  have p101 : Go p.tables e below _ (s₁.setTop (mkF m 4 #[.val (.ref a1), .val (.int (Int32.ofNat i))] [(.ref a1), (.int ((Int32.ofNat i) + (1 : Int32)))])) := fun t_ k_ => p0 t_ (by
    refine XS.iloadN X0.here hx rfl (hb hby d11_0) rfl ?_
    refine XS.iconst X0.here hx rfl (hb hby d11_1) ?_
    refine XS.iadd X0.here hx rfl (hb hby d11_2) rfl ?_
    refine XS.aloadN X0.here hx rfl (hb hby d11_3) rfl rfl ?_
    exact k_)
  obtain ⟨T102, X102, e102, st102⟩ := getF X0 hx hZ hown (host := "") (Or.inl (own_w hw 20 rfl)) Via.refl e0 F1 (g := (mkF m 4 #[.val (.ref a1), .val (.int (Int32.ofNat i))] [(.ref a1), (.int ((Int32.ofNat i) + (1 : Int32)))])) rfl rfl (hb hby d11_4)
  obtain ⟨cl103, Ar103, -, S103, Ng103, -, -⟩ := id V1
  have p104 : Go p.tables e below _ (T102.setTop (mkF m 11 #[.val (.ref a1), .val (.int (Int32.ofNat i))] [(.int (((Int32.ofNat i) + (1 : Int32)) &&& (15 : Int32)))])) := fun t_ k_ => (gc p101 st102) t_ (by
    refine X102.arraylength hx (by rw [e102]; exact Ar103.1) (State.isArrayOf_alike hZ.alike Ar103.2.1) (g := (mkF m 7 #[.val (.ref a1), .val (.int (Int32.ofNat i))] [(.ref bk), (.int ((Int32.ofNat i) + (1 : Int32)))])) rfl rfl (hb hby d11_7) _ ?_
    rw [len_of S103 Ng103]
    show Steps p.tables e below (T102.setTop (mkF m 8 #[.val (.ref a1), .val (.int (Int32.ofNat i))] [(.int (16 : Int32)), (.int ((Int32.ofNat i) + (1 : Int32)))])) _
    refine XS.iconst X102.here hx rfl (hb hby d11_8) ?_
    refine XS.isub X102.here hx rfl (hb hby d11_9) rfl ?_
    refine XS.iand X102.here hx rfl (hb hby d11_10) rfl ?_
    exact k_)
  obtain ⟨fs, hr, hrun, hended, hW, hsame⟩ := X102.leave (v := some (.int (((Int32.ofNat i) + (1 : Int32)) &&& (15 : Int32)))) (fun h => by rw [Bd.returns] at h; cases h)
  refine ⟨_, _, p104 _ (retI X102 hx Bd.returns (hb hby d11_11) hr), hrun, hended, _, _, rfl, ?_, ⟨_, rfl⟩, hW, hsame.mono (by decide) (by decide)⟩
  show Q11 Z a1 i bk kk ks h0 n0 _ T102.heap _
  rw [e102]
  exact ⟨congrArg (fun z => some (Value.int z)) (own_nx hi), N0, rfl⟩
theorem d9_6 : decode prog_46_method_2_code 6 = .ok (.aload_n 0, 1) := by decide +kernel
theorem d9_7 : decode prog_46_method_2_code 7 = .ok (.getfield 13, 3) := by decide +kernel
theorem d9_10 : decode prog_46_method_2_code 10 = .ok (.iload_n 3, 1) := by decide +kernel
theorem d9_11 : decode prog_46_method_2_code 11 = .ok (.laload, 1) := by decide +kernel
theorem d9_12 : decode prog_46_method_2_code 12 = .ok (.lload_n 1, 1) := by decide +kernel
theorem d9_13 : decode prog_46_method_2_code 13 = .ok (.lcmp, 1) := by decide +kernel
theorem d9_14 : decode prog_46_method_2_code 14 = .ok (.ifCond .ne 10, 3) := by decide +kernel
theorem d9_24 : decode prog_46_method_2_code 24 = .ok (.aload_n 0, 1) := by decide +kernel
theorem d9_25 : decode prog_46_method_2_code 25 = .ok (.getfield 13, 3) := by decide +kernel
theorem d9_28 : decode prog_46_method_2_code 28 = .ok (.iload_n 3, 1) := by decide +kernel
theorem d9_29 : decode prog_46_method_2_code 29 = .ok (.laload, 1) := by decide +kernel
theorem d9_30 : decode prog_46_method_2_code 30 = .ok (.ldc2_w 25, 3) := by decide +kernel
theorem d9_33 : decode prog_46_method_2_code 33 = .ok (.lcmp, 1) := by decide +kernel
theorem d9_34 : decode prog_46_method_2_code 34 = .ok (.ifCond .ne 5, 3) := by decide +kernel
theorem d9_39 : decode prog_46_method_2_code 39 = .ok (.aload_n 0, 1) := by decide +kernel
theorem d9_40 : decode prog_46_method_2_code 40 = .ok (.iload_n 3, 1) := by decide +kernel
theorem d9_41 : decode prog_46_method_2_code 41 = .ok (.invokevirtual 27, 3) := by decide +kernel
theorem d9_44 : decode prog_46_method_2_code 44 = .ok (.istore_n 3, 1) := by decide +kernel
theorem d9_45 : decode prog_46_method_2_code 45 = .ok (.goto (-39), 3) := by decide +kernel
set_option maxRecDepth 65536 in
set_option maxHeartbeats 40000000 in
theorem lp9 {p : Program} {l : Launch} {e : Env} {s : State} {m : MethodId} {args : Array Value} {below : List Frame} {meth : Method} {c : Code} (Z : State) (a0 : Array Value) (hx : p.tables.exec = Jvm.exec) (hZ : Z.Warmed39 s.vm) (hw : ∀ d ∈ tables_1, d.before a0 Z = true) (hby : c.code = prog_46_method_2_code) (hml : c.maxLocals = 4) (hown : s.vm.findClass "com/example/subsume/subsume/reasoner/Positions" = some m.cls) (a1 : Addr) (q2 : Int64) (bk : Addr) (kk : ClassId) (ks : List Int64) (h0 : Heap) (n0 : Nat) (Z0 : n0 ≤ h0.size) (F1 : Fld Z h0 a1 "com/example/subsume/subsume/reasoner/Positions" "keys" "[J" (.ref bk)) (E1 : Exa Z h0 a1 "com/example/subsume/subsume/reasoner/Positions") (V1 : Arv Z h0 bk kk .long (16 : Int32) (ks.map Value.long) (.long (0 : Int64))) : ∀ (n i : Nat) (T : State) (locs : List Loc), Stand p l e ({ frames := 5, cells := 0, slots := 0, locals := 100 } : Room) s m args below meth c T locs 0 0 → T.heap = h0 → Fr n0 locs → i < 16 → (∀ v, v < n → own_K ks ((i + v) % 16) ≠ q2 ∧ own_K ks ((i + v) % 16) ≠ -1) →
    ∃ (T' : State) (L' : List Loc), Stand p l e ({ frames := 5, cells := 0, slots := 0, locals := 100 } : Room) s m args below meth c T' L' 0 0 ∧ T'.heap = h0 ∧ Fr n0 L' ∧ Go p.tables e below (T.setTop (mkF m 6 #[.val (.ref a1), .val (.long q2), .second, .val (.int (Int32.ofNat i))] [])) (T'.setTop (mkF m 6 #[.val (.ref a1), .val (.long q2), .second, .val (.int (Int32.ofNat ((i + n) % 16)))] [])) := by
  intro n
  induction n with
  | zero => intro i T locs X0 e0 N0 hi hc; exact ⟨T, locs, X0, e0, N0, by rw [show (i + 0) % 16 = i by omega]; exact fun t_ k_ => k_⟩
  | succ n ih =>
    intro i T locs X0 e0 N0 hi hc
    have hi0 : own_K ks i ≠ q2 ∧ own_K ks i ≠ -1 := by have := hc 0 (by omega); rwa [show (i + 0) % 16 = i by omega] at this
    have p0 : Go p.tables e below (T.setTop (mkF m 6 #[.val (.ref a1), .val (.long q2), .second, .val (.int (Int32.ofNat i))] [])) (T.setTop (mkF m 6 #[.val (.ref a1), .val (.long q2), .second, .val (.int (Int32.ofNat i))] [])) := fun t_ k_ => k_
    have p101 : Go p.tables e below _ (T.setTop (mkF m 7 #[.val (.ref a1), .val (.long q2), .second, .val (.int (Int32.ofNat i))] [(.ref a1)])) := fun t_ k_ => p0 t_ (by
      refine XS.aloadN X0.here hx rfl (hb hby d9_6) rfl rfl ?_
      exact k_)
    obtain ⟨T102, X102, e102, st102⟩ := getF X0 hx hZ hown (host := "") (Or.inl (own_w hw 20 rfl)) Via.refl e0 F1 (g := (mkF m 7 #[.val (.ref a1), .val (.long q2), .second, .val (.int (Int32.ofNat i))] [(.ref a1)])) rfl rfl (hb hby d9_7)
    have p103 : Go p.tables e below _ (T102.setTop (mkF m 11 #[.val (.ref a1), .val (.long q2), .second, .val (.int (Int32.ofNat i))] [(.int (Int32.ofNat i)), (.ref bk)])) := fun t_ k_ => (gc p101 st102) t_ (by
      refine XS.iloadN X102.here hx rfl (hb hby d9_10) rfl ?_
      exact k_)
    obtain ⟨cl104, Ar104, q104, S104, Ng104, H104, G104⟩ := id V1
    have hin104 := inb_of S104 (j := (Int32.ofNat i)) (own_ib hi)
    have hat104 := H104.at (v := (.long (own_K ks i))) hin104 (own_rdK ks hi)
    have p105 : Go p.tables e below _ (T102.setTop (mkF m 14 #[.val (.ref a1), .val (.long q2), .second, .val (.int (Int32.ofNat i))] [(.int (lcmpW (own_K ks i) q2))])) := fun t_ k_ => p103 t_ (by
      refine X102.laload hx (j := (Int32.ofNat i)) (v := (.long (own_K ks i))) (by rw [e102]; exact Ar104.1) (State.isArrayOf_alike hZ.alike Ar104.2.1) Ar104.2.2 hin104 hat104 (g := (mkF m 11 #[.val (.ref a1), .val (.long q2), .second, .val (.int (Int32.ofNat i))] [(.int (Int32.ofNat i)), (.ref bk)])) rfl rfl (hb hby d9_11) _ ?_
      refine XS.lloadN X102.here hx rfl (hb hby d9_12) rfl ?_
      refine XS.lcmp X102.here hx rfl (hb hby d9_13) rfl ?_
      exact k_)
    have c106 : ¬ ((own_K ks i) = q2) := hi0.1
    have p107 : Go p.tables e below _ (T102.setTop (mkF m 25 #[.val (.ref a1), .val (.long q2), .second, .val (.int (Int32.ofNat i))] [(.ref a1)])) := fun t_ k_ => p105 t_ (by
      refine XS.ifYes X102.here hx rfl (pc0 := 14) (pc' := 24) rfl (hb hby d9_14) rfl ((if0 _ _).trans (feq (mt (lw_eq _ _).mp c106)).2) (by decide) (by decide) ?_
      refine XS.aloadN X102.here hx rfl (hb hby d9_24) rfl rfl ?_
      exact k_)
    obtain ⟨T108, X108, e108, st108⟩ := getF X102 hx hZ hown (host := "") (Or.inl (own_w hw 20 rfl)) Via.refl e102 F1 (g := (mkF m 25 #[.val (.ref a1), .val (.long q2), .second, .val (.int (Int32.ofNat i))] [(.ref a1)])) rfl rfl (hb hby d9_25)
    have p109 : Go p.tables e below _ (T108.setTop (mkF m 29 #[.val (.ref a1), .val (.long q2), .second, .val (.int (Int32.ofNat i))] [(.int (Int32.ofNat i)), (.ref bk)])) := fun t_ k_ => (gc p107 st108) t_ (by
      refine XS.iloadN X108.here hx rfl (hb hby d9_28) rfl ?_
      exact k_)
    obtain ⟨cl110, Ar110, q110, S110, Ng110, H110, G110⟩ := id V1
    have hin110 := inb_of S110 (j := (Int32.ofNat i)) (own_ib hi)
    have hat110 := H110.at (v := (.long (own_K ks i))) hin110 (own_rdK ks hi)
    have p111 : Go p.tables e below _ (T108.setTop (mkF m 34 #[.val (.ref a1), .val (.long q2), .second, .val (.int (Int32.ofNat i))] [(.int (lcmpW (own_K ks i) (-1 : Int64)))])) := fun t_ k_ => p109 t_ (by
      refine X108.laload hx (j := (Int32.ofNat i)) (v := (.long (own_K ks i))) (by rw [e108]; exact Ar110.1) (State.isArrayOf_alike hZ.alike Ar110.2.1) Ar110.2.2 hin110 hat110 (g := (mkF m 29 #[.val (.ref a1), .val (.long q2), .second, .val (.int (Int32.ofNat i))] [(.int (Int32.ofNat i)), (.ref bk)])) rfl rfl (hb hby d9_29) _ ?_
      refine X108.ldc2Long hx hown (mvT hZ (own_w hw 15 rfl)) (g := (mkF m 30 #[.val (.ref a1), .val (.long q2), .second, .val (.int (Int32.ofNat i))] [(.long (own_K ks i))])) rfl (hb hby d9_30) _ ?_
      refine XS.lcmp X108.here hx rfl (hb hby d9_33) rfl ?_
      exact k_)
    have c112 : ¬ ((own_K ks i) = (-1 : Int64)) := hi0.2
    have p113 : Go p.tables e below _ (T108.setTop (mkF m 41 #[.val (.ref a1), .val (.long q2), .second, .val (.int (Int32.ofNat i))] [(.int (Int32.ofNat i)), (.ref a1)])) := fun t_ k_ => p111 t_ (by
      refine XS.ifYes X108.here hx rfl (pc0 := 34) (pc' := 39) rfl (hb hby d9_34) rfl ((if0 _ _).trans (feq (mt (lw_eq _ _).mp c112)).2) (by decide) (by decide) ?_
      refine XS.aloadN X108.here hx rfl (hb hby d9_39) rfl rfl ?_
      refine XS.iloadN X108.here hx rfl (hb hby d9_40) rfl ?_
      exact k_)
    obtain ⟨cq114, q114, q114'⟩ := E1.cell
    obtain ⟨_, _, ⟨T114, L114, k114, n114⟩, -, X114, ⟨Lc114, hQ114, l114, y114, z114⟩, st114⟩ := X108.privateBack hx (y := (⟨"com/example/subsume/subsume/reasoner/Positions", "next", "(I)I"⟩ : MethodName)) hown (mvT hZ (own_w hw 56 rfl)) (mvT hZ (own_w hw 57 rfl)) (selPriv (mvT hZ (own_w hw 28 rfl)) rfl (Cond.privateMethod_at (mvP hZ (own_w hw 58 rfl) (args := #[]))) (mvT hZ (own_w hw 57 rfl)) (by decide)) (Cond.privateMethod_at (mvP hZ (own_w hw 58 rfl) (args := #[]))) (mvT hZ (own_w hw 59 rfl)) (by decide) (backOf (W := 0) (rm11 l Z a0 hw [] a1 i bk kk ks h0 n0 (Nat.le_trans Z0 (Keep.refl h0 []).1) F1 V1 hi) hZ (own_w hw 59 rfl) (own_w hw 4 rfl) (by decide) (by decide)) (g := (mkF m 41 #[.val (.ref a1), .val (.long q2), .second, .val (.int (Int32.ofNat i))] [(.int (Int32.ofNat i)), (.ref a1)])) rfl (by rw [hml]; rfl) (Steps.refl _) (a := a1) (by rw [e108]; exact q114) q114' (argsL := [(.int (Int32.ofNat i))]) (rest := []) (lenOf pd0 rfl) rfl (by show 2 * 0 + _ ≤ _; exact Nat.le_of_eq rfl) (hb hby d9_41) (fun _ _ => ⟨rfl, e108, (by decide : 0 + 0 ≤ _), (by decide : 0 + 0 ≤ _)⟩)
    dsimp only [Pt.U, Pt.locs, Pt.cells, Pt.slots] at X114 l114 y114 z114 st114 hQ114
    subst l114 y114 z114
    obtain ⟨rfl, N114q, q114_hh⟩ := hQ114
    have N114 := Fr.app N0 N114q
    have p115 : Go p.tables e below _ (T114.setTop (mkF m 6 #[.val (.ref a1), .val (.long q2), .second, .val (.int (Int32.ofNat ((i + 1) % 16)))] [])) := fun t_ k_ => (gcT p113 st114) t_ (by
      refine XS.istoreN X114.here hx rfl (hb hby d9_44) rfl (l' := #[.val (.ref a1), .val (.long q2), .second, .val (.int (Int32.ofNat ((i + 1) % 16)))]) rfl ?_
      refine XS.goto X114.here hx rfl (pc0 := 45) (pc' := 6) rfl (hb hby d9_45) (by decide) (by decide) ?_
      exact k_)
    obtain ⟨T', L', X', e', N', g'⟩ := ih ((i + 1) % 16) T114 _ X114 q114_hh N114 (Nat.mod_lt _ (by omega)) (fun v hv => by have := hc (v + 1) (by omega); rwa [show (i + (v + 1)) % 16 = ((i + 1) % 16 + v) % 16 by omega] at this)
    refine ⟨T', L', X', e', N', fun t_ k_ => p115 t_ (g' t_ ?_)⟩
    rw [show ((i + 1) % 16 + n) % 16 = (i + (n + 1)) % 16 by omega]; exact k_
theorem d5_27 : decode prog_46_method_4_code 27 = .ok (.aload_n 0, 1) := by decide +kernel
theorem d5_28 : decode prog_46_method_4_code 28 = .ok (.getfield 13, 3) := by decide +kernel
theorem d5_31 : decode prog_46_method_4_code 31 = .ok (.iload 4, 2) := by decide +kernel
theorem d5_33 : decode prog_46_method_4_code 33 = .ok (.laload, 1) := by decide +kernel
theorem d5_34 : decode prog_46_method_4_code 34 = .ok (.ldc2_w 25, 3) := by decide +kernel
theorem d5_37 : decode prog_46_method_4_code 37 = .ok (.lcmp, 1) := by decide +kernel
theorem d5_38 : decode prog_46_method_4_code 38 = .ok (.ifCond .eq 14, 3) := by decide +kernel
theorem d5_41 : decode prog_46_method_4_code 41 = .ok (.aload_n 0, 1) := by decide +kernel
theorem d5_42 : decode prog_46_method_4_code 42 = .ok (.iload 4, 2) := by decide +kernel
theorem d5_44 : decode prog_46_method_4_code 44 = .ok (.invokevirtual 27, 3) := by decide +kernel
theorem d5_47 : decode prog_46_method_4_code 47 = .ok (.istore 4, 2) := by decide +kernel
theorem d5_49 : decode prog_46_method_4_code 49 = .ok (.goto (-22), 3) := by decide +kernel
set_option maxRecDepth 65536 in
set_option maxHeartbeats 40000000 in
theorem lp5 {p : Program} {l : Launch} {e : Env} {s : State} {m : MethodId} {args : Array Value} {below : List Frame} {meth : Method} {c : Code} (Z : State) (a0 : Array Value) (hx : p.tables.exec = Jvm.exec) (hZ : Z.Warmed39 s.vm) (hw : ∀ d ∈ tables_1, d.before a0 Z = true) (hby : c.code = prog_46_method_4_code) (hml : c.maxLocals = 5) (hown : s.vm.findClass "com/example/subsume/subsume/reasoner/Positions" = some m.cls) (a1 : Addr) (q2 : Int64) (p3 : Int32) (bk : Addr) (kk : ClassId) (ks : List Int64) (h0 : Heap) (n0 : Nat) (Z0 : n0 ≤ h0.size) (F1 : Fld Z h0 a1 "com/example/subsume/subsume/reasoner/Positions" "keys" "[J" (.ref bk)) (E1 : Exa Z h0 a1 "com/example/subsume/subsume/reasoner/Positions") (V1 : Arv Z h0 bk kk .long (16 : Int32) (ks.map Value.long) (.long (0 : Int64))) : ∀ (n i : Nat) (T : State) (locs : List Loc), Stand p l e ({ frames := 5, cells := 0, slots := 0, locals := 100 } : Room) s m args below meth c T locs 0 0 → T.heap = h0 → Fr n0 locs → i < 16 → (∀ v, v < n → own_K ks ((i + v) % 16) ≠ -1) →
    ∃ (T' : State) (L' : List Loc), Stand p l e ({ frames := 5, cells := 0, slots := 0, locals := 100 } : Room) s m args below meth c T' L' 0 0 ∧ T'.heap = h0 ∧ Fr n0 L' ∧ Go p.tables e below (T.setTop (mkF m 27 #[.val (.ref a1), .val (.long q2), .second, .val (.int p3), .val (.int (Int32.ofNat i))] [])) (T'.setTop (mkF m 27 #[.val (.ref a1), .val (.long q2), .second, .val (.int p3), .val (.int (Int32.ofNat ((i + n) % 16)))] [])) := by
  intro n
  induction n with
  | zero => intro i T locs X0 e0 N0 hi hc; exact ⟨T, locs, X0, e0, N0, by rw [show (i + 0) % 16 = i by omega]; exact fun t_ k_ => k_⟩
  | succ n ih =>
    intro i T locs X0 e0 N0 hi hc
    have hi0 : own_K ks i ≠ -1 := by have := hc 0 (by omega); rwa [show (i + 0) % 16 = i by omega] at this
    have p0 : Go p.tables e below (T.setTop (mkF m 27 #[.val (.ref a1), .val (.long q2), .second, .val (.int p3), .val (.int (Int32.ofNat i))] [])) (T.setTop (mkF m 27 #[.val (.ref a1), .val (.long q2), .second, .val (.int p3), .val (.int (Int32.ofNat i))] [])) := fun t_ k_ => k_
    have p101 : Go p.tables e below _ (T.setTop (mkF m 28 #[.val (.ref a1), .val (.long q2), .second, .val (.int p3), .val (.int (Int32.ofNat i))] [(.ref a1)])) := fun t_ k_ => p0 t_ (by
      refine XS.aloadN X0.here hx rfl (hb hby d5_27) rfl rfl ?_
      exact k_)
    obtain ⟨T102, X102, e102, st102⟩ := getF X0 hx hZ hown (host := "") (Or.inl (own_w hw 20 rfl)) Via.refl e0 F1 (g := (mkF m 28 #[.val (.ref a1), .val (.long q2), .second, .val (.int p3), .val (.int (Int32.ofNat i))] [(.ref a1)])) rfl rfl (hb hby d5_28)
    have p103 : Go p.tables e below _ (T102.setTop (mkF m 33 #[.val (.ref a1), .val (.long q2), .second, .val (.int p3), .val (.int (Int32.ofNat i))] [(.int (Int32.ofNat i)), (.ref bk)])) := fun t_ k_ => (gc p101 st102) t_ (by
      refine XS.iload X102.here hx rfl (hb hby d5_31) rfl ?_
      exact k_)
    obtain ⟨cl104, Ar104, q104, S104, Ng104, H104, G104⟩ := id V1
    have hin104 := inb_of S104 (j := (Int32.ofNat i)) (own_ib hi)
    have hat104 := H104.at (v := (.long (own_K ks i))) hin104 (own_rdK ks hi)
    have p105 : Go p.tables e below _ (T102.setTop (mkF m 38 #[.val (.ref a1), .val (.long q2), .second, .val (.int p3), .val (.int (Int32.ofNat i))] [(.int (lcmpW (own_K ks i) (-1 : Int64)))])) := fun t_ k_ => p103 t_ (by
      refine X102.laload hx (j := (Int32.ofNat i)) (v := (.long (own_K ks i))) (by rw [e102]; exact Ar104.1) (State.isArrayOf_alike hZ.alike Ar104.2.1) Ar104.2.2 hin104 hat104 (g := (mkF m 33 #[.val (.ref a1), .val (.long q2), .second, .val (.int p3), .val (.int (Int32.ofNat i))] [(.int (Int32.ofNat i)), (.ref bk)])) rfl rfl (hb hby d5_33) _ ?_
      refine X102.ldc2Long hx hown (mvT hZ (own_w hw 15 rfl)) (g := (mkF m 34 #[.val (.ref a1), .val (.long q2), .second, .val (.int p3), .val (.int (Int32.ofNat i))] [(.long (own_K ks i))])) rfl (hb hby d5_34) _ ?_
      refine XS.lcmp X102.here hx rfl (hb hby d5_37) rfl ?_
      exact k_)
    have c106 : ¬ ((own_K ks i) = (-1 : Int64)) := hi0
    have p107 : Go p.tables e below _ (T102.setTop (mkF m 44 #[.val (.ref a1), .val (.long q2), .second, .val (.int p3), .val (.int (Int32.ofNat i))] [(.int (Int32.ofNat i)), (.ref a1)])) := fun t_ k_ => p105 t_ (by
      refine XS.ifNo X102.here hx rfl (hb hby d5_38) rfl ((if0 _ _).trans (feq (mt (lw_eq _ _).mp c106)).1) ?_
      refine XS.aloadN X102.here hx rfl (hb hby d5_41) rfl rfl ?_
      refine XS.iload X102.here hx rfl (hb hby d5_42) rfl ?_
      exact k_)
    obtain ⟨cq108, q108, q108'⟩ := E1.cell
    obtain ⟨_, _, ⟨T108, L108, k108, n108⟩, -, X108, ⟨Lc108, hQ108, l108, y108, z108⟩, st108⟩ := X102.privateBack hx (y := (⟨"com/example/subsume/subsume/reasoner/Positions", "next", "(I)I"⟩ : MethodName)) hown (mvT hZ (own_w hw 56 rfl)) (mvT hZ (own_w hw 57 rfl)) (selPriv (mvT hZ (own_w hw 28 rfl)) rfl (Cond.privateMethod_at (mvP hZ (own_w hw 58 rfl) (args := #[]))) (mvT hZ (own_w hw 57 rfl)) (by decide)) (Cond.privateMethod_at (mvP hZ (own_w hw 58 rfl) (args := #[]))) (mvT hZ (own_w hw 59 rfl)) (by decide) (backOf (W := 0) (rm11 l Z a0 hw [] a1 i bk kk ks h0 n0 (Nat.le_trans Z0 (Keep.refl h0 []).1) F1 V1 hi) hZ (own_w hw 59 rfl) (own_w hw 4 rfl) (by decide) (by decide)) (g := (mkF m 44 #[.val (.ref a1), .val (.long q2), .second, .val (.int p3), .val (.int (Int32.ofNat i))] [(.int (Int32.ofNat i)), (.ref a1)])) rfl (by rw [hml]; rfl) (Steps.refl _) (a := a1) (by rw [e102]; exact q108) q108' (argsL := [(.int (Int32.ofNat i))]) (rest := []) (lenOf pd0 rfl) rfl (by show 2 * 0 + _ ≤ _; exact Nat.le_of_eq rfl) (hb hby d5_44) (fun _ _ => ⟨rfl, e102, (by decide : 0 + 0 ≤ _), (by decide : 0 + 0 ≤ _)⟩)
    dsimp only [Pt.U, Pt.locs, Pt.cells, Pt.slots] at X108 l108 y108 z108 st108 hQ108
    subst l108 y108 z108
    obtain ⟨rfl, N108q, q108_hh⟩ := hQ108
    have N108 := Fr.app N0 N108q
    have p109 : Go p.tables e below _ (T108.setTop (mkF m 27 #[.val (.ref a1), .val (.long q2), .second, .val (.int p3), .val (.int (Int32.ofNat ((i + 1) % 16)))] [])) := fun t_ k_ => (gcT p107 st108) t_ (by
      refine XS.istore X108.here hx rfl (hb hby d5_47) rfl (l' := #[.val (.ref a1), .val (.long q2), .second, .val (.int p3), .val (.int (Int32.ofNat ((i + 1) % 16)))]) rfl ?_
      refine XS.goto X108.here hx rfl (pc0 := 49) (pc' := 27) rfl (hb hby d5_49) (by decide) (by decide) ?_
      exact k_)
    obtain ⟨T', L', X', e', N', g'⟩ := ih ((i + 1) % 16) T108 _ X108 q108_hh N108 (Nat.mod_lt _ (by omega)) (fun v hv => by have := hc (v + 1) (by omega); rwa [show (i + (v + 1)) % 16 = ((i + 1) % 16 + v) % 16 by omega] at this)
    refine ⟨T', L', X', e', N', fun t_ k_ => p109 t_ (g' t_ ?_)⟩
    rw [show ((i + 1) % 16 + n) % 16 = (i + (n + 1)) % 16 by omega]; exact k_
theorem d8_6 : decode prog_46_method_5_code 6 = .ok (.aload_n 0, 1) := by decide +kernel
theorem d8_7 : decode prog_46_method_5_code 7 = .ok (.getfield 13, 3) := by decide +kernel
theorem d8_10 : decode prog_46_method_5_code 10 = .ok (.iload_n 3, 1) := by decide +kernel
theorem d8_11 : decode prog_46_method_5_code 11 = .ok (.laload, 1) := by decide +kernel
theorem d8_12 : decode prog_46_method_5_code 12 = .ok (.lload_n 1, 1) := by decide +kernel
theorem d8_13 : decode prog_46_method_5_code 13 = .ok (.lcmp, 1) := by decide +kernel
theorem d8_14 : decode prog_46_method_5_code 14 = .ok (.ifCond .eq 26, 3) := by decide +kernel
theorem d8_17 : decode prog_46_method_5_code 17 = .ok (.aload_n 0, 1) := by decide +kernel
theorem d8_18 : decode prog_46_method_5_code 18 = .ok (.getfield 13, 3) := by decide +kernel
theorem d8_21 : decode prog_46_method_5_code 21 = .ok (.iload_n 3, 1) := by decide +kernel
theorem d8_22 : decode prog_46_method_5_code 22 = .ok (.laload, 1) := by decide +kernel
theorem d8_23 : decode prog_46_method_5_code 23 = .ok (.ldc2_w 25, 3) := by decide +kernel
theorem d8_26 : decode prog_46_method_5_code 26 = .ok (.lcmp, 1) := by decide +kernel
theorem d8_27 : decode prog_46_method_5_code 27 = .ok (.ifCond .ne 4, 3) := by decide +kernel
theorem d8_31 : decode prog_46_method_5_code 31 = .ok (.aload_n 0, 1) := by decide +kernel
theorem d8_32 : decode prog_46_method_5_code 32 = .ok (.iload_n 3, 1) := by decide +kernel
theorem d8_33 : decode prog_46_method_5_code 33 = .ok (.invokevirtual 27, 3) := by decide +kernel
theorem d8_36 : decode prog_46_method_5_code 36 = .ok (.istore_n 3, 1) := by decide +kernel
theorem d8_37 : decode prog_46_method_5_code 37 = .ok (.goto (-31), 3) := by decide +kernel
set_option maxRecDepth 65536 in
set_option maxHeartbeats 40000000 in
theorem lp8 {p : Program} {l : Launch} {e : Env} {s : State} {m : MethodId} {args : Array Value} {below : List Frame} {meth : Method} {c : Code} (Z : State) (a0 : Array Value) (hx : p.tables.exec = Jvm.exec) (hZ : Z.Warmed39 s.vm) (hw : ∀ d ∈ tables_1, d.before a0 Z = true) (hby : c.code = prog_46_method_5_code) (hml : c.maxLocals = 8) (hown : s.vm.findClass "com/example/subsume/subsume/reasoner/Positions" = some m.cls) (a1 : Addr) (q2 : Int64) (bk : Addr) (kk : ClassId) (ks : List Int64) (h0 : Heap) (n0 : Nat) (Z0 : n0 ≤ h0.size) (F1 : Fld Z h0 a1 "com/example/subsume/subsume/reasoner/Positions" "keys" "[J" (.ref bk)) (E1 : Exa Z h0 a1 "com/example/subsume/subsume/reasoner/Positions") (V1 : Arv Z h0 bk kk .long (16 : Int32) (ks.map Value.long) (.long (0 : Int64))) : ∀ (n i : Nat) (T : State) (locs : List Loc), Stand p l e ({ frames := 5, cells := 0, slots := 0, locals := 100 } : Room) s m args below meth c T locs 0 0 → T.heap = h0 → Fr n0 locs → i < 16 → (∀ v, v < n → own_K ks ((i + v) % 16) ≠ q2 ∧ own_K ks ((i + v) % 16) ≠ -1) →
    ∃ (T' : State) (L' : List Loc), Stand p l e ({ frames := 5, cells := 0, slots := 0, locals := 100 } : Room) s m args below meth c T' L' 0 0 ∧ T'.heap = h0 ∧ Fr n0 L' ∧ Go p.tables e below (T.setTop (mkF m 6 #[.val (.ref a1), .val (.long q2), .second, .val (.int (Int32.ofNat i)), .unset, .unset, .unset, .unset] [])) (T'.setTop (mkF m 6 #[.val (.ref a1), .val (.long q2), .second, .val (.int (Int32.ofNat ((i + n) % 16))), .unset, .unset, .unset, .unset] [])) := by
  intro n
  induction n with
  | zero => intro i T locs X0 e0 N0 hi hc; exact ⟨T, locs, X0, e0, N0, by rw [show (i + 0) % 16 = i by omega]; exact fun t_ k_ => k_⟩
  | succ n ih =>
    intro i T locs X0 e0 N0 hi hc
    have hi0 : own_K ks i ≠ q2 ∧ own_K ks i ≠ -1 := by have := hc 0 (by omega); rwa [show (i + 0) % 16 = i by omega] at this
    have p0 : Go p.tables e below (T.setTop (mkF m 6 #[.val (.ref a1), .val (.long q2), .second, .val (.int (Int32.ofNat i)), .unset, .unset, .unset, .unset] [])) (T.setTop (mkF m 6 #[.val (.ref a1), .val (.long q2), .second, .val (.int (Int32.ofNat i)), .unset, .unset, .unset, .unset] [])) := fun t_ k_ => k_
    have p101 : Go p.tables e below _ (T.setTop (mkF m 7 #[.val (.ref a1), .val (.long q2), .second, .val (.int (Int32.ofNat i)), .unset, .unset, .unset, .unset] [(.ref a1)])) := fun t_ k_ => p0 t_ (by
      refine XS.aloadN X0.here hx rfl (hb hby d8_6) rfl rfl ?_
      exact k_)
    obtain ⟨T102, X102, e102, st102⟩ := getF X0 hx hZ hown (host := "") (Or.inl (own_w hw 20 rfl)) Via.refl e0 F1 (g := (mkF m 7 #[.val (.ref a1), .val (.long q2), .second, .val (.int (Int32.ofNat i)), .unset, .unset, .unset, .unset] [(.ref a1)])) rfl rfl (hb hby d8_7)
    have p103 : Go p.tables e below _ (T102.setTop (mkF m 11 #[.val (.ref a1), .val (.long q2), .second, .val (.int (Int32.ofNat i)), .unset, .unset, .unset, .unset] [(.int (Int32.ofNat i)), (.ref bk)])) := fun t_ k_ => (gc p101 st102) t_ (by
      refine XS.iloadN X102.here hx rfl (hb hby d8_10) rfl ?_
      exact k_)
    obtain ⟨cl104, Ar104, q104, S104, Ng104, H104, G104⟩ := id V1
    have hin104 := inb_of S104 (j := (Int32.ofNat i)) (own_ib hi)
    have hat104 := H104.at (v := (.long (own_K ks i))) hin104 (own_rdK ks hi)
    have p105 : Go p.tables e below _ (T102.setTop (mkF m 14 #[.val (.ref a1), .val (.long q2), .second, .val (.int (Int32.ofNat i)), .unset, .unset, .unset, .unset] [(.int (lcmpW (own_K ks i) q2))])) := fun t_ k_ => p103 t_ (by
      refine X102.laload hx (j := (Int32.ofNat i)) (v := (.long (own_K ks i))) (by rw [e102]; exact Ar104.1) (State.isArrayOf_alike hZ.alike Ar104.2.1) Ar104.2.2 hin104 hat104 (g := (mkF m 11 #[.val (.ref a1), .val (.long q2), .second, .val (.int (Int32.ofNat i)), .unset, .unset, .unset, .unset] [(.int (Int32.ofNat i)), (.ref bk)])) rfl rfl (hb hby d8_11) _ ?_
      refine XS.lloadN X102.here hx rfl (hb hby d8_12) rfl ?_
      refine XS.lcmp X102.here hx rfl (hb hby d8_13) rfl ?_
      exact k_)
    have c106 : ¬ ((own_K ks i) = q2) := hi0.1
    have p107 : Go p.tables e below _ (T102.setTop (mkF m 18 #[.val (.ref a1), .val (.long q2), .second, .val (.int (Int32.ofNat i)), .unset, .unset, .unset, .unset] [(.ref a1)])) := fun t_ k_ => p105 t_ (by
      refine XS.ifNo X102.here hx rfl (hb hby d8_14) rfl ((if0 _ _).trans (feq (mt (lw_eq _ _).mp c106)).1) ?_
      refine XS.aloadN X102.here hx rfl (hb hby d8_17) rfl rfl ?_
      exact k_)
    obtain ⟨T108, X108, e108, st108⟩ := getF X102 hx hZ hown (host := "") (Or.inl (own_w hw 20 rfl)) Via.refl e102 F1 (g := (mkF m 18 #[.val (.ref a1), .val (.long q2), .second, .val (.int (Int32.ofNat i)), .unset, .unset, .unset, .unset] [(.ref a1)])) rfl rfl (hb hby d8_18)
    have p109 : Go p.tables e below _ (T108.setTop (mkF m 22 #[.val (.ref a1), .val (.long q2), .second, .val (.int (Int32.ofNat i)), .unset, .unset, .unset, .unset] [(.int (Int32.ofNat i)), (.ref bk)])) := fun t_ k_ => (gc p107 st108) t_ (by
      refine XS.iloadN X108.here hx rfl (hb hby d8_21) rfl ?_
      exact k_)
    obtain ⟨cl110, Ar110, q110, S110, Ng110, H110, G110⟩ := id V1
    have hin110 := inb_of S110 (j := (Int32.ofNat i)) (own_ib hi)
    have hat110 := H110.at (v := (.long (own_K ks i))) hin110 (own_rdK ks hi)
    have p111 : Go p.tables e below _ (T108.setTop (mkF m 27 #[.val (.ref a1), .val (.long q2), .second, .val (.int (Int32.ofNat i)), .unset, .unset, .unset, .unset] [(.int (lcmpW (own_K ks i) (-1 : Int64)))])) := fun t_ k_ => p109 t_ (by
      refine X108.laload hx (j := (Int32.ofNat i)) (v := (.long (own_K ks i))) (by rw [e108]; exact Ar110.1) (State.isArrayOf_alike hZ.alike Ar110.2.1) Ar110.2.2 hin110 hat110 (g := (mkF m 22 #[.val (.ref a1), .val (.long q2), .second, .val (.int (Int32.ofNat i)), .unset, .unset, .unset, .unset] [(.int (Int32.ofNat i)), (.ref bk)])) rfl rfl (hb hby d8_22) _ ?_
      refine X108.ldc2Long hx hown (mvT hZ (own_w hw 15 rfl)) (g := (mkF m 23 #[.val (.ref a1), .val (.long q2), .second, .val (.int (Int32.ofNat i)), .unset, .unset, .unset, .unset] [(.long (own_K ks i))])) rfl (hb hby d8_23) _ ?_
      refine XS.lcmp X108.here hx rfl (hb hby d8_26) rfl ?_
      exact k_)
    have c112 : ¬ ((own_K ks i) = (-1 : Int64)) := hi0.2
    have p113 : Go p.tables e below _ (T108.setTop (mkF m 33 #[.val (.ref a1), .val (.long q2), .second, .val (.int (Int32.ofNat i)), .unset, .unset, .unset, .unset] [(.int (Int32.ofNat i)), (.ref a1)])) := fun t_ k_ => p111 t_ (by
      refine XS.ifYes X108.here hx rfl (pc0 := 27) (pc' := 31) rfl (hb hby d8_27) rfl ((if0 _ _).trans (feq (mt (lw_eq _ _).mp c112)).2) (by decide) (by decide) ?_
      refine XS.aloadN X108.here hx rfl (hb hby d8_31) rfl rfl ?_
      refine XS.iloadN X108.here hx rfl (hb hby d8_32) rfl ?_
      exact k_)
    obtain ⟨cq114, q114, q114'⟩ := E1.cell
    obtain ⟨_, _, ⟨T114, L114, k114, n114⟩, -, X114, ⟨Lc114, hQ114, l114, y114, z114⟩, st114⟩ := X108.privateBack hx (y := (⟨"com/example/subsume/subsume/reasoner/Positions", "next", "(I)I"⟩ : MethodName)) hown (mvT hZ (own_w hw 56 rfl)) (mvT hZ (own_w hw 57 rfl)) (selPriv (mvT hZ (own_w hw 28 rfl)) rfl (Cond.privateMethod_at (mvP hZ (own_w hw 58 rfl) (args := #[]))) (mvT hZ (own_w hw 57 rfl)) (by decide)) (Cond.privateMethod_at (mvP hZ (own_w hw 58 rfl) (args := #[]))) (mvT hZ (own_w hw 59 rfl)) (by decide) (backOf (W := 0) (rm11 l Z a0 hw [] a1 i bk kk ks h0 n0 (Nat.le_trans Z0 (Keep.refl h0 []).1) F1 V1 hi) hZ (own_w hw 59 rfl) (own_w hw 4 rfl) (by decide) (by decide)) (g := (mkF m 33 #[.val (.ref a1), .val (.long q2), .second, .val (.int (Int32.ofNat i)), .unset, .unset, .unset, .unset] [(.int (Int32.ofNat i)), (.ref a1)])) rfl (by rw [hml]; rfl) (Steps.refl _) (a := a1) (by rw [e108]; exact q114) q114' (argsL := [(.int (Int32.ofNat i))]) (rest := []) (lenOf pd0 rfl) rfl (by show 2 * 0 + _ ≤ _; exact Nat.le_of_eq rfl) (hb hby d8_33) (fun _ _ => ⟨rfl, e108, (by decide : 0 + 0 ≤ _), (by decide : 0 + 0 ≤ _)⟩)
    dsimp only [Pt.U, Pt.locs, Pt.cells, Pt.slots] at X114 l114 y114 z114 st114 hQ114
    subst l114 y114 z114
    obtain ⟨rfl, N114q, q114_hh⟩ := hQ114
    have N114 := Fr.app N0 N114q
    have p115 : Go p.tables e below _ (T114.setTop (mkF m 6 #[.val (.ref a1), .val (.long q2), .second, .val (.int (Int32.ofNat ((i + 1) % 16))), .unset, .unset, .unset, .unset] [])) := fun t_ k_ => (gcT p113 st114) t_ (by
      refine XS.istoreN X114.here hx rfl (hb hby d8_36) rfl (l' := #[.val (.ref a1), .val (.long q2), .second, .val (.int (Int32.ofNat ((i + 1) % 16))), .unset, .unset, .unset, .unset]) rfl ?_
      refine XS.goto X114.here hx rfl (pc0 := 37) (pc' := 6) rfl (hb hby d8_37) (by decide) (by decide) ?_
      exact k_)
    obtain ⟨T', L', X', e', N', g'⟩ := ih ((i + 1) % 16) T114 _ X114 q114_hh N114 (Nat.mod_lt _ (by omega)) (fun v hv => by have := hc (v + 1) (by omega); rwa [show (i + (v + 1)) % 16 = ((i + 1) % 16 + v) % 16 by omega] at this)
    refine ⟨T', L', X', e', N', fun t_ k_ => p115 t_ (g' t_ ?_)⟩
    rw [show ((i + 1) % 16 + n) % 16 = (i + (n + 1)) % 16 by omega]; exact k_
theorem d9_0 : decode prog_46_method_2_code 0 = .ok (.aload_n 0, 1) := by decide +kernel
theorem d9_1 : decode prog_46_method_2_code 1 = .ok (.lload_n 1, 1) := by decide +kernel
theorem d9_2 : decode prog_46_method_2_code 2 = .ok (.invokevirtual 21, 3) := by decide +kernel
theorem d9_5 : decode prog_46_method_2_code 5 = .ok (.istore_n 3, 1) := by decide +kernel
theorem d9_17 : decode prog_46_method_2_code 17 = .ok (.aload_n 0, 1) := by decide +kernel
theorem d9_18 : decode prog_46_method_2_code 18 = .ok (.getfield 17, 3) := by decide +kernel
theorem d9_21 : decode prog_46_method_2_code 21 = .ok (.iload_n 3, 1) := by decide +kernel
theorem d9_22 : decode prog_46_method_2_code 22 = .ok (.iaload, 1) := by decide +kernel
theorem d9_23 : decode prog_46_method_2_code 23 = .ok (.ireturn, 1) := by decide +kernel
theorem d9_37 : decode prog_46_method_2_code 37 = .ok (.iconst (-1), 1) := by decide +kernel
theorem d9_38 : decode prog_46_method_2_code 38 = .ok (.ireturn, 1) := by decide +kernel
theorem pd1 : parseMethodDescriptor "(J)I" = some ⟨[.long], some .int⟩ := by decide +kernel
theorem pn9 : plainFor (⟨"com/example/subsume/subsume/reasoner/Positions", "get", "(J)I"⟩ : MethodName) = true := plainFor_of_name (by first | (simp [plainName, overriddenIn]; done) | decide +kernel)
theorem ef_rm9 (m : MethodId) (a1 : Addr) (q2 : Int64) (bk : Addr) (kk : ClassId) (ks : List Int64) (bp : Addr) (kp : ClassId) (ps : List Int32) (t : Nat) : entryFrame m #[(.ref a1), (.long q2)] 4 = mkF m 0 #[.val (.ref a1), .val (.long q2), .second, .unset] [] := by first | (simp [entryFrame, mkF, argsToLocals, Value.category]; done) | rfl
def Q9 (Z : State) (a1 : Addr) (q2 : Int64) (bk : Addr) (kk : ClassId) (ks : List Int64) (bp : Addr) (kp : ClassId) (ps : List Int32) (t : Nat) (h0 : Heap) (n0 : Nat) (v : Option Value) (h : Heap) (L : List Loc) : Prop := v = some (.int (own_gv ks ps q2 t)) ∧ Fr n0 L ∧ (h = h0)
set_option maxRecDepth 65536 in
set_option maxHeartbeats 40000000 in
theorem rm9 (l : Launch) (Z : State) (a0 : Array Value) (hw : ∀ d ∈ tables_1, d.before a0 Z = true) (ws : List Jvm.Cond) (a1 : Addr) (q2 : Int64) (bk : Addr) (kk : ClassId) (ks : List Int64) (bp : Addr) (kp : ClassId) (ps : List Int32) (t : Nat) (h0 : Heap) (n0 : Nat) (Z0 : n0 ≤ h0.size) (F1 : Fld Z h0 a1 "com/example/subsume/subsume/reasoner/Positions" "keys" "[J" (.ref bk)) (F2 : Fld Z h0 a1 "com/example/subsume/subsume/reasoner/Positions" "positions" "[I" (.ref bp)) (E1 : Exa Z h0 a1 "com/example/subsume/subsume/reasoner/Positions") (V1 : Arv Z h0 bk kk .long (16 : Int32) (ks.map Value.long) (.long (0 : Int64))) (V2 : Arv Z h0 bp kp .int (16 : Int32) (ps.map Value.int) (.int (0 : Int32))) (hu : ∀ v, v < t → own_K ks ((own_home q2 + v) % 16) ≠ q2 ∧ own_K ks ((own_home q2 + v) % 16) ≠ -1) (hend : own_K ks ((own_home q2 + t) % 16) = q2 ∨ own_K ks ((own_home q2 + t) % 16) = -1) :
    MetFree l (⟨"com/example/subsume/subsume/reasoner/Positions", "get", "(J)I"⟩ : MethodName) (head1 (Jvm.Cond.code (⟨"com/example/subsume/subsume/reasoner/Positions", "get", "(J)I"⟩ : MethodName) prog_46_method_2_code 4 (some .int) :: ws) ({ frames := 5, cells := 0, slots := 0, locals := 100 } : Room)) (fun a U => a = #[(.ref a1), (.long q2)] ∧ Z.Warmed39 U.vm ∧ U.heap = h0) (fun _ _ _ _ _ => True) (fun _ U o U' => ∃ v L, o = .returned v ∧ Q9 Z a1 q2 bk kk ks bp kp ps t h0 n0 v U'.heap L ∧ FrameEnd U o U' L ({ frames := 5, cells := 0, slots := 0, locals := 100 } : Room).cells ({ frames := 5, cells := 0, slots := 0, locals := 100 } : Room).slots) := by
  refine MetFree.of_bodySF pn9 hisR ?_
  intro p e s m args below meth c s₁ Bd hml0 hP hK
  obtain ⟨rfl, hZ, hh⟩ := hP
  have hx := Bd.exec
  have hby := Bd.bytes
  have hml : c.maxLocals = 4 := hml0
  have hown : s.vm.findClass "com/example/subsume/subsume/reasoner/Positions" = some m.cls := findClass_of_methodNamed Bd.named
  have hnm := (name_of_methodNamed Bd.named Bd.method).1
  have X0 : Stand p l e ({ frames := 5, cells := 0, slots := 0, locals := 100 } : Room) s m #[(.ref a1), (.long q2)] below meth c s₁ [] 0 0 := Stand.of_body Bd
  have e0 : s₁.heap = h0 := by rw [← hh, Bd.state]; rfl
  have N0 := Fr.nil n0
  have p0 : Go p.tables e below (s₁.setTop (entryFrame m #[(.ref a1), (.long q2)] 4)) (s₁.setTop (mkF m 0 #[.val (.ref a1), .val (.long q2), .second, .unset] [])) := fun t_ k_ => castTop (ef_rm9 m a1 q2 bk kk ks bp kp ps t) k_
  have p101 : Go p.tables e below _ (s₁.setTop (mkF m 2 #[.val (.ref a1), .val (.long q2), .second, .unset] [(.long q2), (.ref a1)])) := fun t_ k_ => p0 t_ (by
    refine XS.aloadN X0.here hx rfl (hb hby d9_0) rfl rfl ?_
    refine XS.lloadN X0.here hx rfl (hb hby d9_1) rfl ?_
    exact k_)
  obtain ⟨cq102, q102, q102'⟩ := E1.cell
  obtain ⟨_, _, ⟨T102, L102, k102, n102⟩, -, X102, ⟨Lc102, hQ102, l102, y102, z102⟩, st102⟩ := X0.privateBack hx (y := (⟨"com/example/subsume/subsume/reasoner/Positions", "slot", "(J)I"⟩ : MethodName)) hown (mvT hZ (own_w hw 32 rfl)) (mvT hZ (own_w hw 33 rfl)) (selPriv (mvT hZ (own_w hw 28 rfl)) rfl (Cond.privateMethod_at (mvP hZ (own_w hw 34 rfl) (args := #[]))) (mvT hZ (own_w hw 33 rfl)) (by decide)) (Cond.privateMethod_at (mvP hZ (own_w hw 34 rfl) (args := #[]))) (mvT hZ (own_w hw 35 rfl)) (by decide) (backOf (W := 0) (rm6 l Z a0 hw [] a1 q2 bk kk ks h0 n0 (Nat.le_trans Z0 (Keep.refl h0 []).1) F1 V1) hZ (own_w hw 35 rfl) (own_w hw 4 rfl) (by decide) (by decide)) (g := (mkF m 2 #[.val (.ref a1), .val (.long q2), .second, .unset] [(.long q2), (.ref a1)])) rfl (by rw [hml]; rfl) (Steps.refl _) (a := a1) (by rw [e0]; exact q102) q102' (argsL := [(.long q2)]) (rest := []) (lenOf pd1 rfl) rfl (by show 2 * 0 + _ ≤ _; exact Nat.le_of_eq rfl) (hb hby d9_2) (fun _ _ => ⟨rfl, e0, (by decide : 0 + 0 ≤ _), (by decide : 0 + 0 ≤ _)⟩)
  dsimp only [Pt.U, Pt.locs, Pt.cells, Pt.slots] at X102 l102 y102 z102 st102 hQ102
  subst l102 y102 z102
  obtain ⟨rfl, N102q, q102_hh⟩ := hQ102
  have N102 := Fr.app N0 N102q
  have p103 : Go p.tables e below _ (T102.setTop (mkF m 6 #[.val (.ref a1), .val (.long q2), .second, .val (.int (Int32.ofNat (own_home q2)))] [])) := fun t_ k_ => (gcT p101 st102) t_ (by
    refine XS.istoreN X102.here hx rfl (hb hby d9_5) rfl (l' := #[.val (.ref a1), .val (.long q2), .second, .val (.int (Int32.ofNat (own_home q2)))]) rfl ?_
    exact k_)
  obtain ⟨T104, L104, X104, e104, N104, g104⟩ := lp9 Z a0 hx hZ hw hby hml hown a1 q2  bk kk ks h0 n0 (Nat.le_trans Z0 (Keep.refl h0 []).1) F1 E1 V1 t (own_home q2) T102 _ X102 q102_hh N102 (own_home_lt q2) hu
  have p105 : Go p.tables e below _ (T104.setTop (mkF m 6 #[.val (.ref a1), .val (.long q2), .second, .val (.int (Int32.ofNat ((own_home q2 + t) % 16)))] [])) := fun t_ k_ => p103 t_ (g104 t_ k_)
  have p106 : Go p.tables e below _ (T104.setTop (mkF m 7 #[.val (.ref a1), .val (.long q2), .second, .val (.int (Int32.ofNat ((own_home q2 + t) % 16)))] [(.ref a1)])) := fun t_ k_ => p105 t_ (by
    refine XS.aloadN X104.here hx rfl (hb hby d9_6) rfl rfl ?_
    exact k_)
  obtain ⟨T107, X107, e107, st107⟩ := getF X104 hx hZ hown (host := "") (Or.inl (own_w hw 20 rfl)) Via.refl e104 F1 (g := (mkF m 7 #[.val (.ref a1), .val (.long q2), .second, .val (.int (Int32.ofNat ((own_home q2 + t) % 16)))] [(.ref a1)])) rfl rfl (hb hby d9_7)
  have p108 : Go p.tables e below _ (T107.setTop (mkF m 11 #[.val (.ref a1), .val (.long q2), .second, .val (.int (Int32.ofNat ((own_home q2 + t) % 16)))] [(.int (Int32.ofNat ((own_home q2 + t) % 16))), (.ref bk)])) := fun t_ k_ => (gc p106 st107) t_ (by
    refine XS.iloadN X107.here hx rfl (hb hby d9_10) rfl ?_
    exact k_)
  obtain ⟨cl109, Ar109, q109, S109, Ng109, H109, G109⟩ := id V1
  have hin109 := inb_of S109 (j := (Int32.ofNat ((own_home q2 + t) % 16))) (own_ib (Nat.mod_lt _ (by omega)))
  have hat109 := H109.at (v := (.long (own_K ks ((own_home q2 + t) % 16)))) hin109 (own_rdK ks (Nat.mod_lt _ (by omega)))
  have p110 : Go p.tables e below _ (T107.setTop (mkF m 14 #[.val (.ref a1), .val (.long q2), .second, .val (.int (Int32.ofNat ((own_home q2 + t) % 16)))] [(.int (lcmpW (own_K ks ((own_home q2 + t) % 16)) q2))])) := fun t_ k_ => p108 t_ (by
    refine X107.laload hx (j := (Int32.ofNat ((own_home q2 + t) % 16))) (v := (.long (own_K ks ((own_home q2 + t) % 16)))) (by rw [e107]; exact Ar109.1) (State.isArrayOf_alike hZ.alike Ar109.2.1) Ar109.2.2 hin109 hat109 (g := (mkF m 11 #[.val (.ref a1), .val (.long q2), .second, .val (.int (Int32.ofNat ((own_home q2 + t) % 16)))] [(.int (Int32.ofNat ((own_home q2 + t) % 16))), (.ref bk)])) rfl rfl (hb hby d9_11) _ ?_
    refine XS.lloadN X107.here hx rfl (hb hby d9_12) rfl ?_
    refine XS.lcmp X107.here hx rfl (hb hby d9_13) rfl ?_
    exact k_)
  by_cases c111 : (own_K ks ((own_home q2 + t) % 16)) = q2
  · have p112 : Go p.tables e below _ (T107.setTop (mkF m 17 #[.val (.ref a1), .val (.long q2), .second, .val (.int (Int32.ofNat ((own_home q2 + t) % 16)))] [])) := fun t_ k_ => p110 t_ (by
      refine XS.ifNo X107.here hx rfl (hb hby d9_14) rfl ((if0 _ _).trans (teq ((lw_eq _ _).mpr c111)).2) ?_
      exact k_)
    have p113 : Go p.tables e below _ (T107.setTop (mkF m 18 #[.val (.ref a1), .val (.long q2), .second, .val (.int (Int32.ofNat ((own_home q2 + t) % 16)))] [(.ref a1)])) := fun t_ k_ => p112 t_ (by
      refine XS.aloadN X107.here hx rfl (hb hby d9_17) rfl rfl ?_
      exact k_)
    obtain ⟨T114, X114, e114, st114⟩ := getF X107 hx hZ hown (host := "") (Or.inl (own_w hw 23 rfl)) Via.refl e107 F2 (g := (mkF m 18 #[.val (.ref a1), .val (.long q2), .second, .val (.int (Int32.ofNat ((own_home q2 + t) % 16)))] [(.ref a1)])) rfl rfl (hb hby d9_18)
    have p115 : Go p.tables e below _ (T114.setTop (mkF m 22 #[.val (.ref a1), .val (.long q2), .second, .val (.int (Int32.ofNat ((own_home q2 + t) % 16)))] [(.int (Int32.ofNat ((own_home q2 + t) % 16))), (.ref bp)])) := fun t_ k_ => (gc p113 st114) t_ (by
      refine XS.iloadN X114.here hx rfl (hb hby d9_21) rfl ?_
      exact k_)
    obtain ⟨cl116, Ar116, q116, S116, Ng116, H116, G116⟩ := id V2
    have hin116 := inb_of S116 (j := (Int32.ofNat ((own_home q2 + t) % 16))) (own_ib (Nat.mod_lt _ (by omega)))
    have hat116 := H116.at (v := (.int (own_P ps ((own_home q2 + t) % 16)))) hin116 (own_rdP ps (Nat.mod_lt _ (by omega)))
    have p117 : Go p.tables e below _ (T114.setTop (mkF m 23 #[.val (.ref a1), .val (.long q2), .second, .val (.int (Int32.ofNat ((own_home q2 + t) % 16)))] [(.int (own_P ps ((own_home q2 + t) % 16)))])) := fun t_ k_ => p115 t_ (by
      refine X114.iaload hx (j := (Int32.ofNat ((own_home q2 + t) % 16))) (v := (.int (own_P ps ((own_home q2 + t) % 16)))) (by rw [e114]; exact Ar116.1) (State.isArrayOf_alike hZ.alike Ar116.2.1) Ar116.2.2 hin116 hat116 (g := (mkF m 22 #[.val (.ref a1), .val (.long q2), .second, .val (.int (Int32.ofNat ((own_home q2 + t) % 16)))] [(.int (Int32.ofNat ((own_home q2 + t) % 16))), (.ref bp)])) rfl rfl (hb hby d9_22) _ ?_
      exact k_)
    obtain ⟨fs, hr, hrun, hended, hW, hsame⟩ := X114.leave (v := some (.int (own_P ps ((own_home q2 + t) % 16)))) (fun h => by rw [Bd.returns] at h; cases h)
    refine ⟨_, _, p117 _ (retI X114 hx Bd.returns (hb hby d9_23) hr), hrun, hended, _, _, rfl, ?_, ⟨_, rfl⟩, hW, hsame.mono (by decide) (by decide)⟩
    show Q9 Z a1 q2 bk kk ks bp kp ps t h0 n0 _ T114.heap _
    rw [e114]
    exact ⟨by simp [own_gv, c111], N104, rfl⟩
  · have p118 : Go p.tables e below _ (T107.setTop (mkF m 24 #[.val (.ref a1), .val (.long q2), .second, .val (.int (Int32.ofNat ((own_home q2 + t) % 16)))] [])) := fun t_ k_ => p110 t_ (by
      refine XS.ifYes X107.here hx rfl (pc0 := 14) (pc' := 24) rfl (hb hby d9_14) rfl ((if0 _ _).trans (feq (mt (lw_eq _ _).mp c111)).2) (by decide) (by decide) ?_
      exact k_)
    have p119 : Go p.tables e below _ (T107.setTop (mkF m 25 #[.val (.ref a1), .val (.long q2), .second, .val (.int (Int32.ofNat ((own_home q2 + t) % 16)))] [(.ref a1)])) := fun t_ k_ => p118 t_ (by
      refine XS.aloadN X107.here hx rfl (hb hby d9_24) rfl rfl ?_
      exact k_)
    obtain ⟨T120, X120, e120, st120⟩ := getF X107 hx hZ hown (host := "") (Or.inl (own_w hw 20 rfl)) Via.refl e107 F1 (g := (mkF m 25 #[.val (.ref a1), .val (.long q2), .second, .val (.int (Int32.ofNat ((own_home q2 + t) % 16)))] [(.ref a1)])) rfl rfl (hb hby d9_25)
    have p121 : Go p.tables e below _ (T120.setTop (mkF m 29 #[.val (.ref a1), .val (.long q2), .second, .val (.int (Int32.ofNat ((own_home q2 + t) % 16)))] [(.int (Int32.ofNat ((own_home q2 + t) % 16))), (.ref bk)])) := fun t_ k_ => (gc p119 st120) t_ (by
      refine XS.iloadN X120.here hx rfl (hb hby d9_28) rfl ?_
      exact k_)
    obtain ⟨cl122, Ar122, q122, S122, Ng122, H122, G122⟩ := id V1
    have hin122 := inb_of S122 (j := (Int32.ofNat ((own_home q2 + t) % 16))) (own_ib (Nat.mod_lt _ (by omega)))
    have hat122 := H122.at (v := (.long (own_K ks ((own_home q2 + t) % 16)))) hin122 (own_rdK ks (Nat.mod_lt _ (by omega)))
    have p123 : Go p.tables e below _ (T120.setTop (mkF m 34 #[.val (.ref a1), .val (.long q2), .second, .val (.int (Int32.ofNat ((own_home q2 + t) % 16)))] [(.int (lcmpW (own_K ks ((own_home q2 + t) % 16)) (-1 : Int64)))])) := fun t_ k_ => p121 t_ (by
      refine X120.laload hx (j := (Int32.ofNat ((own_home q2 + t) % 16))) (v := (.long (own_K ks ((own_home q2 + t) % 16)))) (by rw [e120]; exact Ar122.1) (State.isArrayOf_alike hZ.alike Ar122.2.1) Ar122.2.2 hin122 hat122 (g := (mkF m 29 #[.val (.ref a1), .val (.long q2), .second, .val (.int (Int32.ofNat ((own_home q2 + t) % 16)))] [(.int (Int32.ofNat ((own_home q2 + t) % 16))), (.ref bk)])) rfl rfl (hb hby d9_29) _ ?_
      refine X120.ldc2Long hx hown (mvT hZ (own_w hw 15 rfl)) (g := (mkF m 30 #[.val (.ref a1), .val (.long q2), .second, .val (.int (Int32.ofNat ((own_home q2 + t) % 16)))] [(.long (own_K ks ((own_home q2 + t) % 16)))])) rfl (hb hby d9_30) _ ?_
      refine XS.lcmp X120.here hx rfl (hb hby d9_33) rfl ?_
      exact k_)
    have c124 : ((own_K ks ((own_home q2 + t) % 16)) = (-1 : Int64)) := (hend.resolve_left c111)
    have p125 : Go p.tables e below _ (T120.setTop (mkF m 38 #[.val (.ref a1), .val (.long q2), .second, .val (.int (Int32.ofNat ((own_home q2 + t) % 16)))] [(.int (-1 : Int32))])) := fun t_ k_ => p123 t_ (by
      refine XS.ifNo X120.here hx rfl (hb hby d9_34) rfl ((if0 _ _).trans (teq ((lw_eq _ _).mpr c124)).2) ?_
      refine XS.iconst X120.here hx rfl (hb hby d9_37) ?_
      exact k_)
    obtain ⟨fs, hr, hrun, hended, hW, hsame⟩ := X120.leave (v := some (.int (-1 : Int32))) (fun h => by rw [Bd.returns] at h; cases h)
    refine ⟨_, _, p125 _ (retI X120 hx Bd.returns (hb hby d9_38) hr), hrun, hended, _, _, rfl, ?_, ⟨_, rfl⟩, hW, hsame.mono (by decide) (by decide)⟩
    show Q9 Z a1 q2 bk kk ks bp kp ps t h0 n0 _ T120.heap _
    rw [e120]
    exact ⟨by simp [own_gv, c111], N104, rfl⟩
theorem d5_0 : decode prog_46_method_4_code 0 = .ok (.iconst 2, 1) := by decide +kernel
theorem d5_1 : decode prog_46_method_4_code 1 = .ok (.aload_n 0, 1) := by decide +kernel
theorem d5_2 : decode prog_46_method_4_code 2 = .ok (.getfield 34, 3) := by decide +kernel
theorem d5_5 : decode prog_46_method_4_code 5 = .ok (.iconst 1, 1) := by decide +kernel
theorem d5_6 : decode prog_46_method_4_code 6 = .ok (.iadd, 1) := by decide +kernel
theorem d5_7 : decode prog_46_method_4_code 7 = .ok (.imul, 1) := by decide +kernel
theorem d5_8 : decode prog_46_method_4_code 8 = .ok (.aload_n 0, 1) := by decide +kernel
theorem d5_9 : decode prog_46_method_4_code 9 = .ok (.getfield 13, 3) := by decide +kernel
theorem d5_12 : decode prog_46_method_4_code 12 = .ok (.arraylength, 1) := by decide +kernel
theorem d5_13 : decode prog_46_method_4_code 13 = .ok (.if_icmp .le 7, 3) := by decide +kernel
theorem d5_20 : decode prog_46_method_4_code 20 = .ok (.aload_n 0, 1) := by decide +kernel
theorem d5_21 : decode prog_46_method_4_code 21 = .ok (.lload_n 1, 1) := by decide +kernel
theorem d5_22 : decode prog_46_method_4_code 22 = .ok (.invokevirtual 21, 3) := by decide +kernel
theorem d5_25 : decode prog_46_method_4_code 25 = .ok (.istore 4, 2) := by decide +kernel
theorem d5_52 : decode prog_46_method_4_code 52 = .ok (.aload_n 0, 1) := by decide +kernel
theorem d5_53 : decode prog_46_method_4_code 53 = .ok (.getfield 13, 3) := by decide +kernel
theorem d5_56 : decode prog_46_method_4_code 56 = .ok (.iload 4, 2) := by decide +kernel
theorem d5_58 : decode prog_46_method_4_code 58 = .ok (.lload_n 1, 1) := by decide +kernel
theorem d5_59 : decode prog_46_method_4_code 59 = .ok (.lastore, 1) := by decide +kernel
theorem d5_60 : decode prog_46_method_4_code 60 = .ok (.aload_n 0, 1) := by decide +kernel
theorem d5_61 : decode prog_46_method_4_code 61 = .ok (.getfield 17, 3) := by decide +kernel
theorem d5_64 : decode prog_46_method_4_code 64 = .ok (.iload 4, 2) := by decide +kernel
theorem d5_66 : decode prog_46_method_4_code 66 = .ok (.iload_n 3, 1) := by decide +kernel
theorem d5_67 : decode prog_46_method_4_code 67 = .ok (.iastore, 1) := by decide +kernel
theorem d5_68 : decode prog_46_method_4_code 68 = .ok (.aload_n 0, 1) := by decide +kernel
theorem d5_69 : decode prog_46_method_4_code 69 = .ok (.dup, 1) := by decide +kernel
theorem d5_70 : decode prog_46_method_4_code 70 = .ok (.getfield 34, 3) := by decide +kernel
theorem d5_73 : decode prog_46_method_4_code 73 = .ok (.iconst 1, 1) := by decide +kernel
theorem d5_74 : decode prog_46_method_4_code 74 = .ok (.iadd, 1) := by decide +kernel
theorem d5_75 : decode prog_46_method_4_code 75 = .ok (.putfield 34, 3) := by decide +kernel
theorem d5_78 : decode prog_46_method_4_code 78 = .ok (.return_, 1) := by decide +kernel
theorem pn5 : plainFor (⟨"com/example/subsume/subsume/reasoner/Positions", "put", "(JI)V"⟩ : MethodName) = true := plainFor_of_name (by first | (simp [plainName, overriddenIn]; done) | decide +kernel)
theorem ef_rm5 (m : MethodId) (a1 : Addr) (q2 : Int64) (p3 : Int32) (sz : Int32) (bk : Addr) (kk : ClassId) (ks : List Int64) (bp : Addr) (kp : ClassId) (ps : List Int32) (t : Nat) : entryFrame m #[(.ref a1), (.long q2), (.int p3)] 5 = mkF m 0 #[.val (.ref a1), .val (.long q2), .second, .val (.int p3), .unset] [] := by first | (simp [entryFrame, mkF, argsToLocals, Value.category]; done) | rfl
def Q5 (Z : State) (a1 : Addr) (q2 : Int64) (p3 : Int32) (sz : Int32) (bk : Addr) (kk : ClassId) (ks : List Int64) (bp : Addr) (kp : ClassId) (ps : List Int32) (t : Nat) (h0 : Heap) (n0 : Nat) (v : Option Value) (h : Heap) (L : List Loc) : Prop := v = none ∧ Fr n0 L ∧ (Keep h0 h [a1, bk, bp]) ∧ (Fld Z h a1 "com/example/subsume/subsume/reasoner/Positions" "keys" "[J" (.ref bk)) ∧ (Fld Z h a1 "com/example/subsume/subsume/reasoner/Positions" "positions" "[I" (.ref bp)) ∧ (Fld Z h a1 "com/example/subsume/subsume/reasoner/Positions" "size" "I" (.int (sz + (1 : Int32)))) ∧ (Exa Z h a1 "com/example/subsume/subsume/reasoner/Positions") ∧ (Arv Z h bk kk .long (16 : Int32) ((ks.set ((own_home q2 + t) % 16) q2).map Value.long) (.long (0 : Int64))) ∧ (Arv Z h bp kp .int (16 : Int32) ((ps.set ((own_home q2 + t) % 16) p3).map Value.int) (.int (0 : Int32)))
set_option maxRecDepth 65536 in
set_option maxHeartbeats 40000000 in
theorem rm5 (l : Launch) (Z : State) (a0 : Array Value) (hw : ∀ d ∈ tables_1, d.before a0 Z = true) (ws : List Jvm.Cond) (a1 : Addr) (q2 : Int64) (p3 : Int32) (sz : Int32) (bk : Addr) (kk : ClassId) (ks : List Int64) (bp : Addr) (kp : ClassId) (ps : List Int32) (t : Nat) (h0 : Heap) (n0 : Nat) (Z0 : n0 ≤ h0.size) (F1 : Fld Z h0 a1 "com/example/subsume/subsume/reasoner/Positions" "keys" "[J" (.ref bk)) (F2 : Fld Z h0 a1 "com/example/subsume/subsume/reasoner/Positions" "positions" "[I" (.ref bp)) (E1 : Exa Z h0 a1 "com/example/subsume/subsume/reasoner/Positions") (V1 : Arv Z h0 bk kk .long (16 : Int32) (ks.map Value.long) (.long (0 : Int64))) (V2 : Arv Z h0 bp kp .int (16 : Int32) (ps.map Value.int) (.int (0 : Int32))) (F3 : Fld Z h0 a1 "com/example/subsume/subsume/reasoner/Positions" "size" "I" (.int sz)) (ne1 : a1 ≠ bk) (ne2 : a1 ≠ bp) (ne3 : bk ≠ bp) (g1 : n0 ≤ a1) (g2 : n0 ≤ bk) (g3 : n0 ≤ bp) (hlk : ks.length = 16) (hlp : ps.length = 16) (hsz : ¬ ((16 : Int32) < ((2 : Int32) * (sz + (1 : Int32))))) (hf : own_K ks ((own_home q2 + t) % 16) = (-1 : Int64)) (hu : ∀ v, v < t → own_K ks ((own_home q2 + v) % 16) ≠ -1) :
    MetFree l (⟨"com/example/subsume/subsume/reasoner/Positions", "put", "(JI)V"⟩ : MethodName) (head1 (Jvm.Cond.code (⟨"com/example/subsume/subsume/reasoner/Positions", "put", "(JI)V"⟩ : MethodName) prog_46_method_4_code 5 none :: ws) ({ frames := 5, cells := 0, slots := 0, locals := 100 } : Room)) (fun a U => a = #[(.ref a1), (.long q2), (.int p3)] ∧ Z.Warmed39 U.vm ∧ U.heap = h0) (fun _ _ _ _ _ => True) (fun _ U o U' => ∃ v L, o = .returned v ∧ Q5 Z a1 q2 p3 sz bk kk ks bp kp ps t h0 n0 v U'.heap L ∧ FrameEnd U o U' L ({ frames := 5, cells := 0, slots := 0, locals := 100 } : Room).cells ({ frames := 5, cells := 0, slots := 0, locals := 100 } : Room).slots) := by
  refine MetFree.of_bodySF pn5 hisR ?_
  intro p e s m args below meth c s₁ Bd hml0 hP hK
  obtain ⟨rfl, hZ, hh⟩ := hP
  have hx := Bd.exec
  have hby := Bd.bytes
  have hml : c.maxLocals = 5 := hml0
  have hown : s.vm.findClass "com/example/subsume/subsume/reasoner/Positions" = some m.cls := findClass_of_methodNamed Bd.named
  have hnm := (name_of_methodNamed Bd.named Bd.method).1
  have X0 : Stand p l e ({ frames := 5, cells := 0, slots := 0, locals := 100 } : Room) s m #[(.ref a1), (.long q2), (.int p3)] below meth c s₁ [] 0 0 := Stand.of_body Bd
  have e0 : s₁.heap = h0 := by rw [← hh, Bd.state]; rfl
  have N0 := Fr.nil n0
  have p0 : Go p.tables e below (s₁.setTop (entryFrame m #[(.ref a1), (.long q2), (.int p3)] 5)) (s₁.setTop (mkF m 0 #[.val (.ref a1), .val (.long q2), .second, .val (.int p3), .unset] [])) := fun t_ k_ => castTop (ef_rm5 m a1 q2 p3 sz bk kk ks bp kp ps t) k_
  have p101 : Go p.tables e below _ (s₁.setTop (mkF m 2 #[.val (.ref a1), .val (.long q2), .second, .val (.int p3), .unset] [(.ref a1), (.int (2 : Int32))])) := fun t_ k_ => p0 t_ (by
    refine XS.iconst X0.here hx rfl (hb hby d5_0) ?_
    refine XS.aloadN X0.here hx rfl (hb hby d5_1) rfl rfl ?_
    exact k_)
  obtain ⟨T102, X102, e102, st102⟩ := getF X0 hx hZ hown (host := "") (Or.inl (own_w hw 30 rfl)) Via.refl e0 F3 (g := (mkF m 2 #[.val (.ref a1), .val (.long q2), .second, .val (.int p3), .unset] [(.ref a1), (.int (2 : Int32))])) rfl rfl (hb hby d5_2)
  have p103 : Go p.tables e below _ (T102.setTop (mkF m 9 #[.val (.ref a1), .val (.long q2), .second, .val (.int p3), .unset] [(.ref a1), (.int ((2 : Int32) * (sz + (1 : Int32))))])) := fun t_ k_ => (gc p101 st102) t_ (by
    refine XS.iconst X102.here hx rfl (hb hby d5_5) ?_
    refine XS.iadd X102.here hx rfl (hb hby d5_6) rfl ?_
    refine XS.imul X102.here hx rfl (hb hby d5_7) rfl ?_
    refine XS.aloadN X102.here hx rfl (hb hby d5_8) rfl rfl ?_
    exact k_)
  obtain ⟨T104, X104, e104, st104⟩ := getF X102 hx hZ hown (host := "") (Or.inl (own_w hw 20 rfl)) Via.refl e102 F1 (g := (mkF m 9 #[.val (.ref a1), .val (.long q2), .second, .val (.int p3), .unset] [(.ref a1), (.int ((2 : Int32) * (sz + (1 : Int32))))])) rfl rfl (hb hby d5_9)
  obtain ⟨cl105, Ar105, -, S105, Ng105, -, -⟩ := id V1
  have p106 : Go p.tables e below _ (T104.setTop (mkF m 13 #[.val (.ref a1), .val (.long q2), .second, .val (.int p3), .unset] [(.int (16 : Int32)), (.int ((2 : Int32) * (sz + (1 : Int32))))])) := fun t_ k_ => (gc p103 st104) t_ (by
    refine X104.arraylength hx (by rw [e104]; exact Ar105.1) (State.isArrayOf_alike hZ.alike Ar105.2.1) (g := (mkF m 12 #[.val (.ref a1), .val (.long q2), .second, .val (.int p3), .unset] [(.ref bk), (.int ((2 : Int32) * (sz + (1 : Int32))))])) rfl rfl (hb hby d5_12) _ ?_
    rw [len_of S105 Ng105]
    show Steps p.tables e below (T104.setTop (mkF m 13 #[.val (.ref a1), .val (.long q2), .second, .val (.int p3), .unset] [(.int (16 : Int32)), (.int ((2 : Int32) * (sz + (1 : Int32))))])) _
    exact k_)
  have c107 : ¬ ((16 : Int32) < ((2 : Int32) * (sz + (1 : Int32)))) := hsz
  have p108 : Go p.tables e below _ (T104.setTop (mkF m 22 #[.val (.ref a1), .val (.long q2), .second, .val (.int p3), .unset] [(.long q2), (.ref a1)])) := fun t_ k_ => p106 t_ (by
    refine XS.icmpYes X104.here hx rfl (pc0 := 13) (pc' := 20) rfl (hb hby d5_13) rfl (flt c107).2.2.2 (by decide) (by decide) ?_
    refine XS.aloadN X104.here hx rfl (hb hby d5_20) rfl rfl ?_
    refine XS.lloadN X104.here hx rfl (hb hby d5_21) rfl ?_
    exact k_)
  obtain ⟨cq109, q109, q109'⟩ := E1.cell
  obtain ⟨_, _, ⟨T109, L109, k109, n109⟩, -, X109, ⟨Lc109, hQ109, l109, y109, z109⟩, st109⟩ := X104.privateBack hx (y := (⟨"com/example/subsume/subsume/reasoner/Positions", "slot", "(J)I"⟩ : MethodName)) hown (mvT hZ (own_w hw 32 rfl)) (mvT hZ (own_w hw 33 rfl)) (selPriv (mvT hZ (own_w hw 28 rfl)) rfl (Cond.privateMethod_at (mvP hZ (own_w hw 34 rfl) (args := #[]))) (mvT hZ (own_w hw 33 rfl)) (by decide)) (Cond.privateMethod_at (mvP hZ (own_w hw 34 rfl) (args := #[]))) (mvT hZ (own_w hw 35 rfl)) (by decide) (backOf (W := 0) (rm6 l Z a0 hw [] a1 q2 bk kk ks h0 n0 (Nat.le_trans Z0 (Keep.refl h0 [a1, bk, bp]).1) F1 V1) hZ (own_w hw 35 rfl) (own_w hw 4 rfl) (by decide) (by decide)) (g := (mkF m 22 #[.val (.ref a1), .val (.long q2), .second, .val (.int p3), .unset] [(.long q2), (.ref a1)])) rfl (by rw [hml]; rfl) (Steps.refl _) (a := a1) (by rw [e104]; exact q109) q109' (argsL := [(.long q2)]) (rest := []) (lenOf pd1 rfl) rfl (by show 2 * 0 + _ ≤ _; exact Nat.le_of_eq rfl) (hb hby d5_22) (fun _ _ => ⟨rfl, e104, (by decide : 0 + 0 ≤ _), (by decide : 0 + 0 ≤ _)⟩)
  dsimp only [Pt.U, Pt.locs, Pt.cells, Pt.slots] at X109 l109 y109 z109 st109 hQ109
  subst l109 y109 z109
  obtain ⟨rfl, N109q, q109_hh⟩ := hQ109
  have N109 := Fr.app N0 N109q
  have p110 : Go p.tables e below _ (T109.setTop (mkF m 27 #[.val (.ref a1), .val (.long q2), .second, .val (.int p3), .val (.int (Int32.ofNat (own_home q2)))] [])) := fun t_ k_ => (gcT p108 st109) t_ (by
    refine XS.istore X109.here hx rfl (hb hby d5_25) rfl (l' := #[.val (.ref a1), .val (.long q2), .second, .val (.int p3), .val (.int (Int32.ofNat (own_home q2)))]) rfl ?_
    exact k_)
  obtain ⟨T111, L111, X111, e111, N111, g111⟩ := lp5 Z a0 hx hZ hw hby hml hown a1 q2 p3 bk kk ks h0 n0 (Nat.le_trans Z0 (Keep.refl h0 [a1, bk, bp]).1) F1 E1 V1 t (own_home q2) T109 _ X109 q109_hh N109 (own_home_lt q2) hu
  have p112 : Go p.tables e below _ (T111.setTop (mkF m 27 #[.val (.ref a1), .val (.long q2), .second, .val (.int p3), .val (.int (Int32.ofNat ((own_home q2 + t) % 16)))] [])) := fun t_ k_ => p110 t_ (g111 t_ k_)
  have p113 : Go p.tables e below _ (T111.setTop (mkF m 28 #[.val (.ref a1), .val (.long q2), .second, .val (.int p3), .val (.int (Int32.ofNat ((own_home q2 + t) % 16)))] [(.ref a1)])) := fun t_ k_ => p112 t_ (by
    refine XS.aloadN X111.here hx rfl (hb hby d5_27) rfl rfl ?_
    exact k_)
  obtain ⟨T114, X114, e114, st114⟩ := getF X111 hx hZ hown (host := "") (Or.inl (own_w hw 20 rfl)) Via.refl e111 F1 (g := (mkF m 28 #[.val (.ref a1), .val (.long q2), .second, .val (.int p3), .val (.int (Int32.ofNat ((own_home q2 + t) % 16)))] [(.ref a1)])) rfl rfl (hb hby d5_28)
  have p115 : Go p.tables e below _ (T114.setTop (mkF m 33 #[.val (.ref a1), .val (.long q2), .second, .val (.int p3), .val (.int (Int32.ofNat ((own_home q2 + t) % 16)))] [(.int (Int32.ofNat ((own_home q2 + t) % 16))), (.ref bk)])) := fun t_ k_ => (gc p113 st114) t_ (by
    refine XS.iload X114.here hx rfl (hb hby d5_31) rfl ?_
    exact k_)
  obtain ⟨cl116, Ar116, q116, S116, Ng116, H116, G116⟩ := id V1
  have hin116 := inb_of S116 (j := (Int32.ofNat ((own_home q2 + t) % 16))) (own_ib (Nat.mod_lt _ (by omega)))
  have hat116 := H116.at (v := (.long (own_K ks ((own_home q2 + t) % 16)))) hin116 (own_rdK ks (Nat.mod_lt _ (by omega)))
  have p117 : Go p.tables e below _ (T114.setTop (mkF m 38 #[.val (.ref a1), .val (.long q2), .second, .val (.int p3), .val (.int (Int32.ofNat ((own_home q2 + t) % 16)))] [(.int (lcmpW (own_K ks ((own_home q2 + t) % 16)) (-1 : Int64)))])) := fun t_ k_ => p115 t_ (by
    refine X114.laload hx (j := (Int32.ofNat ((own_home q2 + t) % 16))) (v := (.long (own_K ks ((own_home q2 + t) % 16)))) (by rw [e114]; exact Ar116.1) (State.isArrayOf_alike hZ.alike Ar116.2.1) Ar116.2.2 hin116 hat116 (g := (mkF m 33 #[.val (.ref a1), .val (.long q2), .second, .val (.int p3), .val (.int (Int32.ofNat ((own_home q2 + t) % 16)))] [(.int (Int32.ofNat ((own_home q2 + t) % 16))), (.ref bk)])) rfl rfl (hb hby d5_33) _ ?_
    refine X114.ldc2Long hx hown (mvT hZ (own_w hw 15 rfl)) (g := (mkF m 34 #[.val (.ref a1), .val (.long q2), .second, .val (.int p3), .val (.int (Int32.ofNat ((own_home q2 + t) % 16)))] [(.long (own_K ks ((own_home q2 + t) % 16)))])) rfl (hb hby d5_34) _ ?_
    refine XS.lcmp X114.here hx rfl (hb hby d5_37) rfl ?_
    exact k_)
  have c118 : ((own_K ks ((own_home q2 + t) % 16)) = (-1 : Int64)) := hf
  have p119 : Go p.tables e below _ (T114.setTop (mkF m 53 #[.val (.ref a1), .val (.long q2), .second, .val (.int p3), .val (.int (Int32.ofNat ((own_home q2 + t) % 16)))] [(.ref a1)])) := fun t_ k_ => p117 t_ (by
    refine XS.ifYes X114.here hx rfl (pc0 := 38) (pc' := 52) rfl (hb hby d5_38) rfl ((if0 _ _).trans (teq ((lw_eq _ _).mpr c118)).1) (by decide) (by decide) ?_
    refine XS.aloadN X114.here hx rfl (hb hby d5_52) rfl rfl ?_
    exact k_)
  obtain ⟨T120, X120, e120, st120⟩ := getF X114 hx hZ hown (host := "") (Or.inl (own_w hw 20 rfl)) Via.refl e114 F1 (g := (mkF m 53 #[.val (.ref a1), .val (.long q2), .second, .val (.int p3), .val (.int (Int32.ofNat ((own_home q2 + t) % 16)))] [(.ref a1)])) rfl rfl (hb hby d5_53)
  have p121 : Go p.tables e below _ (T120.setTop (mkF m 59 #[.val (.ref a1), .val (.long q2), .second, .val (.int p3), .val (.int (Int32.ofNat ((own_home q2 + t) % 16)))] [(.long q2), (.int (Int32.ofNat ((own_home q2 + t) % 16))), (.ref bk)])) := fun t_ k_ => (gc p119 st120) t_ (by
    refine XS.iload X120.here hx rfl (hb hby d5_56) rfl ?_
    refine XS.lloadN X120.here hx rfl (hb hby d5_58) rfl ?_
    exact k_)
  obtain ⟨cl122, Ar122, q122, S122, Ng122, H122, G122⟩ := id V1
  have hin122 := inb_of S122 (j := (Int32.ofNat ((own_home q2 + t) % 16))) (own_ib (Nat.mod_lt _ (by omega)))
  obtain ⟨T122, h122, X122, e122, W122, st122⟩ := stJ X120 hx hZ e120 Ar122 (j := (Int32.ofNat ((own_home q2 + t) % 16))) hin122 (g := (mkF m 59 #[.val (.ref a1), .val (.long q2), .second, .val (.int p3), .val (.int (Int32.ofNat ((own_home q2 + t) % 16)))] [(.long q2), (.int (Int32.ofNat ((own_home q2 + t) % 16))), (.ref bk)])) rfl rfl (hb hby d5_59)
  have K123 : Keep h0 h122 [a1, bk, bp] := (Keep.refl h0 [a1, bk, bp]).wr W122 (Or.inl (List.mem_of_getElem? (i := 1) rfl))
  have N122 := Fr.snoc X122 N111 g2
  have V122 : Arv Z h122 bk kk .long (16 : Int32) ((ks.set ((own_home q2 + t) % 16) q2).map Value.long) (.long (0 : Int64)) := by rw [List.map_set]; exact Arv.set Ar122 q122 S122 Ng122 H122 G122 rfl W122 ((own_home q2 + t) % 16) (own_cl (Nat.mod_lt _ (by omega))) (by rw [List.length_map, hlk]; exact (Nat.mod_lt _ (by omega)))
  have p124 : Go p.tables e below _ (T122.setTop (mkF m 61 #[.val (.ref a1), .val (.long q2), .second, .val (.int p3), .val (.int (Int32.ofNat ((own_home q2 + t) % 16)))] [(.ref a1)])) := fun t_ k_ => (gc p121 st122) t_ (by
    refine XS.aloadN X122.here hx rfl (hb hby d5_60) rfl rfl ?_
    exact k_)
  have f125 := (F2.other W122 (Or.inl ne1))
  obtain ⟨T126, X126, e126, st126⟩ := getF X122 hx hZ hown (host := "") (Or.inl (own_w hw 23 rfl)) Via.refl e122 f125 (g := (mkF m 61 #[.val (.ref a1), .val (.long q2), .second, .val (.int p3), .val (.int (Int32.ofNat ((own_home q2 + t) % 16)))] [(.ref a1)])) rfl rfl (hb hby d5_61)
  have p127 : Go p.tables e below _ (T126.setTop (mkF m 67 #[.val (.ref a1), .val (.long q2), .second, .val (.int p3), .val (.int (Int32.ofNat ((own_home q2 + t) % 16)))] [(.int p3), (.int (Int32.ofNat ((own_home q2 + t) % 16))), (.ref bp)])) := fun t_ k_ => (gc p124 st126) t_ (by
    refine XS.iload X126.here hx rfl (hb hby d5_64) rfl ?_
    refine XS.iloadN X126.here hx rfl (hb hby d5_66) rfl ?_
    exact k_)
  have f128 := (V2.other W122 (Ne.symm ne3))
  obtain ⟨cl129, Ar129, q129, S129, Ng129, H129, G129⟩ := id f128
  have hin129 := inb_of S129 (j := (Int32.ofNat ((own_home q2 + t) % 16))) (own_ib (Nat.mod_lt _ (by omega)))
  obtain ⟨T129, h129, X129, e129, W129, st129⟩ := stI X126 hx hZ e126 Ar129 (j := (Int32.ofNat ((own_home q2 + t) % 16))) hin129 (g := (mkF m 67 #[.val (.ref a1), .val (.long q2), .second, .val (.int p3), .val (.int (Int32.ofNat ((own_home q2 + t) % 16)))] [(.int p3), (.int (Int32.ofNat ((own_home q2 + t) % 16))), (.ref bp)])) rfl rfl (hb hby d5_67)
  have K130 : Keep h0 h129 [a1, bk, bp] := K123.wr W129 (Or.inl (List.mem_of_getElem? (i := 2) rfl))
  have N129 := Fr.snoc X129 N122 g3
  have V129 : Arv Z h129 bp kp .int (16 : Int32) ((ps.set ((own_home q2 + t) % 16) p3).map Value.int) (.int (0 : Int32)) := by rw [List.map_set]; exact Arv.set Ar129 q129 S129 Ng129 H129 G129 rfl W129 ((own_home q2 + t) % 16) (own_cl (Nat.mod_lt _ (by omega))) (by rw [List.length_map, hlp]; exact (Nat.mod_lt _ (by omega)))
  have p131 : Go p.tables e below _ (T129.setTop (mkF m 70 #[.val (.ref a1), .val (.long q2), .second, .val (.int p3), .val (.int (Int32.ofNat ((own_home q2 + t) % 16)))] [(.ref a1), (.ref a1)])) := fun t_ k_ => (gc p127 st129) t_ (by
    refine XS.aloadN X129.here hx rfl (hb hby d5_68) rfl rfl ?_
    refine XS.dup X129.here hx rfl (hb hby d5_69) rfl rfl ?_
    exact k_)
  have f132 := ((F3.other W122 (Or.inl ne1)).other W129 (Or.inl ne2))
  obtain ⟨T133, X133, e133, st133⟩ := getF X129 hx hZ hown (host := "") (Or.inl (own_w hw 30 rfl)) Via.refl e129 f132 (g := (mkF m 70 #[.val (.ref a1), .val (.long q2), .second, .val (.int p3), .val (.int (Int32.ofNat ((own_home q2 + t) % 16)))] [(.ref a1), (.ref a1)])) rfl rfl (hb hby d5_70)
  have p134 : Go p.tables e below _ (T133.setTop (mkF m 75 #[.val (.ref a1), .val (.long q2), .second, .val (.int p3), .val (.int (Int32.ofNat ((own_home q2 + t) % 16)))] [(.int (sz + (1 : Int32))), (.ref a1)])) := fun t_ k_ => (gc p131 st133) t_ (by
    refine XS.iconst X133.here hx rfl (hb hby d5_73) ?_
    refine XS.iadd X133.here hx rfl (hb hby d5_74) rfl ?_
    exact k_)
  have f135 := ((E1.wr W122).wr W129)
  obtain ⟨T136, h136, X136, e136, W136, st136⟩ := putF X133 hx hZ hown (host := "") (Or.inl (own_w hw 30 rfl)) Via.refl e133 f132 f135 (Or.inl (own_w hw 31 rfl)) (own_w hw 3 rfl) (ty := .int) (by decide) rfl rfl (g := (mkF m 75 #[.val (.ref a1), .val (.long q2), .second, .val (.int p3), .val (.int (Int32.ofNat ((own_home q2 + t) % 16)))] [(.int (sz + (1 : Int32))), (.ref a1)])) rfl rfl (hb hby d5_75)
  have K137 : Keep h0 h136 [a1, bk, bp] := K130.wr W136 (Or.inl (List.mem_of_getElem? (i := 0) rfl))
  have N136 := Fr.snoc X136 N129 g1
  have F136 : Fld Z h136 a1 "com/example/subsume/subsume/reasoner/Positions" "size" "I" (.int (sz + (1 : Int32))) := f132.same W136
  have f138 := (((F1.other W122 (Or.inl ne1)).other W129 (Or.inl ne2)).other W136 (Or.inr (slot_ne (Or.inl (own_w hw 21 rfl)) (Or.inl (own_w hw 31 rfl)) (by decide) (t := (.array .long)) (t' := .int) (by decide) (by decide))))
  have f139 := ((f125.other W129 (Or.inl ne2)).other W136 (Or.inr (slot_ne (Or.inl (own_w hw 24 rfl)) (Or.inl (own_w hw 31 rfl)) (by decide) (t := (.array .int)) (t' := .int) (by decide) (by decide))))
  have f140 := (f135.wr W136)
  have f141 := ((V122.other W129 ne3).other W136 (Ne.symm ne1))
  have f142 := (V129.other W136 (Ne.symm ne2))
  obtain ⟨fs, hr, hrun, hended, hW, hsame⟩ := X136.leave (v := none) (fun _ => rfl)
  refine ⟨_, _, (gc p134 st136) _ (X136.returnOut hx Bd.returns (hb hby d5_78) hr), hrun, hended, _, _, rfl, ?_, ⟨_, rfl⟩, hW, hsame.mono (by decide) (by decide)⟩
  show Q5 Z a1 q2 p3 sz bk kk ks bp kp ps t h0 n0 _ T136.heap _
  rw [e136]
  exact ⟨rfl, N136, K137, f138, f139, F136, f140, f141, f142⟩
theorem d8_0 : decode prog_46_method_5_code 0 = .ok (.aload_n 0, 1) := by decide +kernel
theorem d8_1 : decode prog_46_method_5_code 1 = .ok (.lload_n 1, 1) := by decide +kernel
theorem d8_2 : decode prog_46_method_5_code 2 = .ok (.invokevirtual 21, 3) := by decide +kernel
theorem d8_5 : decode prog_46_method_5_code 5 = .ok (.istore_n 3, 1) := by decide +kernel
theorem d8_30 : decode prog_46_method_5_code 30 = .ok (.return_, 1) := by decide +kernel
theorem pn8 : plainFor (⟨"com/example/subsume/subsume/reasoner/Positions", "remove", "(J)V"⟩ : MethodName) = true := plainFor_of_name (by first | (simp [plainName, overriddenIn]; done) | decide +kernel)
theorem ef_rm8n (m : MethodId) (a1 : Addr) (q2 : Int64) (bk : Addr) (kk : ClassId) (ks : List Int64) (bp : Addr) (kp : ClassId) (ps : List Int32) (t : Nat) : entryFrame m #[(.ref a1), (.long q2)] 8 = mkF m 0 #[.val (.ref a1), .val (.long q2), .second, .unset, .unset, .unset, .unset, .unset] [] := by first | (simp [entryFrame, mkF, argsToLocals, Value.category]; done) | rfl
def Q8n (Z : State) (a1 : Addr) (q2 : Int64) (bk : Addr) (kk : ClassId) (ks : List Int64) (bp : Addr) (kp : ClassId) (ps : List Int32) (t : Nat) (h0 : Heap) (n0 : Nat) (v : Option Value) (h : Heap) (L : List Loc) : Prop := v = none ∧ Fr n0 L ∧ (h = h0)
set_option maxRecDepth 65536 in
set_option maxHeartbeats 40000000 in
theorem rm8n (l : Launch) (Z : State) (a0 : Array Value) (hw : ∀ d ∈ tables_1, d.before a0 Z = true) (ws : List Jvm.Cond) (a1 : Addr) (q2 : Int64) (bk : Addr) (kk : ClassId) (ks : List Int64) (bp : Addr) (kp : ClassId) (ps : List Int32) (t : Nat) (h0 : Heap) (n0 : Nat) (Z0 : n0 ≤ h0.size) (F1 : Fld Z h0 a1 "com/example/subsume/subsume/reasoner/Positions" "keys" "[J" (.ref bk)) (F2 : Fld Z h0 a1 "com/example/subsume/subsume/reasoner/Positions" "positions" "[I" (.ref bp)) (E1 : Exa Z h0 a1 "com/example/subsume/subsume/reasoner/Positions") (V1 : Arv Z h0 bk kk .long (16 : Int32) (ks.map Value.long) (.long (0 : Int64))) (V2 : Arv Z h0 bp kp .int (16 : Int32) (ps.map Value.int) (.int (0 : Int32))) (hu : ∀ v, v < t → own_K ks ((own_home q2 + v) % 16) ≠ q2 ∧ own_K ks ((own_home q2 + v) % 16) ≠ -1) (hn1 : ¬ (own_K ks ((own_home q2 + t) % 16) = q2)) (hn2 : own_K ks ((own_home q2 + t) % 16) = (-1 : Int64)) :
    MetFree l (⟨"com/example/subsume/subsume/reasoner/Positions", "remove", "(J)V"⟩ : MethodName) (head1 (Jvm.Cond.code (⟨"com/example/subsume/subsume/reasoner/Positions", "remove", "(J)V"⟩ : MethodName) prog_46_method_5_code 8 none :: ws) ({ frames := 5, cells := 0, slots := 0, locals := 100 } : Room)) (fun a U => a = #[(.ref a1), (.long q2)] ∧ Z.Warmed39 U.vm ∧ U.heap = h0) (fun _ _ _ _ _ => True) (fun _ U o U' => ∃ v L, o = .returned v ∧ Q8n Z a1 q2 bk kk ks bp kp ps t h0 n0 v U'.heap L ∧ FrameEnd U o U' L ({ frames := 5, cells := 0, slots := 0, locals := 100 } : Room).cells ({ frames := 5, cells := 0, slots := 0, locals := 100 } : Room).slots) := by
  refine MetFree.of_bodySF pn8 hisR ?_
  intro p e s m args below meth c s₁ Bd hml0 hP hK
  obtain ⟨rfl, hZ, hh⟩ := hP
  have hx := Bd.exec
  have hby := Bd.bytes
  have hml : c.maxLocals = 8 := hml0
  have hown : s.vm.findClass "com/example/subsume/subsume/reasoner/Positions" = some m.cls := findClass_of_methodNamed Bd.named
  have hnm := (name_of_methodNamed Bd.named Bd.method).1
  have X0 : Stand p l e ({ frames := 5, cells := 0, slots := 0, locals := 100 } : Room) s m #[(.ref a1), (.long q2)] below meth c s₁ [] 0 0 := Stand.of_body Bd
  have e0 : s₁.heap = h0 := by rw [← hh, Bd.state]; rfl
  have N0 := Fr.nil n0
  have p0 : Go p.tables e below (s₁.setTop (entryFrame m #[(.ref a1), (.long q2)] 8)) (s₁.setTop (mkF m 0 #[.val (.ref a1), .val (.long q2), .second, .unset, .unset, .unset, .unset, .unset] [])) := fun t_ k_ => castTop (ef_rm8n m a1 q2 bk kk ks bp kp ps t) k_
  have p101 : Go p.tables e below _ (s₁.setTop (mkF m 2 #[.val (.ref a1), .val (.long q2), .second, .unset, .unset, .unset, .unset, .unset] [(.long q2), (.ref a1)])) := fun t_ k_ => p0 t_ (by
    refine XS.aloadN X0.here hx rfl (hb hby d8_0) rfl rfl ?_
    refine XS.lloadN X0.here hx rfl (hb hby d8_1) rfl ?_
    exact k_)
  obtain ⟨cq102, q102, q102'⟩ := E1.cell
  obtain ⟨_, _, ⟨T102, L102, k102, n102⟩, -, X102, ⟨Lc102, hQ102, l102, y102, z102⟩, st102⟩ := X0.privateBack hx (y := (⟨"com/example/subsume/subsume/reasoner/Positions", "slot", "(J)I"⟩ : MethodName)) hown (mvT hZ (own_w hw 32 rfl)) (mvT hZ (own_w hw 33 rfl)) (selPriv (mvT hZ (own_w hw 28 rfl)) rfl (Cond.privateMethod_at (mvP hZ (own_w hw 34 rfl) (args := #[]))) (mvT hZ (own_w hw 33 rfl)) (by decide)) (Cond.privateMethod_at (mvP hZ (own_w hw 34 rfl) (args := #[]))) (mvT hZ (own_w hw 35 rfl)) (by decide) (backOf (W := 0) (rm6 l Z a0 hw [] a1 q2 bk kk ks h0 n0 (Nat.le_trans Z0 (Keep.refl h0 []).1) F1 V1) hZ (own_w hw 35 rfl) (own_w hw 4 rfl) (by decide) (by decide)) (g := (mkF m 2 #[.val (.ref a1), .val (.long q2), .second, .unset, .unset, .unset, .unset, .unset] [(.long q2), (.ref a1)])) rfl (by rw [hml]; rfl) (Steps.refl _) (a := a1) (by rw [e0]; exact q102) q102' (argsL := [(.long q2)]) (rest := []) (lenOf pd1 rfl) rfl (by show 2 * 0 + _ ≤ _; exact Nat.le_of_eq rfl) (hb hby d8_2) (fun _ _ => ⟨rfl, e0, (by decide : 0 + 0 ≤ _), (by decide : 0 + 0 ≤ _)⟩)
  dsimp only [Pt.U, Pt.locs, Pt.cells, Pt.slots] at X102 l102 y102 z102 st102 hQ102
  subst l102 y102 z102
  obtain ⟨rfl, N102q, q102_hh⟩ := hQ102
  have N102 := Fr.app N0 N102q
  have p103 : Go p.tables e below _ (T102.setTop (mkF m 6 #[.val (.ref a1), .val (.long q2), .second, .val (.int (Int32.ofNat (own_home q2))), .unset, .unset, .unset, .unset] [])) := fun t_ k_ => (gcT p101 st102) t_ (by
    refine XS.istoreN X102.here hx rfl (hb hby d8_5) rfl (l' := #[.val (.ref a1), .val (.long q2), .second, .val (.int (Int32.ofNat (own_home q2))), .unset, .unset, .unset, .unset]) rfl ?_
    exact k_)
  obtain ⟨T104, L104, X104, e104, N104, g104⟩ := lp8 Z a0 hx hZ hw hby hml hown a1 q2  bk kk ks h0 n0 (Nat.le_trans Z0 (Keep.refl h0 []).1) F1 E1 V1 t (own_home q2) T102 _ X102 q102_hh N102 (own_home_lt q2) hu
  have p105 : Go p.tables e below _ (T104.setTop (mkF m 6 #[.val (.ref a1), .val (.long q2), .second, .val (.int (Int32.ofNat ((own_home q2 + t) % 16))), .unset, .unset, .unset, .unset] [])) := fun t_ k_ => p103 t_ (g104 t_ k_)
  have p106 : Go p.tables e below _ (T104.setTop (mkF m 7 #[.val (.ref a1), .val (.long q2), .second, .val (.int (Int32.ofNat ((own_home q2 + t) % 16))), .unset, .unset, .unset, .unset] [(.ref a1)])) := fun t_ k_ => p105 t_ (by
    refine XS.aloadN X104.here hx rfl (hb hby d8_6) rfl rfl ?_
    exact k_)
  obtain ⟨T107, X107, e107, st107⟩ := getF X104 hx hZ hown (host := "") (Or.inl (own_w hw 20 rfl)) Via.refl e104 F1 (g := (mkF m 7 #[.val (.ref a1), .val (.long q2), .second, .val (.int (Int32.ofNat ((own_home q2 + t) % 16))), .unset, .unset, .unset, .unset] [(.ref a1)])) rfl rfl (hb hby d8_7)
  have p108 : Go p.tables e below _ (T107.setTop (mkF m 11 #[.val (.ref a1), .val (.long q2), .second, .val (.int (Int32.ofNat ((own_home q2 + t) % 16))), .unset, .unset, .unset, .unset] [(.int (Int32.ofNat ((own_home q2 + t) % 16))), (.ref bk)])) := fun t_ k_ => (gc p106 st107) t_ (by
    refine XS.iloadN X107.here hx rfl (hb hby d8_10) rfl ?_
    exact k_)
  obtain ⟨cl109, Ar109, q109, S109, Ng109, H109, G109⟩ := id V1
  have hin109 := inb_of S109 (j := (Int32.ofNat ((own_home q2 + t) % 16))) (own_ib (Nat.mod_lt _ (by omega)))
  have hat109 := H109.at (v := (.long (own_K ks ((own_home q2 + t) % 16)))) hin109 (own_rdK ks (Nat.mod_lt _ (by omega)))
  have p110 : Go p.tables e below _ (T107.setTop (mkF m 14 #[.val (.ref a1), .val (.long q2), .second, .val (.int (Int32.ofNat ((own_home q2 + t) % 16))), .unset, .unset, .unset, .unset] [(.int (lcmpW (own_K ks ((own_home q2 + t) % 16)) q2))])) := fun t_ k_ => p108 t_ (by
    refine X107.laload hx (j := (Int32.ofNat ((own_home q2 + t) % 16))) (v := (.long (own_K ks ((own_home q2 + t) % 16)))) (by rw [e107]; exact Ar109.1) (State.isArrayOf_alike hZ.alike Ar109.2.1) Ar109.2.2 hin109 hat109 (g := (mkF m 11 #[.val (.ref a1), .val (.long q2), .second, .val (.int (Int32.ofNat ((own_home q2 + t) % 16))), .unset, .unset, .unset, .unset] [(.int (Int32.ofNat ((own_home q2 + t) % 16))), (.ref bk)])) rfl rfl (hb hby d8_11) _ ?_
    refine XS.lloadN X107.here hx rfl (hb hby d8_12) rfl ?_
    refine XS.lcmp X107.here hx rfl (hb hby d8_13) rfl ?_
    exact k_)
  have c111 : ¬ ((own_K ks ((own_home q2 + t) % 16)) = q2) := hn1
  have p112 : Go p.tables e below _ (T107.setTop (mkF m 18 #[.val (.ref a1), .val (.long q2), .second, .val (.int (Int32.ofNat ((own_home q2 + t) % 16))), .unset, .unset, .unset, .unset] [(.ref a1)])) := fun t_ k_ => p110 t_ (by
    refine XS.ifNo X107.here hx rfl (hb hby d8_14) rfl ((if0 _ _).trans (feq (mt (lw_eq _ _).mp c111)).1) ?_
    refine XS.aloadN X107.here hx rfl (hb hby d8_17) rfl rfl ?_
    exact k_)
  obtain ⟨T113, X113, e113, st113⟩ := getF X107 hx hZ hown (host := "") (Or.inl (own_w hw 20 rfl)) Via.refl e107 F1 (g := (mkF m 18 #[.val (.ref a1), .val (.long q2), .second, .val (.int (Int32.ofNat ((own_home q2 + t) % 16))), .unset, .unset, .unset, .unset] [(.ref a1)])) rfl rfl (hb hby d8_18)
  have p114 : Go p.tables e below _ (T113.setTop (mkF m 22 #[.val (.ref a1), .val (.long q2), .second, .val (.int (Int32.ofNat ((own_home q2 + t) % 16))), .unset, .unset, .unset, .unset] [(.int (Int32.ofNat ((own_home q2 + t) % 16))), (.ref bk)])) := fun t_ k_ => (gc p112 st113) t_ (by
    refine XS.iloadN X113.here hx rfl (hb hby d8_21) rfl ?_
    exact k_)
  obtain ⟨cl115, Ar115, q115, S115, Ng115, H115, G115⟩ := id V1
  have hin115 := inb_of S115 (j := (Int32.ofNat ((own_home q2 + t) % 16))) (own_ib (Nat.mod_lt _ (by omega)))
  have hat115 := H115.at (v := (.long (own_K ks ((own_home q2 + t) % 16)))) hin115 (own_rdK ks (Nat.mod_lt _ (by omega)))
  have p116 : Go p.tables e below _ (T113.setTop (mkF m 27 #[.val (.ref a1), .val (.long q2), .second, .val (.int (Int32.ofNat ((own_home q2 + t) % 16))), .unset, .unset, .unset, .unset] [(.int (lcmpW (own_K ks ((own_home q2 + t) % 16)) (-1 : Int64)))])) := fun t_ k_ => p114 t_ (by
    refine X113.laload hx (j := (Int32.ofNat ((own_home q2 + t) % 16))) (v := (.long (own_K ks ((own_home q2 + t) % 16)))) (by rw [e113]; exact Ar115.1) (State.isArrayOf_alike hZ.alike Ar115.2.1) Ar115.2.2 hin115 hat115 (g := (mkF m 22 #[.val (.ref a1), .val (.long q2), .second, .val (.int (Int32.ofNat ((own_home q2 + t) % 16))), .unset, .unset, .unset, .unset] [(.int (Int32.ofNat ((own_home q2 + t) % 16))), (.ref bk)])) rfl rfl (hb hby d8_22) _ ?_
    refine X113.ldc2Long hx hown (mvT hZ (own_w hw 15 rfl)) (g := (mkF m 23 #[.val (.ref a1), .val (.long q2), .second, .val (.int (Int32.ofNat ((own_home q2 + t) % 16))), .unset, .unset, .unset, .unset] [(.long (own_K ks ((own_home q2 + t) % 16)))])) rfl (hb hby d8_23) _ ?_
    refine XS.lcmp X113.here hx rfl (hb hby d8_26) rfl ?_
    exact k_)
  have c117 : ((own_K ks ((own_home q2 + t) % 16)) = (-1 : Int64)) := hn2
  have p118 : Go p.tables e below _ (T113.setTop (mkF m 30 #[.val (.ref a1), .val (.long q2), .second, .val (.int (Int32.ofNat ((own_home q2 + t) % 16))), .unset, .unset, .unset, .unset] [])) := fun t_ k_ => p116 t_ (by
    refine XS.ifNo X113.here hx rfl (hb hby d8_27) rfl ((if0 _ _).trans (teq ((lw_eq _ _).mpr c117)).2) ?_
    exact k_)
  obtain ⟨fs, hr, hrun, hended, hW, hsame⟩ := X113.leave (v := none) (fun _ => rfl)
  refine ⟨_, _, p118 _ (X113.returnOut hx Bd.returns (hb hby d8_30) hr), hrun, hended, _, _, rfl, ?_, ⟨_, rfl⟩, hW, hsame.mono (by decide) (by decide)⟩
  show Q8n Z a1 q2 bk kk ks bp kp ps t h0 n0 _ T113.heap _
  rw [e113]
  exact ⟨rfl, N104, rfl⟩
theorem d8_60 : decode prog_46_method_5_code 60 = .ok (.aload_n 0, 1) := by decide +kernel
theorem d8_61 : decode prog_46_method_5_code 61 = .ok (.getfield 13, 3) := by decide +kernel
theorem d8_64 : decode prog_46_method_5_code 64 = .ok (.iload 5, 2) := by decide +kernel
theorem d8_66 : decode prog_46_method_5_code 66 = .ok (.laload, 1) := by decide +kernel
theorem d8_67 : decode prog_46_method_5_code 67 = .ok (.ldc2_w 25, 3) := by decide +kernel
theorem d8_70 : decode prog_46_method_5_code 70 = .ok (.lcmp, 1) := by decide +kernel
theorem d8_71 : decode prog_46_method_5_code 71 = .ok (.ifCond .eq 114, 3) := by decide +kernel
theorem d8_185 : decode prog_46_method_5_code 185 = .ok (.aload_n 0, 1) := by decide +kernel
theorem d8_186 : decode prog_46_method_5_code 186 = .ok (.getfield 13, 3) := by decide +kernel
theorem d8_189 : decode prog_46_method_5_code 189 = .ok (.iload 4, 2) := by decide +kernel
theorem d8_191 : decode prog_46_method_5_code 191 = .ok (.ldc2_w 25, 3) := by decide +kernel
theorem d8_194 : decode prog_46_method_5_code 194 = .ok (.lastore, 1) := by decide +kernel
theorem d8_74 : decode prog_46_method_5_code 74 = .ok (.aload_n 0, 1) := by decide +kernel
theorem d8_75 : decode prog_46_method_5_code 75 = .ok (.aload_n 0, 1) := by decide +kernel
theorem d8_76 : decode prog_46_method_5_code 76 = .ok (.getfield 13, 3) := by decide +kernel
theorem d8_79 : decode prog_46_method_5_code 79 = .ok (.iload 5, 2) := by decide +kernel
theorem d8_81 : decode prog_46_method_5_code 81 = .ok (.laload, 1) := by decide +kernel
theorem d8_82 : decode prog_46_method_5_code 82 = .ok (.invokevirtual 21, 3) := by decide +kernel
theorem d8_85 : decode prog_46_method_5_code 85 = .ok (.istore 6, 2) := by decide +kernel
theorem d8_87 : decode prog_46_method_5_code 87 = .ok (.iload 4, 2) := by decide +kernel
theorem d8_89 : decode prog_46_method_5_code 89 = .ok (.iload 5, 2) := by decide +kernel
theorem d8_91 : decode prog_46_method_5_code 91 = .ok (.if_icmp .gt 25, 3) := by decide +kernel
theorem d8_94 : decode prog_46_method_5_code 94 = .ok (.iload 4, 2) := by decide +kernel
theorem d8_96 : decode prog_46_method_5_code 96 = .ok (.iload 6, 2) := by decide +kernel
theorem d8_98 : decode prog_46_method_5_code 98 = .ok (.if_icmp .ge 14, 3) := by decide +kernel
theorem d8_101 : decode prog_46_method_5_code 101 = .ok (.iload 6, 2) := by decide +kernel
theorem d8_103 : decode prog_46_method_5_code 103 = .ok (.iload 5, 2) := by decide +kernel
theorem d8_105 : decode prog_46_method_5_code 105 = .ok (.if_icmp .gt 7, 3) := by decide +kernel
theorem d8_108 : decode prog_46_method_5_code 108 = .ok (.iconst 1, 1) := by decide +kernel
theorem d8_109 : decode prog_46_method_5_code 109 = .ok (.goto 26, 3) := by decide +kernel
theorem d8_112 : decode prog_46_method_5_code 112 = .ok (.iconst 0, 1) := by decide +kernel
theorem d8_113 : decode prog_46_method_5_code 113 = .ok (.goto 22, 3) := by decide +kernel
theorem d8_116 : decode prog_46_method_5_code 116 = .ok (.iload 4, 2) := by decide +kernel
theorem d8_118 : decode prog_46_method_5_code 118 = .ok (.iload 6, 2) := by decide +kernel
theorem d8_120 : decode prog_46_method_5_code 120 = .ok (.if_icmp .lt 10, 3) := by decide +kernel
theorem d8_123 : decode prog_46_method_5_code 123 = .ok (.iload 6, 2) := by decide +kernel
theorem d8_125 : decode prog_46_method_5_code 125 = .ok (.iload 5, 2) := by decide +kernel
theorem d8_127 : decode prog_46_method_5_code 127 = .ok (.if_icmp .gt 7, 3) := by decide +kernel
theorem d8_130 : decode prog_46_method_5_code 130 = .ok (.iconst 1, 1) := by decide +kernel
theorem d8_131 : decode prog_46_method_5_code 131 = .ok (.goto 4, 3) := by decide +kernel
theorem d8_134 : decode prog_46_method_5_code 134 = .ok (.iconst 0, 1) := by decide +kernel
theorem d8_135 : decode prog_46_method_5_code 135 = .ok (.istore 7, 2) := by decide +kernel
theorem d8_137 : decode prog_46_method_5_code 137 = .ok (.iload 7, 2) := by decide +kernel
theorem d8_139 : decode prog_46_method_5_code 139 = .ok (.ifCond .ne 35, 3) := by decide +kernel
theorem d8_142 : decode prog_46_method_5_code 142 = .ok (.aload_n 0, 1) := by decide +kernel
theorem d8_143 : decode prog_46_method_5_code 143 = .ok (.getfield 13, 3) := by decide +kernel
theorem d8_146 : decode prog_46_method_5_code 146 = .ok (.iload 4, 2) := by decide +kernel
theorem d8_148 : decode prog_46_method_5_code 148 = .ok (.aload_n 0, 1) := by decide +kernel
theorem d8_149 : decode prog_46_method_5_code 149 = .ok (.getfield 13, 3) := by decide +kernel
theorem d8_152 : decode prog_46_method_5_code 152 = .ok (.iload 5, 2) := by decide +kernel
theorem d8_154 : decode prog_46_method_5_code 154 = .ok (.laload, 1) := by decide +kernel
theorem d8_155 : decode prog_46_method_5_code 155 = .ok (.lastore, 1) := by decide +kernel
theorem d8_156 : decode prog_46_method_5_code 156 = .ok (.aload_n 0, 1) := by decide +kernel
theorem d8_157 : decode prog_46_method_5_code 157 = .ok (.getfield 17, 3) := by decide +kernel
theorem d8_160 : decode prog_46_method_5_code 160 = .ok (.iload 4, 2) := by decide +kernel
theorem d8_162 : decode prog_46_method_5_code 162 = .ok (.aload_n 0, 1) := by decide +kernel
theorem d8_163 : decode prog_46_method_5_code 163 = .ok (.getfield 17, 3) := by decide +kernel
theorem d8_166 : decode prog_46_method_5_code 166 = .ok (.iload 5, 2) := by decide +kernel
theorem d8_168 : decode prog_46_method_5_code 168 = .ok (.iaload, 1) := by decide +kernel
theorem d8_169 : decode prog_46_method_5_code 169 = .ok (.iastore, 1) := by decide +kernel
theorem d8_170 : decode prog_46_method_5_code 170 = .ok (.iload 5, 2) := by decide +kernel
theorem d8_172 : decode prog_46_method_5_code 172 = .ok (.istore 4, 2) := by decide +kernel
theorem d8_174 : decode prog_46_method_5_code 174 = .ok (.aload_n 0, 1) := by decide +kernel
theorem d8_175 : decode prog_46_method_5_code 175 = .ok (.iload 5, 2) := by decide +kernel
theorem d8_177 : decode prog_46_method_5_code 177 = .ok (.invokevirtual 27, 3) := by decide +kernel
theorem d8_180 : decode prog_46_method_5_code 180 = .ok (.istore 5, 2) := by decide +kernel
theorem d8_182 : decode prog_46_method_5_code 182 = .ok (.goto (-122), 3) := by decide +kernel
set_option maxRecDepth 65536 in
set_option maxHeartbeats 40000000 in
theorem lp8b {p : Program} {l : Launch} {e : Env} {s : State} {m : MethodId} {args : Array Value} {below : List Frame} {meth : Method} {c : Code} (Z : State) (a0 : Array Value) (hx : p.tables.exec = Jvm.exec) (hZ : Z.Warmed39 s.vm) (hw : ∀ d ∈ tables_1, d.before a0 Z = true) (hby : c.code = prog_46_method_5_code) (hml : c.maxLocals = 8) (hown : s.vm.findClass "com/example/subsume/subsume/reasoner/Positions" = some m.cls) (a1 : Addr) (q2 : Int64) (i : Nat) (bk : Addr) (kk : ClassId) (bp : Addr) (kp : ClassId) (n0 : Nat) (ne1 : a1 ≠ bk) (ne2 : a1 ≠ bp) (ne3 : bk ≠ bp) (g1 : n0 ≤ a1) (g2 : n0 ≤ bk) (g3 : n0 ≤ bp) : ∀ (n : Nat) (ks : List Int64) (ps : List Int32) (f a : Nat) (s6 s7 : Slot) (T : State) (h0 : Heap) (locs : List Loc), Stand p l e ({ frames := 5, cells := 0, slots := 0, locals := 100 } : Room) s m args below meth c T locs 0 0 → T.heap = h0 → n0 ≤ h0.size → Fr n0 locs → Fld Z h0 a1 "com/example/subsume/subsume/reasoner/Positions" "keys" "[J" (.ref bk) → Fld Z h0 a1 "com/example/subsume/subsume/reasoner/Positions" "positions" "[I" (.ref bp) → Exa Z h0 a1 "com/example/subsume/subsume/reasoner/Positions" → Arv Z h0 bk kk .long (16 : Int32) (ks.map Value.long) (.long (0 : Int64)) → Arv Z h0 bp kp .int (16 : Int32) (ps.map Value.int) (.int (0 : Int32)) → ks.length = 16 → ps.length = 16 → f < 16 → a < 16 → One s6 → One s7 → own_ok own_home n ks f a →
    ∃ (T' : State) (h' : Heap) (lc : List Loc) (f' a' : Nat) (s6' s7' : Slot), Stand p l e ({ frames := 5, cells := 0, slots := 0, locals := 100 } : Room) s m args below meth c T' lc 0 0 ∧ T'.heap = h' ∧ Fr n0 lc ∧ Keep h0 h' [bk, bp] ∧ Fld Z h' a1 "com/example/subsume/subsume/reasoner/Positions" "keys" "[J" (.ref bk) ∧ Fld Z h' a1 "com/example/subsume/subsume/reasoner/Positions" "positions" "[I" (.ref bp) ∧ Exa Z h' a1 "com/example/subsume/subsume/reasoner/Positions" ∧ Arv Z h' bk kk .long (16 : Int32) ((own_rm own_home n ks ps f a).1.map Value.long) (.long (0 : Int64)) ∧ Arv Z h' bp kp .int (16 : Int32) ((own_rm own_home n ks ps f a).2.map Value.int) (.int (0 : Int32)) ∧ Go p.tables e below (T.setTop (mkF m 60 #[.val (.ref a1), .val (.long q2), .second, .val (.int (Int32.ofNat i)), .val (.int (Int32.ofNat f)), .val (.int (Int32.ofNat a)), s6, s7] [])) (T'.setTop (mkF m 195 #[.val (.ref a1), .val (.long q2), .second, .val (.int (Int32.ofNat i)), .val (.int (Int32.ofNat f')), .val (.int (Int32.ofNat a')), s6', s7'] [])) := by
  intro n
  induction n with
  | zero =>
    intro ks ps f a s6 s7 T h0 locs X0 e0 Z0 N0 F1 F2 E1 V1 V2 hlk hlp hf ha o6 o7 hok
    have p0 : Go p.tables e below (T.setTop (mkF m 60 #[.val (.ref a1), .val (.long q2), .second, .val (.int (Int32.ofNat i)), .val (.int (Int32.ofNat f)), .val (.int (Int32.ofNat a)), s6, s7] [])) (T.setTop (mkF m 60 #[.val (.ref a1), .val (.long q2), .second, .val (.int (Int32.ofNat i)), .val (.int (Int32.ofNat f)), .val (.int (Int32.ofNat a)), s6, s7] [])) := fun t_ k_ => k_
    have p101 : Go p.tables e below _ (T.setTop (mkF m 61 #[.val (.ref a1), .val (.long q2), .second, .val (.int (Int32.ofNat i)), .val (.int (Int32.ofNat f)), .val (.int (Int32.ofNat a)), s6, s7] [(.ref a1)])) := fun t_ k_ => p0 t_ (by
      refine XS.aloadN X0.here hx rfl (hb hby d8_60) rfl rfl ?_
      exact k_)
    obtain ⟨T102, X102, e102, st102⟩ := getF X0 hx hZ hown (host := "") (Or.inl (own_w hw 20 rfl)) Via.refl e0 F1 (g := (mkF m 61 #[.val (.ref a1), .val (.long q2), .second, .val (.int (Int32.ofNat i)), .val (.int (Int32.ofNat f)), .val (.int (Int32.ofNat a)), s6, s7] [(.ref a1)])) rfl rfl (hb hby d8_61)
    have p103 : Go p.tables e below _ (T102.setTop (mkF m 66 #[.val (.ref a1), .val (.long q2), .second, .val (.int (Int32.ofNat i)), .val (.int (Int32.ofNat f)), .val (.int (Int32.ofNat a)), s6, s7] [(.int (Int32.ofNat a)), (.ref bk)])) := fun t_ k_ => (gc p101 st102) t_ (by
      refine XS.iload X102.here hx rfl (hb hby d8_64) rfl ?_
      exact k_)
    obtain ⟨cl104, Ar104, q104, S104, Ng104, H104, G104⟩ := id V1
    have hin104 := inb_of S104 (j := (Int32.ofNat a)) (own_ib ha)
    have hat104 := H104.at (v := (.long (own_K ks a))) hin104 (own_rdK ks ha)
    have p105 : Go p.tables e below _ (T102.setTop (mkF m 71 #[.val (.ref a1), .val (.long q2), .second, .val (.int (Int32.ofNat i)), .val (.int (Int32.ofNat f)), .val (.int (Int32.ofNat a)), s6, s7] [(.int (lcmpW (own_K ks a) (-1 : Int64)))])) := fun t_ k_ => p103 t_ (by
      refine X102.laload hx (j := (Int32.ofNat a)) (v := (.long (own_K ks a))) (by rw [e102]; exact Ar104.1) (State.isArrayOf_alike hZ.alike Ar104.2.1) Ar104.2.2 hin104 hat104 (g := (mkF m 66 #[.val (.ref a1), .val (.long q2), .second, .val (.int (Int32.ofNat i)), .val (.int (Int32.ofNat f)), .val (.int (Int32.ofNat a)), s6, s7] [(.int (Int32.ofNat a)), (.ref bk)])) rfl rfl (hb hby d8_66) _ ?_
      refine X102.ldc2Long hx hown (mvT hZ (own_w hw 15 rfl)) (g := (mkF m 67 #[.val (.ref a1), .val (.long q2), .second, .val (.int (Int32.ofNat i)), .val (.int (Int32.ofNat f)), .val (.int (Int32.ofNat a)), s6, s7] [(.long (own_K ks a))])) rfl (hb hby d8_67) _ ?_
      refine XS.lcmp X102.here hx rfl (hb hby d8_70) rfl ?_
      exact k_)
    have c106 : ((own_K ks a) = (-1 : Int64)) := hok
    have p107 : Go p.tables e below _ (T102.setTop (mkF m 186 #[.val (.ref a1), .val (.long q2), .second, .val (.int (Int32.ofNat i)), .val (.int (Int32.ofNat f)), .val (.int (Int32.ofNat a)), s6, s7] [(.ref a1)])) := fun t_ k_ => p105 t_ (by
      refine XS.ifYes X102.here hx rfl (pc0 := 71) (pc' := 185) rfl (hb hby d8_71) rfl ((if0 _ _).trans (teq ((lw_eq _ _).mpr c106)).1) (by decide) (by decide) ?_
      refine XS.aloadN X102.here hx rfl (hb hby d8_185) rfl rfl ?_
      exact k_)
    obtain ⟨T108, X108, e108, st108⟩ := getF X102 hx hZ hown (host := "") (Or.inl (own_w hw 20 rfl)) Via.refl e102 F1 (g := (mkF m 186 #[.val (.ref a1), .val (.long q2), .second, .val (.int (Int32.ofNat i)), .val (.int (Int32.ofNat f)), .val (.int (Int32.ofNat a)), s6, s7] [(.ref a1)])) rfl rfl (hb hby d8_186)
    have p109 : Go p.tables e below _ (T108.setTop (mkF m 194 #[.val (.ref a1), .val (.long q2), .second, .val (.int (Int32.ofNat i)), .val (.int (Int32.ofNat f)), .val (.int (Int32.ofNat a)), s6, s7] [(.long (-1 : Int64)), (.int (Int32.ofNat f)), (.ref bk)])) := fun t_ k_ => (gc p107 st108) t_ (by
      refine XS.iload X108.here hx rfl (hb hby d8_189) rfl ?_
      refine X108.ldc2Long hx hown (mvT hZ (own_w hw 15 rfl)) (g := (mkF m 191 #[.val (.ref a1), .val (.long q2), .second, .val (.int (Int32.ofNat i)), .val (.int (Int32.ofNat f)), .val (.int (Int32.ofNat a)), s6, s7] [(.int (Int32.ofNat f)), (.ref bk)])) rfl (hb hby d8_191) _ ?_
      exact k_)
    obtain ⟨cl110, Ar110, q110, S110, Ng110, H110, G110⟩ := id V1
    have hin110 := inb_of S110 (j := (Int32.ofNat f)) (own_ib hf)
    obtain ⟨T110, h110, X110, e110, W110, st110⟩ := stJ X108 hx hZ e108 Ar110 (j := (Int32.ofNat f)) hin110 (g := (mkF m 194 #[.val (.ref a1), .val (.long q2), .second, .val (.int (Int32.ofNat i)), .val (.int (Int32.ofNat f)), .val (.int (Int32.ofNat a)), s6, s7] [(.long (-1 : Int64)), (.int (Int32.ofNat f)), (.ref bk)])) rfl rfl (hb hby d8_194)
    have K111 : Keep h0 h110 [bk, bp] := (Keep.refl h0 [bk, bp]).wr W110 (Or.inl (List.mem_of_getElem? (i := 0) rfl))
    have N110 := Fr.snoc X110 N0 g2
    have V110 : Arv Z h110 bk kk .long (16 : Int32) ((ks.set f (-1 : Int64)).map Value.long) (.long (0 : Int64)) := by rw [List.map_set]; exact Arv.set Ar110 q110 S110 Ng110 H110 G110 rfl W110 f (own_cl hf) (by rw [List.length_map, hlk]; exact hf)
    have f112 := (F1.other W110 (Or.inl ne1))
    have f113 := (F2.other W110 (Or.inl ne1))
    have f114 := (E1.wr W110)
    have f115 := (V2.other W110 (Ne.symm ne3))
    exact ⟨_, _, _, f, a, s6, s7, X110, e110, N110, K111, f112, f113, f114, V110, f115, (gc p109 st110)⟩
  | succ n ih =>
    intro ks ps f a s6 s7 T h0 locs X0 e0 Z0 N0 F1 F2 E1 V1 V2 hlk hlp hf ha o6 o7 hok
    have p0 : Go p.tables e below (T.setTop (mkF m 60 #[.val (.ref a1), .val (.long q2), .second, .val (.int (Int32.ofNat i)), .val (.int (Int32.ofNat f)), .val (.int (Int32.ofNat a)), s6, s7] [])) (T.setTop (mkF m 60 #[.val (.ref a1), .val (.long q2), .second, .val (.int (Int32.ofNat i)), .val (.int (Int32.ofNat f)), .val (.int (Int32.ofNat a)), s6, s7] [])) := fun t_ k_ => k_
    have p101 : Go p.tables e below _ (T.setTop (mkF m 61 #[.val (.ref a1), .val (.long q2), .second, .val (.int (Int32.ofNat i)), .val (.int (Int32.ofNat f)), .val (.int (Int32.ofNat a)), s6, s7] [(.ref a1)])) := fun t_ k_ => p0 t_ (by
      refine XS.aloadN X0.here hx rfl (hb hby d8_60) rfl rfl ?_
      exact k_)
    obtain ⟨T102, X102, e102, st102⟩ := getF X0 hx hZ hown (host := "") (Or.inl (own_w hw 20 rfl)) Via.refl e0 F1 (g := (mkF m 61 #[.val (.ref a1), .val (.long q2), .second, .val (.int (Int32.ofNat i)), .val (.int (Int32.ofNat f)), .val (.int (Int32.ofNat a)), s6, s7] [(.ref a1)])) rfl rfl (hb hby d8_61)
    have p103 : Go p.tables e below _ (T102.setTop (mkF m 66 #[.val (.ref a1), .val (.long q2), .second, .val (.int (Int32.ofNat i)), .val (.int (Int32.ofNat f)), .val (.int (Int32.ofNat a)), s6, s7] [(.int (Int32.ofNat a)), (.ref bk)])) := fun t_ k_ => (gc p101 st102) t_ (by
      refine XS.iload X102.here hx rfl (hb hby d8_64) rfl ?_
      exact k_)
    obtain ⟨cl104, Ar104, q104, S104, Ng104, H104, G104⟩ := id V1
    have hin104 := inb_of S104 (j := (Int32.ofNat a)) (own_ib ha)
    have hat104 := H104.at (v := (.long (own_K ks a))) hin104 (own_rdK ks ha)
    have p105 : Go p.tables e below _ (T102.setTop (mkF m 71 #[.val (.ref a1), .val (.long q2), .second, .val (.int (Int32.ofNat i)), .val (.int (Int32.ofNat f)), .val (.int (Int32.ofNat a)), s6, s7] [(.int (lcmpW (own_K ks a) (-1 : Int64)))])) := fun t_ k_ => p103 t_ (by
      refine X102.laload hx (j := (Int32.ofNat a)) (v := (.long (own_K ks a))) (by rw [e102]; exact Ar104.1) (State.isArrayOf_alike hZ.alike Ar104.2.1) Ar104.2.2 hin104 hat104 (g := (mkF m 66 #[.val (.ref a1), .val (.long q2), .second, .val (.int (Int32.ofNat i)), .val (.int (Int32.ofNat f)), .val (.int (Int32.ofNat a)), s6, s7] [(.int (Int32.ofNat a)), (.ref bk)])) rfl rfl (hb hby d8_66) _ ?_
      refine X102.ldc2Long hx hown (mvT hZ (own_w hw 15 rfl)) (g := (mkF m 67 #[.val (.ref a1), .val (.long q2), .second, .val (.int (Int32.ofNat i)), .val (.int (Int32.ofNat f)), .val (.int (Int32.ofNat a)), s6, s7] [(.long (own_K ks a))])) rfl (hb hby d8_67) _ ?_
      refine XS.lcmp X102.here hx rfl (hb hby d8_70) rfl ?_
      exact k_)
    have c106 : ¬ ((own_K ks a) = (-1 : Int64)) := hok.1
    have p107 : Go p.tables e below _ (T102.setTop (mkF m 76 #[.val (.ref a1), .val (.long q2), .second, .val (.int (Int32.ofNat i)), .val (.int (Int32.ofNat f)), .val (.int (Int32.ofNat a)), s6, s7] [(.ref a1), (.ref a1)])) := fun t_ k_ => p105 t_ (by
      refine XS.ifNo X102.here hx rfl (hb hby d8_71) rfl ((if0 _ _).trans (feq (mt (lw_eq _ _).mp c106)).1) ?_
      refine XS.aloadN X102.here hx rfl (hb hby d8_74) rfl rfl ?_
      refine XS.aloadN X102.here hx rfl (hb hby d8_75) rfl rfl ?_
      exact k_)
    obtain ⟨T108, X108, e108, st108⟩ := getF X102 hx hZ hown (host := "") (Or.inl (own_w hw 20 rfl)) Via.refl e102 F1 (g := (mkF m 76 #[.val (.ref a1), .val (.long q2), .second, .val (.int (Int32.ofNat i)), .val (.int (Int32.ofNat f)), .val (.int (Int32.ofNat a)), s6, s7] [(.ref a1), (.ref a1)])) rfl rfl (hb hby d8_76)
    have p109 : Go p.tables e below _ (T108.setTop (mkF m 81 #[.val (.ref a1), .val (.long q2), .second, .val (.int (Int32.ofNat i)), .val (.int (Int32.ofNat f)), .val (.int (Int32.ofNat a)), s6, s7] [(.int (Int32.ofNat a)), (.ref bk), (.ref a1)])) := fun t_ k_ => (gc p107 st108) t_ (by
      refine XS.iload X108.here hx rfl (hb hby d8_79) rfl ?_
      exact k_)
    obtain ⟨cl110, Ar110, q110, S110, Ng110, H110, G110⟩ := id V1
    have hin110 := inb_of S110 (j := (Int32.ofNat a)) (own_ib ha)
    have hat110 := H110.at (v := (.long (own_K ks a))) hin110 (own_rdK ks ha)
    have p111 : Go p.tables e below _ (T108.setTop (mkF m 82 #[.val (.ref a1), .val (.long q2), .second, .val (.int (Int32.ofNat i)), .val (.int (Int32.ofNat f)), .val (.int (Int32.ofNat a)), s6, s7] [(.long (own_K ks a)), (.ref a1)])) := fun t_ k_ => p109 t_ (by
      refine X108.laload hx (j := (Int32.ofNat a)) (v := (.long (own_K ks a))) (by rw [e108]; exact Ar110.1) (State.isArrayOf_alike hZ.alike Ar110.2.1) Ar110.2.2 hin110 hat110 (g := (mkF m 81 #[.val (.ref a1), .val (.long q2), .second, .val (.int (Int32.ofNat i)), .val (.int (Int32.ofNat f)), .val (.int (Int32.ofNat a)), s6, s7] [(.int (Int32.ofNat a)), (.ref bk), (.ref a1)])) rfl rfl (hb hby d8_81) _ ?_
      exact k_)
    obtain ⟨cq112, q112, q112'⟩ := E1.cell
    obtain ⟨_, _, ⟨T112, L112, k112, n112⟩, -, X112, ⟨Lc112, hQ112, l112, y112, z112⟩, st112⟩ := X108.privateBack hx (y := (⟨"com/example/subsume/subsume/reasoner/Positions", "slot", "(J)I"⟩ : MethodName)) hown (mvT hZ (own_w hw 32 rfl)) (mvT hZ (own_w hw 33 rfl)) (selPriv (mvT hZ (own_w hw 28 rfl)) rfl (Cond.privateMethod_at (mvP hZ (own_w hw 34 rfl) (args := #[]))) (mvT hZ (own_w hw 33 rfl)) (by decide)) (Cond.privateMethod_at (mvP hZ (own_w hw 34 rfl) (args := #[]))) (mvT hZ (own_w hw 35 rfl)) (by decide) (backOf (W := 0) (rm6 l Z a0 hw [] a1 (own_K ks a) bk kk ks h0 n0 (Nat.le_trans Z0 (Keep.refl h0 [bk, bp]).1) F1 V1) hZ (own_w hw 35 rfl) (own_w hw 4 rfl) (by decide) (by decide)) (g := (mkF m 82 #[.val (.ref a1), .val (.long q2), .second, .val (.int (Int32.ofNat i)), .val (.int (Int32.ofNat f)), .val (.int (Int32.ofNat a)), s6, s7] [(.long (own_K ks a)), (.ref a1)])) rfl (by rw [hml]; rfl) (Steps.refl _) (a := a1) (by rw [e108]; exact q112) q112' (argsL := [(.long (own_K ks a))]) (rest := []) (lenOf pd1 rfl) rfl (by show 2 * 0 + _ ≤ _; exact Nat.le_of_eq rfl) (hb hby d8_82) (fun _ _ => ⟨rfl, e108, (by decide : 0 + 0 ≤ _), (by decide : 0 + 0 ≤ _)⟩)
    dsimp only [Pt.U, Pt.locs, Pt.cells, Pt.slots] at X112 l112 y112 z112 st112 hQ112
    subst l112 y112 z112
    obtain ⟨rfl, N112q, q112_hh⟩ := hQ112
    have N112 := Fr.app N0 N112q
    have p113 : Go p.tables e below _ (T112.setTop (mkF m 91 #[.val (.ref a1), .val (.long q2), .second, .val (.int (Int32.ofNat i)), .val (.int (Int32.ofNat f)), .val (.int (Int32.ofNat a)), .val (.int (Int32.ofNat (own_home (own_K ks a)))), s7] [(.int (Int32.ofNat a)), (.int (Int32.ofNat f))])) := fun t_ k_ => (gcT p111 st112) t_ (by
      refine XS.istoreS X112.here hx rfl (hb hby d8_85) rfl rfl o6 ?_
      refine XS.iload X112.here hx rfl (hb hby d8_87) rfl ?_
      refine XS.iload X112.here hx rfl (hb hby d8_89) rfl ?_
      exact k_)
    by_cases c114 : (Int32.ofNat a) < (Int32.ofNat f)
    · have p115 : Go p.tables e below _ (T112.setTop (mkF m 116 #[.val (.ref a1), .val (.long q2), .second, .val (.int (Int32.ofNat i)), .val (.int (Int32.ofNat f)), .val (.int (Int32.ofNat a)), .val (.int (Int32.ofNat (own_home (own_K ks a)))), s7] [])) := fun t_ k_ => p113 t_ (by
        refine XS.icmpYes X112.here hx rfl (pc0 := 91) (pc' := 116) rfl (hb hby d8_91) rfl (tlt c114).2.2.1 (by decide) (by decide) ?_
        exact k_)
      have p116 : Go p.tables e below _ (T112.setTop (mkF m 120 #[.val (.ref a1), .val (.long q2), .second, .val (.int (Int32.ofNat i)), .val (.int (Int32.ofNat f)), .val (.int (Int32.ofNat a)), .val (.int (Int32.ofNat (own_home (own_K ks a)))), s7] [(.int (Int32.ofNat (own_home (own_K ks a)))), (.int (Int32.ofNat f))])) := fun t_ k_ => p115 t_ (by
        refine XS.iload X112.here hx rfl (hb hby d8_116) rfl ?_
        refine XS.iload X112.here hx rfl (hb hby d8_118) rfl ?_
        exact k_)
      by_cases c117 : (Int32.ofNat f) < (Int32.ofNat (own_home (own_K ks a)))
      · have p118 : Go p.tables e below _ (T112.setTop (mkF m 130 #[.val (.ref a1), .val (.long q2), .second, .val (.int (Int32.ofNat i)), .val (.int (Int32.ofNat f)), .val (.int (Int32.ofNat a)), .val (.int (Int32.ofNat (own_home (own_K ks a)))), s7] [])) := fun t_ k_ => p116 t_ (by
          refine XS.icmpYes X112.here hx rfl (pc0 := 120) (pc' := 130) rfl (hb hby d8_120) rfl (tlt c117).1 (by decide) (by decide) ?_
          exact k_)
        have p119 : Go p.tables e below _ (T112.setTop (mkF m 177 #[.val (.ref a1), .val (.long q2), .second, .val (.int (Int32.ofNat i)), .val (.int (Int32.ofNat f)), .val (.int (Int32.ofNat a)), .val (.int (Int32.ofNat (own_home (own_K ks a)))), .val (.int (1 : Int32))] [(.int (Int32.ofNat a)), (.ref a1)])) := fun t_ k_ => p118 t_ (by
          refine XS.iconst X112.here hx rfl (hb hby d8_130) ?_
          refine XS.goto X112.here hx rfl (pc0 := 131) (pc' := 135) rfl (hb hby d8_131) (by decide) (by decide) ?_
          refine XS.istoreS X112.here hx rfl (hb hby d8_135) rfl rfl o7 ?_
          refine XS.iload X112.here hx rfl (hb hby d8_137) rfl ?_
          refine XS.ifYes X112.here hx rfl (pc0 := 139) (pc' := 174) rfl (hb hby d8_139) rfl ((if0 _ _).trans (feq (by decide : ¬ ((1 : Int32) = (0 : Int32)))).2) (by decide) (by decide) ?_
          refine XS.aloadN X112.here hx rfl (hb hby d8_174) rfl rfl ?_
          refine XS.iload X112.here hx rfl (hb hby d8_175) rfl ?_
          exact k_)
        obtain ⟨cq120, q120, q120'⟩ := E1.cell
        obtain ⟨_, _, ⟨T120, L120, k120, n120⟩, -, X120, ⟨Lc120, hQ120, l120, y120, z120⟩, st120⟩ := X112.privateBack hx (y := (⟨"com/example/subsume/subsume/reasoner/Positions", "next", "(I)I"⟩ : MethodName)) hown (mvT hZ (own_w hw 56 rfl)) (mvT hZ (own_w hw 57 rfl)) (selPriv (mvT hZ (own_w hw 28 rfl)) rfl (Cond.privateMethod_at (mvP hZ (own_w hw 58 rfl) (args := #[]))) (mvT hZ (own_w hw 57 rfl)) (by decide)) (Cond.privateMethod_at (mvP hZ (own_w hw 58 rfl) (args := #[]))) (mvT hZ (own_w hw 59 rfl)) (by decide) (backOf (W := 0) (rm11 l Z a0 hw [] a1 a bk kk ks h0 n0 (Nat.le_trans Z0 (Keep.refl h0 [bk, bp]).1) F1 V1 ha) hZ (own_w hw 59 rfl) (own_w hw 4 rfl) (by decide) (by decide)) (g := (mkF m 177 #[.val (.ref a1), .val (.long q2), .second, .val (.int (Int32.ofNat i)), .val (.int (Int32.ofNat f)), .val (.int (Int32.ofNat a)), .val (.int (Int32.ofNat (own_home (own_K ks a)))), .val (.int (1 : Int32))] [(.int (Int32.ofNat a)), (.ref a1)])) rfl (by rw [hml]; rfl) (Steps.refl _) (a := a1) (by rw [q112_hh]; exact q120) q120' (argsL := [(.int (Int32.ofNat a))]) (rest := []) (lenOf pd0 rfl) rfl (by show 2 * 0 + _ ≤ _; exact Nat.le_of_eq rfl) (hb hby d8_177) (fun _ _ => ⟨rfl, q112_hh, (by decide : 0 + 0 ≤ _), (by decide : 0 + 0 ≤ _)⟩)
        dsimp only [Pt.U, Pt.locs, Pt.cells, Pt.slots] at X120 l120 y120 z120 st120 hQ120
        subst l120 y120 z120
        obtain ⟨rfl, N120q, q120_hh⟩ := hQ120
        have N120 := Fr.app N112 N120q
        have p121 : Go p.tables e below _ (T120.setTop (mkF m 60 #[.val (.ref a1), .val (.long q2), .second, .val (.int (Int32.ofNat i)), .val (.int (Int32.ofNat f)), .val (.int (Int32.ofNat ((a + 1) % 16))), .val (.int (Int32.ofNat (own_home (own_K ks a)))), .val (.int (1 : Int32))] [])) := fun t_ k_ => (gcT p119 st120) t_ (by
          refine XS.istore X120.here hx rfl (hb hby d8_180) rfl (l' := #[.val (.ref a1), .val (.long q2), .second, .val (.int (Int32.ofNat i)), .val (.int (Int32.ofNat f)), .val (.int (Int32.ofNat ((a + 1) % 16))), .val (.int (Int32.ofNat (own_home (own_K ks a)))), .val (.int (1 : Int32))]) rfl ?_
          refine XS.goto X120.here hx rfl (pc0 := 182) (pc' := 60) rfl (hb hby d8_182) (by decide) (by decide) ?_
          exact k_)
        have hh := own_home_lt (own_K ks a)
        rw [own_lt16 ha hf] at c114
        rw [own_lt16 hf hh] at c117
        have hb : own_btw f (own_home (own_K ks a)) a := by unfold own_btw own_d; omega
        have e1 : own_rsk own_home ks f a = ks := by simp [own_rsk, hb]
        have e2 : own_rsp own_home ks ps f a = ps := by simp [own_rsp, hb]
        have e3 : own_rsf own_home ks f a = f := by simp [own_rsf, hb]
        have hk2 := hok.2
        rw [e1, e3] at hk2
        obtain ⟨T', h', lc', f', a', s6', s7', X', e', N', K', F1', F2', E1', V1', V2', g'⟩ := ih ks ps f ((a + 1) % 16) (.val (.int (Int32.ofNat (own_home (own_K ks a))))) (.val (.int (1 : Int32))) T120 h0 _ X120 q120_hh (Nat.le_trans Z0 (Keep.refl h0 [bk, bp]).1) N120 F1 F2 E1 V1 V2 (by simp [hlk]) (by simp [hlp]) hf (Nat.mod_lt _ (by omega)) (One.val rfl) (One.val rfl) hk2
        simp only [own_rm, e1, e2, e3]
        exact ⟨T', h', lc', f', a', s6', s7', X', e', N', (Keep.refl h0 [bk, bp]).trans K' (allS (Or.inl (List.mem_of_getElem? (i := 0) rfl)) (allS (Or.inl (List.mem_of_getElem? (i := 1) rfl)) all0)), F1', F2', E1', V1', V2', fun t_ k_ => p121 t_ (g' t_ k_)⟩
      · have p123 : Go p.tables e below _ (T112.setTop (mkF m 123 #[.val (.ref a1), .val (.long q2), .second, .val (.int (Int32.ofNat i)), .val (.int (Int32.ofNat f)), .val (.int (Int32.ofNat a)), .val (.int (Int32.ofNat (own_home (own_K ks a)))), s7] [])) := fun t_ k_ => p116 t_ (by
          refine XS.icmpNo X112.here hx rfl (hb hby d8_120) rfl (flt c117).1 ?_
          exact k_)
        have p124 : Go p.tables e below _ (T112.setTop (mkF m 127 #[.val (.ref a1), .val (.long q2), .second, .val (.int (Int32.ofNat i)), .val (.int (Int32.ofNat f)), .val (.int (Int32.ofNat a)), .val (.int (Int32.ofNat (own_home (own_K ks a)))), s7] [(.int (Int32.ofNat a)), (.int (Int32.ofNat (own_home (own_K ks a))))])) := fun t_ k_ => p123 t_ (by
          refine XS.iload X112.here hx rfl (hb hby d8_123) rfl ?_
          refine XS.iload X112.here hx rfl (hb hby d8_125) rfl ?_
          exact k_)
        by_cases c125 : (Int32.ofNat a) < (Int32.ofNat (own_home (own_K ks a)))
        · have p126 : Go p.tables e below _ (T112.setTop (mkF m 134 #[.val (.ref a1), .val (.long q2), .second, .val (.int (Int32.ofNat i)), .val (.int (Int32.ofNat f)), .val (.int (Int32.ofNat a)), .val (.int (Int32.ofNat (own_home (own_K ks a)))), s7] [])) := fun t_ k_ => p124 t_ (by
            refine XS.icmpYes X112.here hx rfl (pc0 := 127) (pc' := 134) rfl (hb hby d8_127) rfl (tlt c125).2.2.1 (by decide) (by decide) ?_
            exact k_)
          have p127 : Go p.tables e below _ (T112.setTop (mkF m 143 #[.val (.ref a1), .val (.long q2), .second, .val (.int (Int32.ofNat i)), .val (.int (Int32.ofNat f)), .val (.int (Int32.ofNat a)), .val (.int (Int32.ofNat (own_home (own_K ks a)))), .val (.int (0 : Int32))] [(.ref a1)])) := fun t_ k_ => p126 t_ (by
            refine XS.iconst X112.here hx rfl (hb hby d8_134) ?_
            refine XS.istoreS X112.here hx rfl (hb hby d8_135) rfl rfl o7 ?_
            refine XS.iload X112.here hx rfl (hb hby d8_137) rfl ?_
            refine XS.ifNo X112.here hx rfl (hb hby d8_139) rfl ((if0 _ _).trans (teq (by decide : ((0 : Int32) = (0 : Int32)))).2) ?_
            refine XS.aloadN X112.here hx rfl (hb hby d8_142) rfl rfl ?_
            exact k_)
          obtain ⟨T128, X128, e128, st128⟩ := getF X112 hx hZ hown (host := "") (Or.inl (own_w hw 20 rfl)) Via.refl q112_hh F1 (g := (mkF m 143 #[.val (.ref a1), .val (.long q2), .second, .val (.int (Int32.ofNat i)), .val (.int (Int32.ofNat f)), .val (.int (Int32.ofNat a)), .val (.int (Int32.ofNat (own_home (own_K ks a)))), .val (.int (0 : Int32))] [(.ref a1)])) rfl rfl (hb hby d8_143)
          have p129 : Go p.tables e below _ (T128.setTop (mkF m 149 #[.val (.ref a1), .val (.long q2), .second, .val (.int (Int32.ofNat i)), .val (.int (Int32.ofNat f)), .val (.int (Int32.ofNat a)), .val (.int (Int32.ofNat (own_home (own_K ks a)))), .val (.int (0 : Int32))] [(.ref a1), (.int (Int32.ofNat f)), (.ref bk)])) := fun t_ k_ => (gc p127 st128) t_ (by
            refine XS.iload X128.here hx rfl (hb hby d8_146) rfl ?_
            refine XS.aloadN X128.here hx rfl (hb hby d8_148) rfl rfl ?_
            exact k_)
          obtain ⟨T130, X130, e130, st130⟩ := getF X128 hx hZ hown (host := "") (Or.inl (own_w hw 20 rfl)) Via.refl e128 F1 (g := (mkF m 149 #[.val (.ref a1), .val (.long q2), .second, .val (.int (Int32.ofNat i)), .val (.int (Int32.ofNat f)), .val (.int (Int32.ofNat a)), .val (.int (Int32.ofNat (own_home (own_K ks a)))), .val (.int (0 : Int32))] [(.ref a1), (.int (Int32.ofNat f)), (.ref bk)])) rfl rfl (hb hby d8_149)
          have p131 : Go p.tables e below _ (T130.setTop (mkF m 154 #[.val (.ref a1), .val (.long q2), .second, .val (.int (Int32.ofNat i)), .val (.int (Int32.ofNat f)), .val (.int (Int32.ofNat a)), .val (.int (Int32.ofNat (own_home (own_K ks a)))), .val (.int (0 : Int32))] [(.int (Int32.ofNat a)), (.ref bk), (.int (Int32.ofNat f)), (.ref bk)])) := fun t_ k_ => (gc p129 st130) t_ (by
            refine XS.iload X130.here hx rfl (hb hby d8_152) rfl ?_
            exact k_)
          obtain ⟨cl132, Ar132, q132, S132, Ng132, H132, G132⟩ := id V1
          have hin132 := inb_of S132 (j := (Int32.ofNat a)) (own_ib ha)
          have hat132 := H132.at (v := (.long (own_K ks a))) hin132 (own_rdK ks ha)
          have p133 : Go p.tables e below _ (T130.setTop (mkF m 155 #[.val (.ref a1), .val (.long q2), .second, .val (.int (Int32.ofNat i)), .val (.int (Int32.ofNat f)), .val (.int (Int32.ofNat a)), .val (.int (Int32.ofNat (own_home (own_K ks a)))), .val (.int (0 : Int32))] [(.long (own_K ks a)), (.int (Int32.ofNat f)), (.ref bk)])) := fun t_ k_ => p131 t_ (by
            refine X130.laload hx (j := (Int32.ofNat a)) (v := (.long (own_K ks a))) (by rw [e130]; exact Ar132.1) (State.isArrayOf_alike hZ.alike Ar132.2.1) Ar132.2.2 hin132 hat132 (g := (mkF m 154 #[.val (.ref a1), .val (.long q2), .second, .val (.int (Int32.ofNat i)), .val (.int (Int32.ofNat f)), .val (.int (Int32.ofNat a)), .val (.int (Int32.ofNat (own_home (own_K ks a)))), .val (.int (0 : Int32))] [(.int (Int32.ofNat a)), (.ref bk), (.int (Int32.ofNat f)), (.ref bk)])) rfl rfl (hb hby d8_154) _ ?_
            exact k_)
          obtain ⟨cl134, Ar134, q134, S134, Ng134, H134, G134⟩ := id V1
          have hin134 := inb_of S134 (j := (Int32.ofNat f)) (own_ib hf)
          obtain ⟨T134, h134, X134, e134, W134, st134⟩ := stJ X130 hx hZ e130 Ar134 (j := (Int32.ofNat f)) hin134 (g := (mkF m 155 #[.val (.ref a1), .val (.long q2), .second, .val (.int (Int32.ofNat i)), .val (.int (Int32.ofNat f)), .val (.int (Int32.ofNat a)), .val (.int (Int32.ofNat (own_home (own_K ks a)))), .val (.int (0 : Int32))] [(.long (own_K ks a)), (.int (Int32.ofNat f)), (.ref bk)])) rfl rfl (hb hby d8_155)
          have K135 : Keep h0 h134 [bk, bp] := (Keep.refl h0 [bk, bp]).wr W134 (Or.inl (List.mem_of_getElem? (i := 0) rfl))
          have N134 := Fr.snoc X134 N112 g2
          have V134 : Arv Z h134 bk kk .long (16 : Int32) ((ks.set f (own_K ks a)).map Value.long) (.long (0 : Int64)) := by rw [List.map_set]; exact Arv.set Ar134 q134 S134 Ng134 H134 G134 rfl W134 f (own_cl hf) (by rw [List.length_map, hlk]; exact hf)
          have p136 : Go p.tables e below _ (T134.setTop (mkF m 157 #[.val (.ref a1), .val (.long q2), .second, .val (.int (Int32.ofNat i)), .val (.int (Int32.ofNat f)), .val (.int (Int32.ofNat a)), .val (.int (Int32.ofNat (own_home (own_K ks a)))), .val (.int (0 : Int32))] [(.ref a1)])) := fun t_ k_ => (gc p133 st134) t_ (by
            refine XS.aloadN X134.here hx rfl (hb hby d8_156) rfl rfl ?_
            exact k_)
          have f137 := (F2.other W134 (Or.inl ne1))
          obtain ⟨T138, X138, e138, st138⟩ := getF X134 hx hZ hown (host := "") (Or.inl (own_w hw 23 rfl)) Via.refl e134 f137 (g := (mkF m 157 #[.val (.ref a1), .val (.long q2), .second, .val (.int (Int32.ofNat i)), .val (.int (Int32.ofNat f)), .val (.int (Int32.ofNat a)), .val (.int (Int32.ofNat (own_home (own_K ks a)))), .val (.int (0 : Int32))] [(.ref a1)])) rfl rfl (hb hby d8_157)
          have p139 : Go p.tables e below _ (T138.setTop (mkF m 163 #[.val (.ref a1), .val (.long q2), .second, .val (.int (Int32.ofNat i)), .val (.int (Int32.ofNat f)), .val (.int (Int32.ofNat a)), .val (.int (Int32.ofNat (own_home (own_K ks a)))), .val (.int (0 : Int32))] [(.ref a1), (.int (Int32.ofNat f)), (.ref bp)])) := fun t_ k_ => (gc p136 st138) t_ (by
            refine XS.iload X138.here hx rfl (hb hby d8_160) rfl ?_
            refine XS.aloadN X138.here hx rfl (hb hby d8_162) rfl rfl ?_
            exact k_)
          obtain ⟨T140, X140, e140, st140⟩ := getF X138 hx hZ hown (host := "") (Or.inl (own_w hw 23 rfl)) Via.refl e138 f137 (g := (mkF m 163 #[.val (.ref a1), .val (.long q2), .second, .val (.int (Int32.ofNat i)), .val (.int (Int32.ofNat f)), .val (.int (Int32.ofNat a)), .val (.int (Int32.ofNat (own_home (own_K ks a)))), .val (.int (0 : Int32))] [(.ref a1), (.int (Int32.ofNat f)), (.ref bp)])) rfl rfl (hb hby d8_163)
          have p141 : Go p.tables e below _ (T140.setTop (mkF m 168 #[.val (.ref a1), .val (.long q2), .second, .val (.int (Int32.ofNat i)), .val (.int (Int32.ofNat f)), .val (.int (Int32.ofNat a)), .val (.int (Int32.ofNat (own_home (own_K ks a)))), .val (.int (0 : Int32))] [(.int (Int32.ofNat a)), (.ref bp), (.int (Int32.ofNat f)), (.ref bp)])) := fun t_ k_ => (gc p139 st140) t_ (by
            refine XS.iload X140.here hx rfl (hb hby d8_166) rfl ?_
            exact k_)
          have f143 := (V2.other W134 (Ne.symm ne3))
          obtain ⟨cl142, Ar142, q142, S142, Ng142, H142, G142⟩ := id f143
          have hin142 := inb_of S142 (j := (Int32.ofNat a)) (own_ib ha)
          have hat142 := H142.at (v := (.int (own_P ps a))) hin142 (own_rdP ps ha)
          have p144 : Go p.tables e below _ (T140.setTop (mkF m 169 #[.val (.ref a1), .val (.long q2), .second, .val (.int (Int32.ofNat i)), .val (.int (Int32.ofNat f)), .val (.int (Int32.ofNat a)), .val (.int (Int32.ofNat (own_home (own_K ks a)))), .val (.int (0 : Int32))] [(.int (own_P ps a)), (.int (Int32.ofNat f)), (.ref bp)])) := fun t_ k_ => p141 t_ (by
            refine X140.iaload hx (j := (Int32.ofNat a)) (v := (.int (own_P ps a))) (by rw [e140]; exact Ar142.1) (State.isArrayOf_alike hZ.alike Ar142.2.1) Ar142.2.2 hin142 hat142 (g := (mkF m 168 #[.val (.ref a1), .val (.long q2), .second, .val (.int (Int32.ofNat i)), .val (.int (Int32.ofNat f)), .val (.int (Int32.ofNat a)), .val (.int (Int32.ofNat (own_home (own_K ks a)))), .val (.int (0 : Int32))] [(.int (Int32.ofNat a)), (.ref bp), (.int (Int32.ofNat f)), (.ref bp)])) rfl rfl (hb hby d8_168) _ ?_
            exact k_)
          obtain ⟨cl145, Ar145, q145, S145, Ng145, H145, G145⟩ := id f143
          have hin145 := inb_of S145 (j := (Int32.ofNat f)) (own_ib hf)
          obtain ⟨T145, h145, X145, e145, W145, st145⟩ := stI X140 hx hZ e140 Ar145 (j := (Int32.ofNat f)) hin145 (g := (mkF m 169 #[.val (.ref a1), .val (.long q2), .second, .val (.int (Int32.ofNat i)), .val (.int (Int32.ofNat f)), .val (.int (Int32.ofNat a)), .val (.int (Int32.ofNat (own_home (own_K ks a)))), .val (.int (0 : Int32))] [(.int (own_P ps a)), (.int (Int32.ofNat f)), (.ref bp)])) rfl rfl (hb hby d8_169)
          have K146 : Keep h0 h145 [bk, bp] := K135.wr W145 (Or.inl (List.mem_of_getElem? (i := 1) rfl))
          have N145 := Fr.snoc X145 N134 g3
          have V145 : Arv Z h145 bp kp .int (16 : Int32) ((ps.set f (own_P ps a)).map Value.int) (.int (0 : Int32)) := by rw [List.map_set]; exact Arv.set Ar145 q145 S145 Ng145 H145 G145 rfl W145 f (own_cl hf) (by rw [List.length_map, hlp]; exact hf)
          have p147 : Go p.tables e below _ (T145.setTop (mkF m 177 #[.val (.ref a1), .val (.long q2), .second, .val (.int (Int32.ofNat i)), .val (.int (Int32.ofNat a)), .val (.int (Int32.ofNat a)), .val (.int (Int32.ofNat (own_home (own_K ks a)))), .val (.int (0 : Int32))] [(.int (Int32.ofNat a)), (.ref a1)])) := fun t_ k_ => (gc p144 st145) t_ (by
            refine XS.iload X145.here hx rfl (hb hby d8_170) rfl ?_
            refine XS.istore X145.here hx rfl (hb hby d8_172) rfl (l' := #[.val (.ref a1), .val (.long q2), .second, .val (.int (Int32.ofNat i)), .val (.int (Int32.ofNat a)), .val (.int (Int32.ofNat a)), .val (.int (Int32.ofNat (own_home (own_K ks a)))), .val (.int (0 : Int32))]) rfl ?_
            refine XS.aloadN X145.here hx rfl (hb hby d8_174) rfl rfl ?_
            refine XS.iload X145.here hx rfl (hb hby d8_175) rfl ?_
            exact k_)
          have f148 := ((F1.other W134 (Or.inl ne1)).other W145 (Or.inl ne2))
          have f149 := (V134.other W145 ne3)
          have f151 := ((E1.wr W134).wr W145)
          obtain ⟨cq150, q150, q150'⟩ := f151.cell
          obtain ⟨_, _, ⟨T150, L150, k150, n150⟩, -, X150, ⟨Lc150, hQ150, l150, y150, z150⟩, st150⟩ := X145.privateBack hx (y := (⟨"com/example/subsume/subsume/reasoner/Positions", "next", "(I)I"⟩ : MethodName)) hown (mvT hZ (own_w hw 56 rfl)) (mvT hZ (own_w hw 57 rfl)) (selPriv (mvT hZ (own_w hw 28 rfl)) rfl (Cond.privateMethod_at (mvP hZ (own_w hw 58 rfl) (args := #[]))) (mvT hZ (own_w hw 57 rfl)) (by decide)) (Cond.privateMethod_at (mvP hZ (own_w hw 58 rfl) (args := #[]))) (mvT hZ (own_w hw 59 rfl)) (by decide) (backOf (W := 0) (rm11 l Z a0 hw [] a1 a bk kk (ks.set f (own_K ks a)) h145 n0 (Nat.le_trans Z0 K146.1) f148 f149 ha) hZ (own_w hw 59 rfl) (own_w hw 4 rfl) (by decide) (by decide)) (g := (mkF m 177 #[.val (.ref a1), .val (.long q2), .second, .val (.int (Int32.ofNat i)), .val (.int (Int32.ofNat a)), .val (.int (Int32.ofNat a)), .val (.int (Int32.ofNat (own_home (own_K ks a)))), .val (.int (0 : Int32))] [(.int (Int32.ofNat a)), (.ref a1)])) rfl (by rw [hml]; rfl) (Steps.refl _) (a := a1) (by rw [e145]; exact q150) q150' (argsL := [(.int (Int32.ofNat a))]) (rest := []) (lenOf pd0 rfl) rfl (by show 2 * 0 + _ ≤ _; exact Nat.le_of_eq rfl) (hb hby d8_177) (fun _ _ => ⟨rfl, e145, (by decide : 0 + 0 ≤ _), (by decide : 0 + 0 ≤ _)⟩)
          dsimp only [Pt.U, Pt.locs, Pt.cells, Pt.slots] at X150 l150 y150 z150 st150 hQ150
          subst l150 y150 z150
          obtain ⟨rfl, N150q, q150_hh⟩ := hQ150
          have N150 := Fr.app N145 N150q
          have p152 : Go p.tables e below _ (T150.setTop (mkF m 60 #[.val (.ref a1), .val (.long q2), .second, .val (.int (Int32.ofNat i)), .val (.int (Int32.ofNat a)), .val (.int (Int32.ofNat ((a + 1) % 16))), .val (.int (Int32.ofNat (own_home (own_K ks a)))), .val (.int (0 : Int32))] [])) := fun t_ k_ => (gcT p147 st150) t_ (by
            refine XS.istore X150.here hx rfl (hb hby d8_180) rfl (l' := #[.val (.ref a1), .val (.long q2), .second, .val (.int (Int32.ofNat i)), .val (.int (Int32.ofNat a)), .val (.int (Int32.ofNat ((a + 1) % 16))), .val (.int (Int32.ofNat (own_home (own_K ks a)))), .val (.int (0 : Int32))]) rfl ?_
            refine XS.goto X150.here hx rfl (pc0 := 182) (pc' := 60) rfl (hb hby d8_182) (by decide) (by decide) ?_
            exact k_)
          have hh := own_home_lt (own_K ks a)
          rw [own_lt16 ha hf] at c114
          rw [own_lt16 hf hh] at c117
          rw [own_lt16 ha hh] at c125
          have hb : ¬ own_btw f (own_home (own_K ks a)) a := by unfold own_btw own_d; omega
          have e1 : own_rsk own_home ks f a = (ks.set f (own_K ks a)) := by simp [own_rsk, hb]
          have e2 : own_rsp own_home ks ps f a = (ps.set f (own_P ps a)) := by simp [own_rsp, hb]
          have e3 : own_rsf own_home ks f a = a := by simp [own_rsf, hb]
          have hk2 := hok.2
          rw [e1, e3] at hk2
          have f154 := (f137.other W145 (Or.inl ne2))
          obtain ⟨T', h', lc', f', a', s6', s7', X', e', N', K', F1', F2', E1', V1', V2', g'⟩ := ih (ks.set f (own_K ks a)) (ps.set f (own_P ps a)) a ((a + 1) % 16) (.val (.int (Int32.ofNat (own_home (own_K ks a))))) (.val (.int (0 : Int32))) T150 h145 _ X150 q150_hh (Nat.le_trans Z0 K146.1) N150 f148 f154 f151 f149 V145 (by simp [hlk]) (by simp [hlp]) ha (Nat.mod_lt _ (by omega)) (One.val rfl) (One.val rfl) hk2
          simp only [own_rm, e1, e2, e3]
          exact ⟨T', h', lc', f', a', s6', s7', X', e', N', K146.trans K' (allS (Or.inl (List.mem_of_getElem? (i := 0) rfl)) (allS (Or.inl (List.mem_of_getElem? (i := 1) rfl)) all0)), F1', F2', E1', V1', V2', fun t_ k_ => p152 t_ (g' t_ k_)⟩
        · have p155 : Go p.tables e below _ (T112.setTop (mkF m 130 #[.val (.ref a1), .val (.long q2), .second, .val (.int (Int32.ofNat i)), .val (.int (Int32.ofNat f)), .val (.int (Int32.ofNat a)), .val (.int (Int32.ofNat (own_home (own_K ks a)))), s7] [])) := fun t_ k_ => p124 t_ (by
            refine XS.icmpNo X112.here hx rfl (hb hby d8_127) rfl (flt c125).2.2.1 ?_
            exact k_)
          have p156 : Go p.tables e below _ (T112.setTop (mkF m 177 #[.val (.ref a1), .val (.long q2), .second, .val (.int (Int32.ofNat i)), .val (.int (Int32.ofNat f)), .val (.int (Int32.ofNat a)), .val (.int (Int32.ofNat (own_home (own_K ks a)))), .val (.int (1 : Int32))] [(.int (Int32.ofNat a)), (.ref a1)])) := fun t_ k_ => p155 t_ (by
            refine XS.iconst X112.here hx rfl (hb hby d8_130) ?_
            refine XS.goto X112.here hx rfl (pc0 := 131) (pc' := 135) rfl (hb hby d8_131) (by decide) (by decide) ?_
            refine XS.istoreS X112.here hx rfl (hb hby d8_135) rfl rfl o7 ?_
            refine XS.iload X112.here hx rfl (hb hby d8_137) rfl ?_
            refine XS.ifYes X112.here hx rfl (pc0 := 139) (pc' := 174) rfl (hb hby d8_139) rfl ((if0 _ _).trans (feq (by decide : ¬ ((1 : Int32) = (0 : Int32)))).2) (by decide) (by decide) ?_
            refine XS.aloadN X112.here hx rfl (hb hby d8_174) rfl rfl ?_
            refine XS.iload X112.here hx rfl (hb hby d8_175) rfl ?_
            exact k_)
          obtain ⟨cq157, q157, q157'⟩ := E1.cell
          obtain ⟨_, _, ⟨T157, L157, k157, n157⟩, -, X157, ⟨Lc157, hQ157, l157, y157, z157⟩, st157⟩ := X112.privateBack hx (y := (⟨"com/example/subsume/subsume/reasoner/Positions", "next", "(I)I"⟩ : MethodName)) hown (mvT hZ (own_w hw 56 rfl)) (mvT hZ (own_w hw 57 rfl)) (selPriv (mvT hZ (own_w hw 28 rfl)) rfl (Cond.privateMethod_at (mvP hZ (own_w hw 58 rfl) (args := #[]))) (mvT hZ (own_w hw 57 rfl)) (by decide)) (Cond.privateMethod_at (mvP hZ (own_w hw 58 rfl) (args := #[]))) (mvT hZ (own_w hw 59 rfl)) (by decide) (backOf (W := 0) (rm11 l Z a0 hw [] a1 a bk kk ks h0 n0 (Nat.le_trans Z0 (Keep.refl h0 [bk, bp]).1) F1 V1 ha) hZ (own_w hw 59 rfl) (own_w hw 4 rfl) (by decide) (by decide)) (g := (mkF m 177 #[.val (.ref a1), .val (.long q2), .second, .val (.int (Int32.ofNat i)), .val (.int (Int32.ofNat f)), .val (.int (Int32.ofNat a)), .val (.int (Int32.ofNat (own_home (own_K ks a)))), .val (.int (1 : Int32))] [(.int (Int32.ofNat a)), (.ref a1)])) rfl (by rw [hml]; rfl) (Steps.refl _) (a := a1) (by rw [q112_hh]; exact q157) q157' (argsL := [(.int (Int32.ofNat a))]) (rest := []) (lenOf pd0 rfl) rfl (by show 2 * 0 + _ ≤ _; exact Nat.le_of_eq rfl) (hb hby d8_177) (fun _ _ => ⟨rfl, q112_hh, (by decide : 0 + 0 ≤ _), (by decide : 0 + 0 ≤ _)⟩)
          dsimp only [Pt.U, Pt.locs, Pt.cells, Pt.slots] at X157 l157 y157 z157 st157 hQ157
          subst l157 y157 z157
          obtain ⟨rfl, N157q, q157_hh⟩ := hQ157
          have N157 := Fr.app N112 N157q
          have p158 : Go p.tables e below _ (T157.setTop (mkF m 60 #[.val (.ref a1), .val (.long q2), .second, .val (.int (Int32.ofNat i)), .val (.int (Int32.ofNat f)), .val (.int (Int32.ofNat ((a + 1) % 16))), .val (.int (Int32.ofNat (own_home (own_K ks a)))), .val (.int (1 : Int32))] [])) := fun t_ k_ => (gcT p156 st157) t_ (by
            refine XS.istore X157.here hx rfl (hb hby d8_180) rfl (l' := #[.val (.ref a1), .val (.long q2), .second, .val (.int (Int32.ofNat i)), .val (.int (Int32.ofNat f)), .val (.int (Int32.ofNat ((a + 1) % 16))), .val (.int (Int32.ofNat (own_home (own_K ks a)))), .val (.int (1 : Int32))]) rfl ?_
            refine XS.goto X157.here hx rfl (pc0 := 182) (pc' := 60) rfl (hb hby d8_182) (by decide) (by decide) ?_
            exact k_)
          have hh := own_home_lt (own_K ks a)
          rw [own_lt16 ha hf] at c114
          rw [own_lt16 hf hh] at c117
          rw [own_lt16 ha hh] at c125
          have hb : own_btw f (own_home (own_K ks a)) a := by unfold own_btw own_d; omega
          have e1 : own_rsk own_home ks f a = ks := by simp [own_rsk, hb]
          have e2 : own_rsp own_home ks ps f a = ps := by simp [own_rsp, hb]
          have e3 : own_rsf own_home ks f a = f := by simp [own_rsf, hb]
          have hk2 := hok.2
          rw [e1, e3] at hk2
          obtain ⟨T', h', lc', f', a', s6', s7', X', e', N', K', F1', F2', E1', V1', V2', g'⟩ := ih ks ps f ((a + 1) % 16) (.val (.int (Int32.ofNat (own_home (own_K ks a))))) (.val (.int (1 : Int32))) T157 h0 _ X157 q157_hh (Nat.le_trans Z0 (Keep.refl h0 [bk, bp]).1) N157 F1 F2 E1 V1 V2 (by simp [hlk]) (by simp [hlp]) hf (Nat.mod_lt _ (by omega)) (One.val rfl) (One.val rfl) hk2
          simp only [own_rm, e1, e2, e3]
          exact ⟨T', h', lc', f', a', s6', s7', X', e', N', (Keep.refl h0 [bk, bp]).trans K' (allS (Or.inl (List.mem_of_getElem? (i := 0) rfl)) (allS (Or.inl (List.mem_of_getElem? (i := 1) rfl)) all0)), F1', F2', E1', V1', V2', fun t_ k_ => p158 t_ (g' t_ k_)⟩
    · have p160 : Go p.tables e below _ (T112.setTop (mkF m 94 #[.val (.ref a1), .val (.long q2), .second, .val (.int (Int32.ofNat i)), .val (.int (Int32.ofNat f)), .val (.int (Int32.ofNat a)), .val (.int (Int32.ofNat (own_home (own_K ks a)))), s7] [])) := fun t_ k_ => p113 t_ (by
        refine XS.icmpNo X112.here hx rfl (hb hby d8_91) rfl (flt c114).2.2.1 ?_
        exact k_)
      have p161 : Go p.tables e below _ (T112.setTop (mkF m 98 #[.val (.ref a1), .val (.long q2), .second, .val (.int (Int32.ofNat i)), .val (.int (Int32.ofNat f)), .val (.int (Int32.ofNat a)), .val (.int (Int32.ofNat (own_home (own_K ks a)))), s7] [(.int (Int32.ofNat (own_home (own_K ks a)))), (.int (Int32.ofNat f))])) := fun t_ k_ => p160 t_ (by
        refine XS.iload X112.here hx rfl (hb hby d8_94) rfl ?_
        refine XS.iload X112.here hx rfl (hb hby d8_96) rfl ?_
        exact k_)
      by_cases c162 : (Int32.ofNat f) < (Int32.ofNat (own_home (own_K ks a)))
      · have p163 : Go p.tables e below _ (T112.setTop (mkF m 101 #[.val (.ref a1), .val (.long q2), .second, .val (.int (Int32.ofNat i)), .val (.int (Int32.ofNat f)), .val (.int (Int32.ofNat a)), .val (.int (Int32.ofNat (own_home (own_K ks a)))), s7] [])) := fun t_ k_ => p161 t_ (by
          refine XS.icmpNo X112.here hx rfl (hb hby d8_98) rfl (tlt c162).2.1 ?_
          exact k_)
        have p164 : Go p.tables e below _ (T112.setTop (mkF m 105 #[.val (.ref a1), .val (.long q2), .second, .val (.int (Int32.ofNat i)), .val (.int (Int32.ofNat f)), .val (.int (Int32.ofNat a)), .val (.int (Int32.ofNat (own_home (own_K ks a)))), s7] [(.int (Int32.ofNat a)), (.int (Int32.ofNat (own_home (own_K ks a))))])) := fun t_ k_ => p163 t_ (by
          refine XS.iload X112.here hx rfl (hb hby d8_101) rfl ?_
          refine XS.iload X112.here hx rfl (hb hby d8_103) rfl ?_
          exact k_)
        by_cases c165 : (Int32.ofNat a) < (Int32.ofNat (own_home (own_K ks a)))
        · have p166 : Go p.tables e below _ (T112.setTop (mkF m 112 #[.val (.ref a1), .val (.long q2), .second, .val (.int (Int32.ofNat i)), .val (.int (Int32.ofNat f)), .val (.int (Int32.ofNat a)), .val (.int (Int32.ofNat (own_home (own_K ks a)))), s7] [])) := fun t_ k_ => p164 t_ (by
            refine XS.icmpYes X112.here hx rfl (pc0 := 105) (pc' := 112) rfl (hb hby d8_105) rfl (tlt c165).2.2.1 (by decide) (by decide) ?_
            exact k_)
          have p167 : Go p.tables e below _ (T112.setTop (mkF m 143 #[.val (.ref a1), .val (.long q2), .second, .val (.int (Int32.ofNat i)), .val (.int (Int32.ofNat f)), .val (.int (Int32.ofNat a)), .val (.int (Int32.ofNat (own_home (own_K ks a)))), .val (.int (0 : Int32))] [(.ref a1)])) := fun t_ k_ => p166 t_ (by
            refine XS.iconst X112.here hx rfl (hb hby d8_112) ?_
            refine XS.goto X112.here hx rfl (pc0 := 113) (pc' := 135) rfl (hb hby d8_113) (by decide) (by decide) ?_
            refine XS.istoreS X112.here hx rfl (hb hby d8_135) rfl rfl o7 ?_
            refine XS.iload X112.here hx rfl (hb hby d8_137) rfl ?_
            refine XS.ifNo X112.here hx rfl (hb hby d8_139) rfl ((if0 _ _).trans (teq (by decide : ((0 : Int32) = (0 : Int32)))).2) ?_
            refine XS.aloadN X112.here hx rfl (hb hby d8_142) rfl rfl ?_
            exact k_)
          obtain ⟨T168, X168, e168, st168⟩ := getF X112 hx hZ hown (host := "") (Or.inl (own_w hw 20 rfl)) Via.refl q112_hh F1 (g := (mkF m 143 #[.val (.ref a1), .val (.long q2), .second, .val (.int (Int32.ofNat i)), .val (.int (Int32.ofNat f)), .val (.int (Int32.ofNat a)), .val (.int (Int32.ofNat (own_home (own_K ks a)))), .val (.int (0 : Int32))] [(.ref a1)])) rfl rfl (hb hby d8_143)
          have p169 : Go p.tables e below _ (T168.setTop (mkF m 149 #[.val (.ref a1), .val (.long q2), .second, .val (.int (Int32.ofNat i)), .val (.int (Int32.ofNat f)), .val (.int (Int32.ofNat a)), .val (.int (Int32.ofNat (own_home (own_K ks a)))), .val (.int (0 : Int32))] [(.ref a1), (.int (Int32.ofNat f)), (.ref bk)])) := fun t_ k_ => (gc p167 st168) t_ (by
            refine XS.iload X168.here hx rfl (hb hby d8_146) rfl ?_
            refine XS.aloadN X168.here hx rfl (hb hby d8_148) rfl rfl ?_
            exact k_)
          obtain ⟨T170, X170, e170, st170⟩ := getF X168 hx hZ hown (host := "") (Or.inl (own_w hw 20 rfl)) Via.refl e168 F1 (g := (mkF m 149 #[.val (.ref a1), .val (.long q2), .second, .val (.int (Int32.ofNat i)), .val (.int (Int32.ofNat f)), .val (.int (Int32.ofNat a)), .val (.int (Int32.ofNat (own_home (own_K ks a)))), .val (.int (0 : Int32))] [(.ref a1), (.int (Int32.ofNat f)), (.ref bk)])) rfl rfl (hb hby d8_149)
          have p171 : Go p.tables e below _ (T170.setTop (mkF m 154 #[.val (.ref a1), .val (.long q2), .second, .val (.int (Int32.ofNat i)), .val (.int (Int32.ofNat f)), .val (.int (Int32.ofNat a)), .val (.int (Int32.ofNat (own_home (own_K ks a)))), .val (.int (0 : Int32))] [(.int (Int32.ofNat a)), (.ref bk), (.int (Int32.ofNat f)), (.ref bk)])) := fun t_ k_ => (gc p169 st170) t_ (by
            refine XS.iload X170.here hx rfl (hb hby d8_152) rfl ?_
            exact k_)
          obtain ⟨cl172, Ar172, q172, S172, Ng172, H172, G172⟩ := id V1
          have hin172 := inb_of S172 (j := (Int32.ofNat a)) (own_ib ha)
          have hat172 := H172.at (v := (.long (own_K ks a))) hin172 (own_rdK ks ha)
          have p173 : Go p.tables e below _ (T170.setTop (mkF m 155 #[.val (.ref a1), .val (.long q2), .second, .val (.int (Int32.ofNat i)), .val (.int (Int32.ofNat f)), .val (.int (Int32.ofNat a)), .val (.int (Int32.ofNat (own_home (own_K ks a)))), .val (.int (0 : Int32))] [(.long (own_K ks a)), (.int (Int32.ofNat f)), (.ref bk)])) := fun t_ k_ => p171 t_ (by
            refine X170.laload hx (j := (Int32.ofNat a)) (v := (.long (own_K ks a))) (by rw [e170]; exact Ar172.1) (State.isArrayOf_alike hZ.alike Ar172.2.1) Ar172.2.2 hin172 hat172 (g := (mkF m 154 #[.val (.ref a1), .val (.long q2), .second, .val (.int (Int32.ofNat i)), .val (.int (Int32.ofNat f)), .val (.int (Int32.ofNat a)), .val (.int (Int32.ofNat (own_home (own_K ks a)))), .val (.int (0 : Int32))] [(.int (Int32.ofNat a)), (.ref bk), (.int (Int32.ofNat f)), (.ref bk)])) rfl rfl (hb hby d8_154) _ ?_
            exact k_)
          obtain ⟨cl174, Ar174, q174, S174, Ng174, H174, G174⟩ := id V1
          have hin174 := inb_of S174 (j := (Int32.ofNat f)) (own_ib hf)
          obtain ⟨T174, h174, X174, e174, W174, st174⟩ := stJ X170 hx hZ e170 Ar174 (j := (Int32.ofNat f)) hin174 (g := (mkF m 155 #[.val (.ref a1), .val (.long q2), .second, .val (.int (Int32.ofNat i)), .val (.int (Int32.ofNat f)), .val (.int (Int32.ofNat a)), .val (.int (Int32.ofNat (own_home (own_K ks a)))), .val (.int (0 : Int32))] [(.long (own_K ks a)), (.int (Int32.ofNat f)), (.ref bk)])) rfl rfl (hb hby d8_155)
          have K175 : Keep h0 h174 [bk, bp] := (Keep.refl h0 [bk, bp]).wr W174 (Or.inl (List.mem_of_getElem? (i := 0) rfl))
          have N174 := Fr.snoc X174 N112 g2
          have V174 : Arv Z h174 bk kk .long (16 : Int32) ((ks.set f (own_K ks a)).map Value.long) (.long (0 : Int64)) := by rw [List.map_set]; exact Arv.set Ar174 q174 S174 Ng174 H174 G174 rfl W174 f (own_cl hf) (by rw [List.length_map, hlk]; exact hf)
          have p176 : Go p.tables e below _ (T174.setTop (mkF m 157 #[.val (.ref a1), .val (.long q2), .second, .val (.int (Int32.ofNat i)), .val (.int (Int32.ofNat f)), .val (.int (Int32.ofNat a)), .val (.int (Int32.ofNat (own_home (own_K ks a)))), .val (.int (0 : Int32))] [(.ref a1)])) := fun t_ k_ => (gc p173 st174) t_ (by
            refine XS.aloadN X174.here hx rfl (hb hby d8_156) rfl rfl ?_
            exact k_)
          have f177 := (F2.other W174 (Or.inl ne1))
          obtain ⟨T178, X178, e178, st178⟩ := getF X174 hx hZ hown (host := "") (Or.inl (own_w hw 23 rfl)) Via.refl e174 f177 (g := (mkF m 157 #[.val (.ref a1), .val (.long q2), .second, .val (.int (Int32.ofNat i)), .val (.int (Int32.ofNat f)), .val (.int (Int32.ofNat a)), .val (.int (Int32.ofNat (own_home (own_K ks a)))), .val (.int (0 : Int32))] [(.ref a1)])) rfl rfl (hb hby d8_157)
          have p179 : Go p.tables e below _ (T178.setTop (mkF m 163 #[.val (.ref a1), .val (.long q2), .second, .val (.int (Int32.ofNat i)), .val (.int (Int32.ofNat f)), .val (.int (Int32.ofNat a)), .val (.int (Int32.ofNat (own_home (own_K ks a)))), .val (.int (0 : Int32))] [(.ref a1), (.int (Int32.ofNat f)), (.ref bp)])) := fun t_ k_ => (gc p176 st178) t_ (by
            refine XS.iload X178.here hx rfl (hb hby d8_160) rfl ?_
            refine XS.aloadN X178.here hx rfl (hb hby d8_162) rfl rfl ?_
            exact k_)
          obtain ⟨T180, X180, e180, st180⟩ := getF X178 hx hZ hown (host := "") (Or.inl (own_w hw 23 rfl)) Via.refl e178 f177 (g := (mkF m 163 #[.val (.ref a1), .val (.long q2), .second, .val (.int (Int32.ofNat i)), .val (.int (Int32.ofNat f)), .val (.int (Int32.ofNat a)), .val (.int (Int32.ofNat (own_home (own_K ks a)))), .val (.int (0 : Int32))] [(.ref a1), (.int (Int32.ofNat f)), (.ref bp)])) rfl rfl (hb hby d8_163)
          have p181 : Go p.tables e below _ (T180.setTop (mkF m 168 #[.val (.ref a1), .val (.long q2), .second, .val (.int (Int32.ofNat i)), .val (.int (Int32.ofNat f)), .val (.int (Int32.ofNat a)), .val (.int (Int32.ofNat (own_home (own_K ks a)))), .val (.int (0 : Int32))] [(.int (Int32.ofNat a)), (.ref bp), (.int (Int32.ofNat f)), (.ref bp)])) := fun t_ k_ => (gc p179 st180) t_ (by
            refine XS.iload X180.here hx rfl (hb hby d8_166) rfl ?_
            exact k_)
          have f183 := (V2.other W174 (Ne.symm ne3))
          obtain ⟨cl182, Ar182, q182, S182, Ng182, H182, G182⟩ := id f183
          have hin182 := inb_of S182 (j := (Int32.ofNat a)) (own_ib ha)
          have hat182 := H182.at (v := (.int (own_P ps a))) hin182 (own_rdP ps ha)
          have p184 : Go p.tables e below _ (T180.setTop (mkF m 169 #[.val (.ref a1), .val (.long q2), .second, .val (.int (Int32.ofNat i)), .val (.int (Int32.ofNat f)), .val (.int (Int32.ofNat a)), .val (.int (Int32.ofNat (own_home (own_K ks a)))), .val (.int (0 : Int32))] [(.int (own_P ps a)), (.int (Int32.ofNat f)), (.ref bp)])) := fun t_ k_ => p181 t_ (by
            refine X180.iaload hx (j := (Int32.ofNat a)) (v := (.int (own_P ps a))) (by rw [e180]; exact Ar182.1) (State.isArrayOf_alike hZ.alike Ar182.2.1) Ar182.2.2 hin182 hat182 (g := (mkF m 168 #[.val (.ref a1), .val (.long q2), .second, .val (.int (Int32.ofNat i)), .val (.int (Int32.ofNat f)), .val (.int (Int32.ofNat a)), .val (.int (Int32.ofNat (own_home (own_K ks a)))), .val (.int (0 : Int32))] [(.int (Int32.ofNat a)), (.ref bp), (.int (Int32.ofNat f)), (.ref bp)])) rfl rfl (hb hby d8_168) _ ?_
            exact k_)
          obtain ⟨cl185, Ar185, q185, S185, Ng185, H185, G185⟩ := id f183
          have hin185 := inb_of S185 (j := (Int32.ofNat f)) (own_ib hf)
          obtain ⟨T185, h185, X185, e185, W185, st185⟩ := stI X180 hx hZ e180 Ar185 (j := (Int32.ofNat f)) hin185 (g := (mkF m 169 #[.val (.ref a1), .val (.long q2), .second, .val (.int (Int32.ofNat i)), .val (.int (Int32.ofNat f)), .val (.int (Int32.ofNat a)), .val (.int (Int32.ofNat (own_home (own_K ks a)))), .val (.int (0 : Int32))] [(.int (own_P ps a)), (.int (Int32.ofNat f)), (.ref bp)])) rfl rfl (hb hby d8_169)
          have K186 : Keep h0 h185 [bk, bp] := K175.wr W185 (Or.inl (List.mem_of_getElem? (i := 1) rfl))
          have N185 := Fr.snoc X185 N174 g3
          have V185 : Arv Z h185 bp kp .int (16 : Int32) ((ps.set f (own_P ps a)).map Value.int) (.int (0 : Int32)) := by rw [List.map_set]; exact Arv.set Ar185 q185 S185 Ng185 H185 G185 rfl W185 f (own_cl hf) (by rw [List.length_map, hlp]; exact hf)
          have p187 : Go p.tables e below _ (T185.setTop (mkF m 177 #[.val (.ref a1), .val (.long q2), .second, .val (.int (Int32.ofNat i)), .val (.int (Int32.ofNat a)), .val (.int (Int32.ofNat a)), .val (.int (Int32.ofNat (own_home (own_K ks a)))), .val (.int (0 : Int32))] [(.int (Int32.ofNat a)), (.ref a1)])) := fun t_ k_ => (gc p184 st185) t_ (by
            refine XS.iload X185.here hx rfl (hb hby d8_170) rfl ?_
            refine XS.istore X185.here hx rfl (hb hby d8_172) rfl (l' := #[.val (.ref a1), .val (.long q2), .second, .val (.int (Int32.ofNat i)), .val (.int (Int32.ofNat a)), .val (.int (Int32.ofNat a)), .val (.int (Int32.ofNat (own_home (own_K ks a)))), .val (.int (0 : Int32))]) rfl ?_
            refine XS.aloadN X185.here hx rfl (hb hby d8_174) rfl rfl ?_
            refine XS.iload X185.here hx rfl (hb hby d8_175) rfl ?_
            exact k_)
          have f188 := ((F1.other W174 (Or.inl ne1)).other W185 (Or.inl ne2))
          have f189 := (V174.other W185 ne3)
          have f191 := ((E1.wr W174).wr W185)
          obtain ⟨cq190, q190, q190'⟩ := f191.cell
          obtain ⟨_, _, ⟨T190, L190, k190, n190⟩, -, X190, ⟨Lc190, hQ190, l190, y190, z190⟩, st190⟩ := X185.privateBack hx (y := (⟨"com/example/subsume/subsume/reasoner/Positions", "next", "(I)I"⟩ : MethodName)) hown (mvT hZ (own_w hw 56 rfl)) (mvT hZ (own_w hw 57 rfl)) (selPriv (mvT hZ (own_w hw 28 rfl)) rfl (Cond.privateMethod_at (mvP hZ (own_w hw 58 rfl) (args := #[]))) (mvT hZ (own_w hw 57 rfl)) (by decide)) (Cond.privateMethod_at (mvP hZ (own_w hw 58 rfl) (args := #[]))) (mvT hZ (own_w hw 59 rfl)) (by decide) (backOf (W := 0) (rm11 l Z a0 hw [] a1 a bk kk (ks.set f (own_K ks a)) h185 n0 (Nat.le_trans Z0 K186.1) f188 f189 ha) hZ (own_w hw 59 rfl) (own_w hw 4 rfl) (by decide) (by decide)) (g := (mkF m 177 #[.val (.ref a1), .val (.long q2), .second, .val (.int (Int32.ofNat i)), .val (.int (Int32.ofNat a)), .val (.int (Int32.ofNat a)), .val (.int (Int32.ofNat (own_home (own_K ks a)))), .val (.int (0 : Int32))] [(.int (Int32.ofNat a)), (.ref a1)])) rfl (by rw [hml]; rfl) (Steps.refl _) (a := a1) (by rw [e185]; exact q190) q190' (argsL := [(.int (Int32.ofNat a))]) (rest := []) (lenOf pd0 rfl) rfl (by show 2 * 0 + _ ≤ _; exact Nat.le_of_eq rfl) (hb hby d8_177) (fun _ _ => ⟨rfl, e185, (by decide : 0 + 0 ≤ _), (by decide : 0 + 0 ≤ _)⟩)
          dsimp only [Pt.U, Pt.locs, Pt.cells, Pt.slots] at X190 l190 y190 z190 st190 hQ190
          subst l190 y190 z190
          obtain ⟨rfl, N190q, q190_hh⟩ := hQ190
          have N190 := Fr.app N185 N190q
          have p192 : Go p.tables e below _ (T190.setTop (mkF m 60 #[.val (.ref a1), .val (.long q2), .second, .val (.int (Int32.ofNat i)), .val (.int (Int32.ofNat a)), .val (.int (Int32.ofNat ((a + 1) % 16))), .val (.int (Int32.ofNat (own_home (own_K ks a)))), .val (.int (0 : Int32))] [])) := fun t_ k_ => (gcT p187 st190) t_ (by
            refine XS.istore X190.here hx rfl (hb hby d8_180) rfl (l' := #[.val (.ref a1), .val (.long q2), .second, .val (.int (Int32.ofNat i)), .val (.int (Int32.ofNat a)), .val (.int (Int32.ofNat ((a + 1) % 16))), .val (.int (Int32.ofNat (own_home (own_K ks a)))), .val (.int (0 : Int32))]) rfl ?_
            refine XS.goto X190.here hx rfl (pc0 := 182) (pc' := 60) rfl (hb hby d8_182) (by decide) (by decide) ?_
            exact k_)
          have hh := own_home_lt (own_K ks a)
          rw [own_lt16 ha hf] at c114
          rw [own_lt16 hf hh] at c162
          rw [own_lt16 ha hh] at c165
          have hb : ¬ own_btw f (own_home (own_K ks a)) a := by unfold own_btw own_d; omega
          have e1 : own_rsk own_home ks f a = (ks.set f (own_K ks a)) := by simp [own_rsk, hb]
          have e2 : own_rsp own_home ks ps f a = (ps.set f (own_P ps a)) := by simp [own_rsp, hb]
          have e3 : own_rsf own_home ks f a = a := by simp [own_rsf, hb]
          have hk2 := hok.2
          rw [e1, e3] at hk2
          have f194 := (f177.other W185 (Or.inl ne2))
          obtain ⟨T', h', lc', f', a', s6', s7', X', e', N', K', F1', F2', E1', V1', V2', g'⟩ := ih (ks.set f (own_K ks a)) (ps.set f (own_P ps a)) a ((a + 1) % 16) (.val (.int (Int32.ofNat (own_home (own_K ks a))))) (.val (.int (0 : Int32))) T190 h185 _ X190 q190_hh (Nat.le_trans Z0 K186.1) N190 f188 f194 f191 f189 V185 (by simp [hlk]) (by simp [hlp]) ha (Nat.mod_lt _ (by omega)) (One.val rfl) (One.val rfl) hk2
          simp only [own_rm, e1, e2, e3]
          exact ⟨T', h', lc', f', a', s6', s7', X', e', N', K186.trans K' (allS (Or.inl (List.mem_of_getElem? (i := 0) rfl)) (allS (Or.inl (List.mem_of_getElem? (i := 1) rfl)) all0)), F1', F2', E1', V1', V2', fun t_ k_ => p192 t_ (g' t_ k_)⟩
        · have p195 : Go p.tables e below _ (T112.setTop (mkF m 108 #[.val (.ref a1), .val (.long q2), .second, .val (.int (Int32.ofNat i)), .val (.int (Int32.ofNat f)), .val (.int (Int32.ofNat a)), .val (.int (Int32.ofNat (own_home (own_K ks a)))), s7] [])) := fun t_ k_ => p164 t_ (by
            refine XS.icmpNo X112.here hx rfl (hb hby d8_105) rfl (flt c165).2.2.1 ?_
            exact k_)
          have p196 : Go p.tables e below _ (T112.setTop (mkF m 177 #[.val (.ref a1), .val (.long q2), .second, .val (.int (Int32.ofNat i)), .val (.int (Int32.ofNat f)), .val (.int (Int32.ofNat a)), .val (.int (Int32.ofNat (own_home (own_K ks a)))), .val (.int (1 : Int32))] [(.int (Int32.ofNat a)), (.ref a1)])) := fun t_ k_ => p195 t_ (by
            refine XS.iconst X112.here hx rfl (hb hby d8_108) ?_
            refine XS.goto X112.here hx rfl (pc0 := 109) (pc' := 135) rfl (hb hby d8_109) (by decide) (by decide) ?_
            refine XS.istoreS X112.here hx rfl (hb hby d8_135) rfl rfl o7 ?_
            refine XS.iload X112.here hx rfl (hb hby d8_137) rfl ?_
            refine XS.ifYes X112.here hx rfl (pc0 := 139) (pc' := 174) rfl (hb hby d8_139) rfl ((if0 _ _).trans (feq (by decide : ¬ ((1 : Int32) = (0 : Int32)))).2) (by decide) (by decide) ?_
            refine XS.aloadN X112.here hx rfl (hb hby d8_174) rfl rfl ?_
            refine XS.iload X112.here hx rfl (hb hby d8_175) rfl ?_
            exact k_)
          obtain ⟨cq197, q197, q197'⟩ := E1.cell
          obtain ⟨_, _, ⟨T197, L197, k197, n197⟩, -, X197, ⟨Lc197, hQ197, l197, y197, z197⟩, st197⟩ := X112.privateBack hx (y := (⟨"com/example/subsume/subsume/reasoner/Positions", "next", "(I)I"⟩ : MethodName)) hown (mvT hZ (own_w hw 56 rfl)) (mvT hZ (own_w hw 57 rfl)) (selPriv (mvT hZ (own_w hw 28 rfl)) rfl (Cond.privateMethod_at (mvP hZ (own_w hw 58 rfl) (args := #[]))) (mvT hZ (own_w hw 57 rfl)) (by decide)) (Cond.privateMethod_at (mvP hZ (own_w hw 58 rfl) (args := #[]))) (mvT hZ (own_w hw 59 rfl)) (by decide) (backOf (W := 0) (rm11 l Z a0 hw [] a1 a bk kk ks h0 n0 (Nat.le_trans Z0 (Keep.refl h0 [bk, bp]).1) F1 V1 ha) hZ (own_w hw 59 rfl) (own_w hw 4 rfl) (by decide) (by decide)) (g := (mkF m 177 #[.val (.ref a1), .val (.long q2), .second, .val (.int (Int32.ofNat i)), .val (.int (Int32.ofNat f)), .val (.int (Int32.ofNat a)), .val (.int (Int32.ofNat (own_home (own_K ks a)))), .val (.int (1 : Int32))] [(.int (Int32.ofNat a)), (.ref a1)])) rfl (by rw [hml]; rfl) (Steps.refl _) (a := a1) (by rw [q112_hh]; exact q197) q197' (argsL := [(.int (Int32.ofNat a))]) (rest := []) (lenOf pd0 rfl) rfl (by show 2 * 0 + _ ≤ _; exact Nat.le_of_eq rfl) (hb hby d8_177) (fun _ _ => ⟨rfl, q112_hh, (by decide : 0 + 0 ≤ _), (by decide : 0 + 0 ≤ _)⟩)
          dsimp only [Pt.U, Pt.locs, Pt.cells, Pt.slots] at X197 l197 y197 z197 st197 hQ197
          subst l197 y197 z197
          obtain ⟨rfl, N197q, q197_hh⟩ := hQ197
          have N197 := Fr.app N112 N197q
          have p198 : Go p.tables e below _ (T197.setTop (mkF m 60 #[.val (.ref a1), .val (.long q2), .second, .val (.int (Int32.ofNat i)), .val (.int (Int32.ofNat f)), .val (.int (Int32.ofNat ((a + 1) % 16))), .val (.int (Int32.ofNat (own_home (own_K ks a)))), .val (.int (1 : Int32))] [])) := fun t_ k_ => (gcT p196 st197) t_ (by
            refine XS.istore X197.here hx rfl (hb hby d8_180) rfl (l' := #[.val (.ref a1), .val (.long q2), .second, .val (.int (Int32.ofNat i)), .val (.int (Int32.ofNat f)), .val (.int (Int32.ofNat ((a + 1) % 16))), .val (.int (Int32.ofNat (own_home (own_K ks a)))), .val (.int (1 : Int32))]) rfl ?_
            refine XS.goto X197.here hx rfl (pc0 := 182) (pc' := 60) rfl (hb hby d8_182) (by decide) (by decide) ?_
            exact k_)
          have hh := own_home_lt (own_K ks a)
          rw [own_lt16 ha hf] at c114
          rw [own_lt16 hf hh] at c162
          rw [own_lt16 ha hh] at c165
          have hb : own_btw f (own_home (own_K ks a)) a := by unfold own_btw own_d; omega
          have e1 : own_rsk own_home ks f a = ks := by simp [own_rsk, hb]
          have e2 : own_rsp own_home ks ps f a = ps := by simp [own_rsp, hb]
          have e3 : own_rsf own_home ks f a = f := by simp [own_rsf, hb]
          have hk2 := hok.2
          rw [e1, e3] at hk2
          obtain ⟨T', h', lc', f', a', s6', s7', X', e', N', K', F1', F2', E1', V1', V2', g'⟩ := ih ks ps f ((a + 1) % 16) (.val (.int (Int32.ofNat (own_home (own_K ks a))))) (.val (.int (1 : Int32))) T197 h0 _ X197 q197_hh (Nat.le_trans Z0 (Keep.refl h0 [bk, bp]).1) N197 F1 F2 E1 V1 V2 (by simp [hlk]) (by simp [hlp]) hf (Nat.mod_lt _ (by omega)) (One.val rfl) (One.val rfl) hk2
          simp only [own_rm, e1, e2, e3]
          exact ⟨T', h', lc', f', a', s6', s7', X', e', N', (Keep.refl h0 [bk, bp]).trans K' (allS (Or.inl (List.mem_of_getElem? (i := 0) rfl)) (allS (Or.inl (List.mem_of_getElem? (i := 1) rfl)) all0)), F1', F2', E1', V1', V2', fun t_ k_ => p198 t_ (g' t_ k_)⟩
      · have p200 : Go p.tables e below _ (T112.setTop (mkF m 112 #[.val (.ref a1), .val (.long q2), .second, .val (.int (Int32.ofNat i)), .val (.int (Int32.ofNat f)), .val (.int (Int32.ofNat a)), .val (.int (Int32.ofNat (own_home (own_K ks a)))), s7] [])) := fun t_ k_ => p161 t_ (by
          refine XS.icmpYes X112.here hx rfl (pc0 := 98) (pc' := 112) rfl (hb hby d8_98) rfl (flt c162).2.1 (by decide) (by decide) ?_
          exact k_)
        have p201 : Go p.tables e below _ (T112.setTop (mkF m 143 #[.val (.ref a1), .val (.long q2), .second, .val (.int (Int32.ofNat i)), .val (.int (Int32.ofNat f)), .val (.int (Int32.ofNat a)), .val (.int (Int32.ofNat (own_home (own_K ks a)))), .val (.int (0 : Int32))] [(.ref a1)])) := fun t_ k_ => p200 t_ (by
          refine XS.iconst X112.here hx rfl (hb hby d8_112) ?_
          refine XS.goto X112.here hx rfl (pc0 := 113) (pc' := 135) rfl (hb hby d8_113) (by decide) (by decide) ?_
          refine XS.istoreS X112.here hx rfl (hb hby d8_135) rfl rfl o7 ?_
          refine XS.iload X112.here hx rfl (hb hby d8_137) rfl ?_
          refine XS.ifNo X112.here hx rfl (hb hby d8_139) rfl ((if0 _ _).trans (teq (by decide : ((0 : Int32) = (0 : Int32)))).2) ?_
          refine XS.aloadN X112.here hx rfl (hb hby d8_142) rfl rfl ?_
          exact k_)
        obtain ⟨T202, X202, e202, st202⟩ := getF X112 hx hZ hown (host := "") (Or.inl (own_w hw 20 rfl)) Via.refl q112_hh F1 (g := (mkF m 143 #[.val (.ref a1), .val (.long q2), .second, .val (.int (Int32.ofNat i)), .val (.int (Int32.ofNat f)), .val (.int (Int32.ofNat a)), .val (.int (Int32.ofNat (own_home (own_K ks a)))), .val (.int (0 : Int32))] [(.ref a1)])) rfl rfl (hb hby d8_143)
        have p203 : Go p.tables e below _ (T202.setTop (mkF m 149 #[.val (.ref a1), .val (.long q2), .second, .val (.int (Int32.ofNat i)), .val (.int (Int32.ofNat f)), .val (.int (Int32.ofNat a)), .val (.int (Int32.ofNat (own_home (own_K ks a)))), .val (.int (0 : Int32))] [(.ref a1), (.int (Int32.ofNat f)), (.ref bk)])) := fun t_ k_ => (gc p201 st202) t_ (by
          refine XS.iload X202.here hx rfl (hb hby d8_146) rfl ?_
          refine XS.aloadN X202.here hx rfl (hb hby d8_148) rfl rfl ?_
          exact k_)
        obtain ⟨T204, X204, e204, st204⟩ := getF X202 hx hZ hown (host := "") (Or.inl (own_w hw 20 rfl)) Via.refl e202 F1 (g := (mkF m 149 #[.val (.ref a1), .val (.long q2), .second, .val (.int (Int32.ofNat i)), .val (.int (Int32.ofNat f)), .val (.int (Int32.ofNat a)), .val (.int (Int32.ofNat (own_home (own_K ks a)))), .val (.int (0 : Int32))] [(.ref a1), (.int (Int32.ofNat f)), (.ref bk)])) rfl rfl (hb hby d8_149)
        have p205 : Go p.tables e below _ (T204.setTop (mkF m 154 #[.val (.ref a1), .val (.long q2), .second, .val (.int (Int32.ofNat i)), .val (.int (Int32.ofNat f)), .val (.int (Int32.ofNat a)), .val (.int (Int32.ofNat (own_home (own_K ks a)))), .val (.int (0 : Int32))] [(.int (Int32.ofNat a)), (.ref bk), (.int (Int32.ofNat f)), (.ref bk)])) := fun t_ k_ => (gc p203 st204) t_ (by
          refine XS.iload X204.here hx rfl (hb hby d8_152) rfl ?_
          exact k_)
        obtain ⟨cl206, Ar206, q206, S206, Ng206, H206, G206⟩ := id V1
        have hin206 := inb_of S206 (j := (Int32.ofNat a)) (own_ib ha)
        have hat206 := H206.at (v := (.long (own_K ks a))) hin206 (own_rdK ks ha)
        have p207 : Go p.tables e below _ (T204.setTop (mkF m 155 #[.val (.ref a1), .val (.long q2), .second, .val (.int (Int32.ofNat i)), .val (.int (Int32.ofNat f)), .val (.int (Int32.ofNat a)), .val (.int (Int32.ofNat (own_home (own_K ks a)))), .val (.int (0 : Int32))] [(.long (own_K ks a)), (.int (Int32.ofNat f)), (.ref bk)])) := fun t_ k_ => p205 t_ (by
          refine X204.laload hx (j := (Int32.ofNat a)) (v := (.long (own_K ks a))) (by rw [e204]; exact Ar206.1) (State.isArrayOf_alike hZ.alike Ar206.2.1) Ar206.2.2 hin206 hat206 (g := (mkF m 154 #[.val (.ref a1), .val (.long q2), .second, .val (.int (Int32.ofNat i)), .val (.int (Int32.ofNat f)), .val (.int (Int32.ofNat a)), .val (.int (Int32.ofNat (own_home (own_K ks a)))), .val (.int (0 : Int32))] [(.int (Int32.ofNat a)), (.ref bk), (.int (Int32.ofNat f)), (.ref bk)])) rfl rfl (hb hby d8_154) _ ?_
          exact k_)
        obtain ⟨cl208, Ar208, q208, S208, Ng208, H208, G208⟩ := id V1
        have hin208 := inb_of S208 (j := (Int32.ofNat f)) (own_ib hf)
        obtain ⟨T208, h208, X208, e208, W208, st208⟩ := stJ X204 hx hZ e204 Ar208 (j := (Int32.ofNat f)) hin208 (g := (mkF m 155 #[.val (.ref a1), .val (.long q2), .second, .val (.int (Int32.ofNat i)), .val (.int (Int32.ofNat f)), .val (.int (Int32.ofNat a)), .val (.int (Int32.ofNat (own_home (own_K ks a)))), .val (.int (0 : Int32))] [(.long (own_K ks a)), (.int (Int32.ofNat f)), (.ref bk)])) rfl rfl (hb hby d8_155)
        have K209 : Keep h0 h208 [bk, bp] := (Keep.refl h0 [bk, bp]).wr W208 (Or.inl (List.mem_of_getElem? (i := 0) rfl))
        have N208 := Fr.snoc X208 N112 g2
        have V208 : Arv Z h208 bk kk .long (16 : Int32) ((ks.set f (own_K ks a)).map Value.long) (.long (0 : Int64)) := by rw [List.map_set]; exact Arv.set Ar208 q208 S208 Ng208 H208 G208 rfl W208 f (own_cl hf) (by rw [List.length_map, hlk]; exact hf)
        have p210 : Go p.tables e below _ (T208.setTop (mkF m 157 #[.val (.ref a1), .val (.long q2), .second, .val (.int (Int32.ofNat i)), .val (.int (Int32.ofNat f)), .val (.int (Int32.ofNat a)), .val (.int (Int32.ofNat (own_home (own_K ks a)))), .val (.int (0 : Int32))] [(.ref a1)])) := fun t_ k_ => (gc p207 st208) t_ (by
          refine XS.aloadN X208.here hx rfl (hb hby d8_156) rfl rfl ?_
          exact k_)
        have f211 := (F2.other W208 (Or.inl ne1))
        obtain ⟨T212, X212, e212, st212⟩ := getF X208 hx hZ hown (host := "") (Or.inl (own_w hw 23 rfl)) Via.refl e208 f211 (g := (mkF m 157 #[.val (.ref a1), .val (.long q2), .second, .val (.int (Int32.ofNat i)), .val (.int (Int32.ofNat f)), .val (.int (Int32.ofNat a)), .val (.int (Int32.ofNat (own_home (own_K ks a)))), .val (.int (0 : Int32))] [(.ref a1)])) rfl rfl (hb hby d8_157)
        have p213 : Go p.tables e below _ (T212.setTop (mkF m 163 #[.val (.ref a1), .val (.long q2), .second, .val (.int (Int32.ofNat i)), .val (.int (Int32.ofNat f)), .val (.int (Int32.ofNat a)), .val (.int (Int32.ofNat (own_home (own_K ks a)))), .val (.int (0 : Int32))] [(.ref a1), (.int (Int32.ofNat f)), (.ref bp)])) := fun t_ k_ => (gc p210 st212) t_ (by
          refine XS.iload X212.here hx rfl (hb hby d8_160) rfl ?_
          refine XS.aloadN X212.here hx rfl (hb hby d8_162) rfl rfl ?_
          exact k_)
        obtain ⟨T214, X214, e214, st214⟩ := getF X212 hx hZ hown (host := "") (Or.inl (own_w hw 23 rfl)) Via.refl e212 f211 (g := (mkF m 163 #[.val (.ref a1), .val (.long q2), .second, .val (.int (Int32.ofNat i)), .val (.int (Int32.ofNat f)), .val (.int (Int32.ofNat a)), .val (.int (Int32.ofNat (own_home (own_K ks a)))), .val (.int (0 : Int32))] [(.ref a1), (.int (Int32.ofNat f)), (.ref bp)])) rfl rfl (hb hby d8_163)
        have p215 : Go p.tables e below _ (T214.setTop (mkF m 168 #[.val (.ref a1), .val (.long q2), .second, .val (.int (Int32.ofNat i)), .val (.int (Int32.ofNat f)), .val (.int (Int32.ofNat a)), .val (.int (Int32.ofNat (own_home (own_K ks a)))), .val (.int (0 : Int32))] [(.int (Int32.ofNat a)), (.ref bp), (.int (Int32.ofNat f)), (.ref bp)])) := fun t_ k_ => (gc p213 st214) t_ (by
          refine XS.iload X214.here hx rfl (hb hby d8_166) rfl ?_
          exact k_)
        have f217 := (V2.other W208 (Ne.symm ne3))
        obtain ⟨cl216, Ar216, q216, S216, Ng216, H216, G216⟩ := id f217
        have hin216 := inb_of S216 (j := (Int32.ofNat a)) (own_ib ha)
        have hat216 := H216.at (v := (.int (own_P ps a))) hin216 (own_rdP ps ha)
        have p218 : Go p.tables e below _ (T214.setTop (mkF m 169 #[.val (.ref a1), .val (.long q2), .second, .val (.int (Int32.ofNat i)), .val (.int (Int32.ofNat f)), .val (.int (Int32.ofNat a)), .val (.int (Int32.ofNat (own_home (own_K ks a)))), .val (.int (0 : Int32))] [(.int (own_P ps a)), (.int (Int32.ofNat f)), (.ref bp)])) := fun t_ k_ => p215 t_ (by
          refine X214.iaload hx (j := (Int32.ofNat a)) (v := (.int (own_P ps a))) (by rw [e214]; exact Ar216.1) (State.isArrayOf_alike hZ.alike Ar216.2.1) Ar216.2.2 hin216 hat216 (g := (mkF m 168 #[.val (.ref a1), .val (.long q2), .second, .val (.int (Int32.ofNat i)), .val (.int (Int32.ofNat f)), .val (.int (Int32.ofNat a)), .val (.int (Int32.ofNat (own_home (own_K ks a)))), .val (.int (0 : Int32))] [(.int (Int32.ofNat a)), (.ref bp), (.int (Int32.ofNat f)), (.ref bp)])) rfl rfl (hb hby d8_168) _ ?_
          exact k_)
        obtain ⟨cl219, Ar219, q219, S219, Ng219, H219, G219⟩ := id f217
        have hin219 := inb_of S219 (j := (Int32.ofNat f)) (own_ib hf)
        obtain ⟨T219, h219, X219, e219, W219, st219⟩ := stI X214 hx hZ e214 Ar219 (j := (Int32.ofNat f)) hin219 (g := (mkF m 169 #[.val (.ref a1), .val (.long q2), .second, .val (.int (Int32.ofNat i)), .val (.int (Int32.ofNat f)), .val (.int (Int32.ofNat a)), .val (.int (Int32.ofNat (own_home (own_K ks a)))), .val (.int (0 : Int32))] [(.int (own_P ps a)), (.int (Int32.ofNat f)), (.ref bp)])) rfl rfl (hb hby d8_169)
        have K220 : Keep h0 h219 [bk, bp] := K209.wr W219 (Or.inl (List.mem_of_getElem? (i := 1) rfl))
        have N219 := Fr.snoc X219 N208 g3
        have V219 : Arv Z h219 bp kp .int (16 : Int32) ((ps.set f (own_P ps a)).map Value.int) (.int (0 : Int32)) := by rw [List.map_set]; exact Arv.set Ar219 q219 S219 Ng219 H219 G219 rfl W219 f (own_cl hf) (by rw [List.length_map, hlp]; exact hf)
        have p221 : Go p.tables e below _ (T219.setTop (mkF m 177 #[.val (.ref a1), .val (.long q2), .second, .val (.int (Int32.ofNat i)), .val (.int (Int32.ofNat a)), .val (.int (Int32.ofNat a)), .val (.int (Int32.ofNat (own_home (own_K ks a)))), .val (.int (0 : Int32))] [(.int (Int32.ofNat a)), (.ref a1)])) := fun t_ k_ => (gc p218 st219) t_ (by
          refine XS.iload X219.here hx rfl (hb hby d8_170) rfl ?_
          refine XS.istore X219.here hx rfl (hb hby d8_172) rfl (l' := #[.val (.ref a1), .val (.long q2), .second, .val (.int (Int32.ofNat i)), .val (.int (Int32.ofNat a)), .val (.int (Int32.ofNat a)), .val (.int (Int32.ofNat (own_home (own_K ks a)))), .val (.int (0 : Int32))]) rfl ?_
          refine XS.aloadN X219.here hx rfl (hb hby d8_174) rfl rfl ?_
          refine XS.iload X219.here hx rfl (hb hby d8_175) rfl ?_
          exact k_)
        have f222 := ((F1.other W208 (Or.inl ne1)).other W219 (Or.inl ne2))
        have f223 := (V208.other W219 ne3)
        have f225 := ((E1.wr W208).wr W219)
        obtain ⟨cq224, q224, q224'⟩ := f225.cell
        obtain ⟨_, _, ⟨T224, L224, k224, n224⟩, -, X224, ⟨Lc224, hQ224, l224, y224, z224⟩, st224⟩ := X219.privateBack hx (y := (⟨"com/example/subsume/subsume/reasoner/Positions", "next", "(I)I"⟩ : MethodName)) hown (mvT hZ (own_w hw 56 rfl)) (mvT hZ (own_w hw 57 rfl)) (selPriv (mvT hZ (own_w hw 28 rfl)) rfl (Cond.privateMethod_at (mvP hZ (own_w hw 58 rfl) (args := #[]))) (mvT hZ (own_w hw 57 rfl)) (by decide)) (Cond.privateMethod_at (mvP hZ (own_w hw 58 rfl) (args := #[]))) (mvT hZ (own_w hw 59 rfl)) (by decide) (backOf (W := 0) (rm11 l Z a0 hw [] a1 a bk kk (ks.set f (own_K ks a)) h219 n0 (Nat.le_trans Z0 K220.1) f222 f223 ha) hZ (own_w hw 59 rfl) (own_w hw 4 rfl) (by decide) (by decide)) (g := (mkF m 177 #[.val (.ref a1), .val (.long q2), .second, .val (.int (Int32.ofNat i)), .val (.int (Int32.ofNat a)), .val (.int (Int32.ofNat a)), .val (.int (Int32.ofNat (own_home (own_K ks a)))), .val (.int (0 : Int32))] [(.int (Int32.ofNat a)), (.ref a1)])) rfl (by rw [hml]; rfl) (Steps.refl _) (a := a1) (by rw [e219]; exact q224) q224' (argsL := [(.int (Int32.ofNat a))]) (rest := []) (lenOf pd0 rfl) rfl (by show 2 * 0 + _ ≤ _; exact Nat.le_of_eq rfl) (hb hby d8_177) (fun _ _ => ⟨rfl, e219, (by decide : 0 + 0 ≤ _), (by decide : 0 + 0 ≤ _)⟩)
        dsimp only [Pt.U, Pt.locs, Pt.cells, Pt.slots] at X224 l224 y224 z224 st224 hQ224
        subst l224 y224 z224
        obtain ⟨rfl, N224q, q224_hh⟩ := hQ224
        have N224 := Fr.app N219 N224q
        have p226 : Go p.tables e below _ (T224.setTop (mkF m 60 #[.val (.ref a1), .val (.long q2), .second, .val (.int (Int32.ofNat i)), .val (.int (Int32.ofNat a)), .val (.int (Int32.ofNat ((a + 1) % 16))), .val (.int (Int32.ofNat (own_home (own_K ks a)))), .val (.int (0 : Int32))] [])) := fun t_ k_ => (gcT p221 st224) t_ (by
          refine XS.istore X224.here hx rfl (hb hby d8_180) rfl (l' := #[.val (.ref a1), .val (.long q2), .second, .val (.int (Int32.ofNat i)), .val (.int (Int32.ofNat a)), .val (.int (Int32.ofNat ((a + 1) % 16))), .val (.int (Int32.ofNat (own_home (own_K ks a)))), .val (.int (0 : Int32))]) rfl ?_
          refine XS.goto X224.here hx rfl (pc0 := 182) (pc' := 60) rfl (hb hby d8_182) (by decide) (by decide) ?_
          exact k_)
        have hh := own_home_lt (own_K ks a)
        rw [own_lt16 ha hf] at c114
        rw [own_lt16 hf hh] at c162
        have hb : ¬ own_btw f (own_home (own_K ks a)) a := by unfold own_btw own_d; omega
        have e1 : own_rsk own_home ks f a = (ks.set f (own_K ks a)) := by simp [own_rsk, hb]
        have e2 : own_rsp own_home ks ps f a = (ps.set f (own_P ps a)) := by simp [own_rsp, hb]
        have e3 : own_rsf own_home ks f a = a := by simp [own_rsf, hb]
        have hk2 := hok.2
        rw [e1, e3] at hk2
        have f228 := (f211.other W219 (Or.inl ne2))
        obtain ⟨T', h', lc', f', a', s6', s7', X', e', N', K', F1', F2', E1', V1', V2', g'⟩ := ih (ks.set f (own_K ks a)) (ps.set f (own_P ps a)) a ((a + 1) % 16) (.val (.int (Int32.ofNat (own_home (own_K ks a))))) (.val (.int (0 : Int32))) T224 h219 _ X224 q224_hh (Nat.le_trans Z0 K220.1) N224 f222 f228 f225 f223 V219 (by simp [hlk]) (by simp [hlp]) ha (Nat.mod_lt _ (by omega)) (One.val rfl) (One.val rfl) hk2
        simp only [own_rm, e1, e2, e3]
        exact ⟨T', h', lc', f', a', s6', s7', X', e', N', K220.trans K' (allS (Or.inl (List.mem_of_getElem? (i := 0) rfl)) (allS (Or.inl (List.mem_of_getElem? (i := 1) rfl)) all0)), F1', F2', E1', V1', V2', fun t_ k_ => p226 t_ (g' t_ k_)⟩
theorem d8_40 : decode prog_46_method_5_code 40 = .ok (.aload_n 0, 1) := by decide +kernel
theorem d8_41 : decode prog_46_method_5_code 41 = .ok (.dup, 1) := by decide +kernel
theorem d8_42 : decode prog_46_method_5_code 42 = .ok (.getfield 34, 3) := by decide +kernel
theorem d8_45 : decode prog_46_method_5_code 45 = .ok (.iconst 1, 1) := by decide +kernel
theorem d8_46 : decode prog_46_method_5_code 46 = .ok (.isub, 1) := by decide +kernel
theorem d8_47 : decode prog_46_method_5_code 47 = .ok (.putfield 34, 3) := by decide +kernel
theorem d8_50 : decode prog_46_method_5_code 50 = .ok (.iload_n 3, 1) := by decide +kernel
theorem d8_51 : decode prog_46_method_5_code 51 = .ok (.istore 4, 2) := by decide +kernel
theorem d8_53 : decode prog_46_method_5_code 53 = .ok (.aload_n 0, 1) := by decide +kernel
theorem d8_54 : decode prog_46_method_5_code 54 = .ok (.iload_n 3, 1) := by decide +kernel
theorem d8_55 : decode prog_46_method_5_code 55 = .ok (.invokevirtual 27, 3) := by decide +kernel
theorem d8_58 : decode prog_46_method_5_code 58 = .ok (.istore 5, 2) := by decide +kernel
theorem d8_195 : decode prog_46_method_5_code 195 = .ok (.return_, 1) := by decide +kernel
theorem ef_rm8f (m : MethodId) (a1 : Addr) (q2 : Int64) (sz : Int32) (bk : Addr) (kk : ClassId) (ks : List Int64) (bp : Addr) (kp : ClassId) (ps : List Int32) (t : Nat) (n : Nat) : entryFrame m #[(.ref a1), (.long q2)] 8 = mkF m 0 #[.val (.ref a1), .val (.long q2), .second, .unset, .unset, .unset, .unset, .unset] [] := by first | (simp [entryFrame, mkF, argsToLocals, Value.category]; done) | rfl
def Q8f (Z : State) (a1 : Addr) (q2 : Int64) (sz : Int32) (bk : Addr) (kk : ClassId) (ks : List Int64) (bp : Addr) (kp : ClassId) (ps : List Int32) (t : Nat) (n : Nat) (h0 : Heap) (n0 : Nat) (v : Option Value) (h : Heap) (L : List Loc) : Prop := v = none ∧ Fr n0 L ∧ (Keep h0 h [a1, bk, bp]) ∧ (Fld Z h a1 "com/example/subsume/subsume/reasoner/Positions" "keys" "[J" (.ref bk)) ∧ (Fld Z h a1 "com/example/subsume/subsume/reasoner/Positions" "positions" "[I" (.ref bp)) ∧ (Exa Z h a1 "com/example/subsume/subsume/reasoner/Positions") ∧ (Arv Z h bk kk .long (16 : Int32) ((own_rm own_home n ks ps ((own_home q2 + t) % 16) ((((own_home q2 + t) % 16) + 1) % 16)).1.map Value.long) (.long (0 : Int64))) ∧ (Arv Z h bp kp .int (16 : Int32) ((own_rm own_home n ks ps ((own_home q2 + t) % 16) ((((own_home q2 + t) % 16) + 1) % 16)).2.map Value.int) (.int (0 : Int32)))
set_option maxRecDepth 65536 in
set_option maxHeartbeats 40000000 in
theorem rm8f (l : Launch) (Z : State) (a0 : Array Value) (hw : ∀ d ∈ tables_1, d.before a0 Z = true) (ws : List Jvm.Cond) (a1 : Addr) (q2 : Int64) (sz : Int32) (bk : Addr) (kk : ClassId) (ks : List Int64) (bp : Addr) (kp : ClassId) (ps : List Int32) (t : Nat) (n : Nat) (h0 : Heap) (n0 : Nat) (Z0 : n0 ≤ h0.size) (F1 : Fld Z h0 a1 "com/example/subsume/subsume/reasoner/Positions" "keys" "[J" (.ref bk)) (F2 : Fld Z h0 a1 "com/example/subsume/subsume/reasoner/Positions" "positions" "[I" (.ref bp)) (E1 : Exa Z h0 a1 "com/example/subsume/subsume/reasoner/Positions") (V1 : Arv Z h0 bk kk .long (16 : Int32) (ks.map Value.long) (.long (0 : Int64))) (V2 : Arv Z h0 bp kp .int (16 : Int32) (ps.map Value.int) (.int (0 : Int32))) (F3 : Fld Z h0 a1 "com/example/subsume/subsume/reasoner/Positions" "size" "I" (.int sz)) (ne1 : a1 ≠ bk) (ne2 : a1 ≠ bp) (ne3 : bk ≠ bp) (g1 : n0 ≤ a1) (g2 : n0 ≤ bk) (g3 : n0 ≤ bp) (hlk : ks.length = 16) (hlp : ps.length = 16) (hu : ∀ v, v < t → own_K ks ((own_home q2 + v) % 16) ≠ q2 ∧ own_K ks ((own_home q2 + v) % 16) ≠ -1) (hfd : own_K ks ((own_home q2 + t) % 16) = q2) (hok : own_ok own_home n ks ((own_home q2 + t) % 16) ((((own_home q2 + t) % 16) + 1) % 16)) :
    MetFree l (⟨"com/example/subsume/subsume/reasoner/Positions", "remove", "(J)V"⟩ : MethodName) (head1 (Jvm.Cond.code (⟨"com/example/subsume/subsume/reasoner/Positions", "remove", "(J)V"⟩ : MethodName) prog_46_method_5_code 8 none :: ws) ({ frames := 5, cells := 0, slots := 0, locals := 100 } : Room)) (fun a U => a = #[(.ref a1), (.long q2)] ∧ Z.Warmed39 U.vm ∧ U.heap = h0) (fun _ _ _ _ _ => True) (fun _ U o U' => ∃ v L, o = .returned v ∧ Q8f Z a1 q2 sz bk kk ks bp kp ps t n h0 n0 v U'.heap L ∧ FrameEnd U o U' L ({ frames := 5, cells := 0, slots := 0, locals := 100 } : Room).cells ({ frames := 5, cells := 0, slots := 0, locals := 100 } : Room).slots) := by
  refine MetFree.of_bodySF pn8 hisR ?_
  intro p e s m args below meth c s₁ Bd hml0 hP hK
  obtain ⟨rfl, hZ, hh⟩ := hP
  have hx := Bd.exec
  have hby := Bd.bytes
  have hml : c.maxLocals = 8 := hml0
  have hown : s.vm.findClass "com/example/subsume/subsume/reasoner/Positions" = some m.cls := findClass_of_methodNamed Bd.named
  have hnm := (name_of_methodNamed Bd.named Bd.method).1
  have X0 : Stand p l e ({ frames := 5, cells := 0, slots := 0, locals := 100 } : Room) s m #[(.ref a1), (.long q2)] below meth c s₁ [] 0 0 := Stand.of_body Bd
  have e0 : s₁.heap = h0 := by rw [← hh, Bd.state]; rfl
  have N0 := Fr.nil n0
  have p0 : Go p.tables e below (s₁.setTop (entryFrame m #[(.ref a1), (.long q2)] 8)) (s₁.setTop (mkF m 0 #[.val (.ref a1), .val (.long q2), .second, .unset, .unset, .unset, .unset, .unset] [])) := fun t_ k_ => castTop (ef_rm8f m a1 q2 sz bk kk ks bp kp ps t n) k_
  have p101 : Go p.tables e below _ (s₁.setTop (mkF m 2 #[.val (.ref a1), .val (.long q2), .second, .unset, .unset, .unset, .unset, .unset] [(.long q2), (.ref a1)])) := fun t_ k_ => p0 t_ (by
    refine XS.aloadN X0.here hx rfl (hb hby d8_0) rfl rfl ?_
    refine XS.lloadN X0.here hx rfl (hb hby d8_1) rfl ?_
    exact k_)
  obtain ⟨cq102, q102, q102'⟩ := E1.cell
  obtain ⟨_, _, ⟨T102, L102, k102, n102⟩, -, X102, ⟨Lc102, hQ102, l102, y102, z102⟩, st102⟩ := X0.privateBack hx (y := (⟨"com/example/subsume/subsume/reasoner/Positions", "slot", "(J)I"⟩ : MethodName)) hown (mvT hZ (own_w hw 32 rfl)) (mvT hZ (own_w hw 33 rfl)) (selPriv (mvT hZ (own_w hw 28 rfl)) rfl (Cond.privateMethod_at (mvP hZ (own_w hw 34 rfl) (args := #[]))) (mvT hZ (own_w hw 33 rfl)) (by decide)) (Cond.privateMethod_at (mvP hZ (own_w hw 34 rfl) (args := #[]))) (mvT hZ (own_w hw 35 rfl)) (by decide) (backOf (W := 0) (rm6 l Z a0 hw [] a1 q2 bk kk ks h0 n0 (Nat.le_trans Z0 (Keep.refl h0 [a1, bk, bp]).1) F1 V1) hZ (own_w hw 35 rfl) (own_w hw 4 rfl) (by decide) (by decide)) (g := (mkF m 2 #[.val (.ref a1), .val (.long q2), .second, .unset, .unset, .unset, .unset, .unset] [(.long q2), (.ref a1)])) rfl (by rw [hml]; rfl) (Steps.refl _) (a := a1) (by rw [e0]; exact q102) q102' (argsL := [(.long q2)]) (rest := []) (lenOf pd1 rfl) rfl (by show 2 * 0 + _ ≤ _; exact Nat.le_of_eq rfl) (hb hby d8_2) (fun _ _ => ⟨rfl, e0, (by decide : 0 + 0 ≤ _), (by decide : 0 + 0 ≤ _)⟩)
  dsimp only [Pt.U, Pt.locs, Pt.cells, Pt.slots] at X102 l102 y102 z102 st102 hQ102
  subst l102 y102 z102
  obtain ⟨rfl, N102q, q102_hh⟩ := hQ102
  have N102 := Fr.app N0 N102q
  have p103 : Go p.tables e below _ (T102.setTop (mkF m 6 #[.val (.ref a1), .val (.long q2), .second, .val (.int (Int32.ofNat (own_home q2))), .unset, .unset, .unset, .unset] [])) := fun t_ k_ => (gcT p101 st102) t_ (by
    refine XS.istoreN X102.here hx rfl (hb hby d8_5) rfl (l' := #[.val (.ref a1), .val (.long q2), .second, .val (.int (Int32.ofNat (own_home q2))), .unset, .unset, .unset, .unset]) rfl ?_
    exact k_)
  obtain ⟨T104, L104, X104, e104, N104, g104⟩ := lp8 Z a0 hx hZ hw hby hml hown a1 q2  bk kk ks h0 n0 (Nat.le_trans Z0 (Keep.refl h0 [a1, bk, bp]).1) F1 E1 V1 t (own_home q2) T102 _ X102 q102_hh N102 (own_home_lt q2) hu
  have p105 : Go p.tables e below _ (T104.setTop (mkF m 6 #[.val (.ref a1), .val (.long q2), .second, .val (.int (Int32.ofNat ((own_home q2 + t) % 16))), .unset, .unset, .unset, .unset] [])) := fun t_ k_ => p103 t_ (g104 t_ k_)
  have p106 : Go p.tables e below _ (T104.setTop (mkF m 7 #[.val (.ref a1), .val (.long q2), .second, .val (.int (Int32.ofNat ((own_home q2 + t) % 16))), .unset, .unset, .unset, .unset] [(.ref a1)])) := fun t_ k_ => p105 t_ (by
    refine XS.aloadN X104.here hx rfl (hb hby d8_6) rfl rfl ?_
    exact k_)
  obtain ⟨T107, X107, e107, st107⟩ := getF X104 hx hZ hown (host := "") (Or.inl (own_w hw 20 rfl)) Via.refl e104 F1 (g := (mkF m 7 #[.val (.ref a1), .val (.long q2), .second, .val (.int (Int32.ofNat ((own_home q2 + t) % 16))), .unset, .unset, .unset, .unset] [(.ref a1)])) rfl rfl (hb hby d8_7)
  have p108 : Go p.tables e below _ (T107.setTop (mkF m 11 #[.val (.ref a1), .val (.long q2), .second, .val (.int (Int32.ofNat ((own_home q2 + t) % 16))), .unset, .unset, .unset, .unset] [(.int (Int32.ofNat ((own_home q2 + t) % 16))), (.ref bk)])) := fun t_ k_ => (gc p106 st107) t_ (by
    refine XS.iloadN X107.here hx rfl (hb hby d8_10) rfl ?_
    exact k_)
  obtain ⟨cl109, Ar109, q109, S109, Ng109, H109, G109⟩ := id V1
  have hin109 := inb_of S109 (j := (Int32.ofNat ((own_home q2 + t) % 16))) (own_ib (Nat.mod_lt _ (by omega)))
  have hat109 := H109.at (v := (.long (own_K ks ((own_home q2 + t) % 16)))) hin109 (own_rdK ks (Nat.mod_lt _ (by omega)))
  have p110 : Go p.tables e below _ (T107.setTop (mkF m 14 #[.val (.ref a1), .val (.long q2), .second, .val (.int (Int32.ofNat ((own_home q2 + t) % 16))), .unset, .unset, .unset, .unset] [(.int (lcmpW (own_K ks ((own_home q2 + t) % 16)) q2))])) := fun t_ k_ => p108 t_ (by
    refine X107.laload hx (j := (Int32.ofNat ((own_home q2 + t) % 16))) (v := (.long (own_K ks ((own_home q2 + t) % 16)))) (by rw [e107]; exact Ar109.1) (State.isArrayOf_alike hZ.alike Ar109.2.1) Ar109.2.2 hin109 hat109 (g := (mkF m 11 #[.val (.ref a1), .val (.long q2), .second, .val (.int (Int32.ofNat ((own_home q2 + t) % 16))), .unset, .unset, .unset, .unset] [(.int (Int32.ofNat ((own_home q2 + t) % 16))), (.ref bk)])) rfl rfl (hb hby d8_11) _ ?_
    refine XS.lloadN X107.here hx rfl (hb hby d8_12) rfl ?_
    refine XS.lcmp X107.here hx rfl (hb hby d8_13) rfl ?_
    exact k_)
  have c111 : ((own_K ks ((own_home q2 + t) % 16)) = q2) := hfd
  have p112 : Go p.tables e below _ (T107.setTop (mkF m 42 #[.val (.ref a1), .val (.long q2), .second, .val (.int (Int32.ofNat ((own_home q2 + t) % 16))), .unset, .unset, .unset, .unset] [(.ref a1), (.ref a1)])) := fun t_ k_ => p110 t_ (by
    refine XS.ifYes X107.here hx rfl (pc0 := 14) (pc' := 40) rfl (hb hby d8_14) rfl ((if0 _ _).trans (teq ((lw_eq _ _).mpr c111)).1) (by decide) (by decide) ?_
    refine XS.aloadN X107.here hx rfl (hb hby d8_40) rfl rfl ?_
    refine XS.dup X107.here hx rfl (hb hby d8_41) rfl rfl ?_
    exact k_)
  obtain ⟨T113, X113, e113, st113⟩ := getF X107 hx hZ hown (host := "") (Or.inl (own_w hw 30 rfl)) Via.refl e107 F3 (g := (mkF m 42 #[.val (.ref a1), .val (.long q2), .second, .val (.int (Int32.ofNat ((own_home q2 + t) % 16))), .unset, .unset, .unset, .unset] [(.ref a1), (.ref a1)])) rfl rfl (hb hby d8_42)
  have p114 : Go p.tables e below _ (T113.setTop (mkF m 47 #[.val (.ref a1), .val (.long q2), .second, .val (.int (Int32.ofNat ((own_home q2 + t) % 16))), .unset, .unset, .unset, .unset] [(.int (sz - (1 : Int32))), (.ref a1)])) := fun t_ k_ => (gc p112 st113) t_ (by
    refine XS.iconst X113.here hx rfl (hb hby d8_45) ?_
    refine XS.isub X113.here hx rfl (hb hby d8_46) rfl ?_
    exact k_)
  obtain ⟨T115, h115, X115, e115, W115, st115⟩ := putF X113 hx hZ hown (host := "") (Or.inl (own_w hw 30 rfl)) Via.refl e113 F3 E1 (Or.inl (own_w hw 31 rfl)) (own_w hw 3 rfl) (ty := .int) (by decide) rfl rfl (g := (mkF m 47 #[.val (.ref a1), .val (.long q2), .second, .val (.int (Int32.ofNat ((own_home q2 + t) % 16))), .unset, .unset, .unset, .unset] [(.int (sz - (1 : Int32))), (.ref a1)])) rfl rfl (hb hby d8_47)
  have K116 : Keep h0 h115 [a1, bk, bp] := (Keep.refl h0 [a1, bk, bp]).wr W115 (Or.inl (List.mem_of_getElem? (i := 0) rfl))
  have N115 := Fr.snoc X115 N104 g1
  have F115 : Fld Z h115 a1 "com/example/subsume/subsume/reasoner/Positions" "size" "I" (.int (sz - (1 : Int32))) := F3.same W115
  have p117 : Go p.tables e below _ (T115.setTop (mkF m 55 #[.val (.ref a1), .val (.long q2), .second, .val (.int (Int32.ofNat ((own_home q2 + t) % 16))), .val (.int (Int32.ofNat ((own_home q2 + t) % 16))), .unset, .unset, .unset] [(.int (Int32.ofNat ((own_home q2 + t) % 16))), (.ref a1)])) := fun t_ k_ => (gc p114 st115) t_ (by
    refine XS.iloadN X115.here hx rfl (hb hby d8_50) rfl ?_
    refine XS.istore X115.here hx rfl (hb hby d8_51) rfl (l' := #[.val (.ref a1), .val (.long q2), .second, .val (.int (Int32.ofNat ((own_home q2 + t) % 16))), .val (.int (Int32.ofNat ((own_home q2 + t) % 16))), .unset, .unset, .unset]) rfl ?_
    refine XS.aloadN X115.here hx rfl (hb hby d8_53) rfl rfl ?_
    refine XS.iloadN X115.here hx rfl (hb hby d8_54) rfl ?_
    exact k_)
  have f118 := (F1.other W115 (Or.inr (slot_ne (Or.inl (own_w hw 21 rfl)) (Or.inl (own_w hw 31 rfl)) (by decide) (t := (.array .long)) (t' := .int) (by decide) (by decide))))
  have f119 := (V1.other W115 (Ne.symm ne1))
  have f121 := (E1.wr W115)
  obtain ⟨cq120, q120, q120'⟩ := f121.cell
  obtain ⟨_, _, ⟨T120, L120, k120, n120⟩, -, X120, ⟨Lc120, hQ120, l120, y120, z120⟩, st120⟩ := X115.privateBack hx (y := (⟨"com/example/subsume/subsume/reasoner/Positions", "next", "(I)I"⟩ : MethodName)) hown (mvT hZ (own_w hw 56 rfl)) (mvT hZ (own_w hw 57 rfl)) (selPriv (mvT hZ (own_w hw 28 rfl)) rfl (Cond.privateMethod_at (mvP hZ (own_w hw 58 rfl) (args := #[]))) (mvT hZ (own_w hw 57 rfl)) (by decide)) (Cond.privateMethod_at (mvP hZ (own_w hw 58 rfl) (args := #[]))) (mvT hZ (own_w hw 59 rfl)) (by decide) (backOf (W := 0) (rm11 l Z a0 hw [] a1 ((own_home q2 + t) % 16) bk kk ks h115 n0 (Nat.le_trans Z0 K116.1) f118 f119 (Nat.mod_lt _ (by omega))) hZ (own_w hw 59 rfl) (own_w hw 4 rfl) (by decide) (by decide)) (g := (mkF m 55 #[.val (.ref a1), .val (.long q2), .second, .val (.int (Int32.ofNat ((own_home q2 + t) % 16))), .val (.int (Int32.ofNat ((own_home q2 + t) % 16))), .unset, .unset, .unset] [(.int (Int32.ofNat ((own_home q2 + t) % 16))), (.ref a1)])) rfl (by rw [hml]; rfl) (Steps.refl _) (a := a1) (by rw [e115]; exact q120) q120' (argsL := [(.int (Int32.ofNat ((own_home q2 + t) % 16)))]) (rest := []) (lenOf pd0 rfl) rfl (by show 2 * 0 + _ ≤ _; exact Nat.le_of_eq rfl) (hb hby d8_55) (fun _ _ => ⟨rfl, e115, (by decide : 0 + 0 ≤ _), (by decide : 0 + 0 ≤ _)⟩)
  dsimp only [Pt.U, Pt.locs, Pt.cells, Pt.slots] at X120 l120 y120 z120 st120 hQ120
  subst l120 y120 z120
  obtain ⟨rfl, N120q, q120_hh⟩ := hQ120
  have N120 := Fr.app N115 N120q
  have p122 : Go p.tables e below _ (T120.setTop (mkF m 60 #[.val (.ref a1), .val (.long q2), .second, .val (.int (Int32.ofNat ((own_home q2 + t) % 16))), .val (.int (Int32.ofNat ((own_home q2 + t) % 16))), .val (.int (Int32.ofNat ((((own_home q2 + t) % 16) + 1) % 16))), .unset, .unset] [])) := fun t_ k_ => (gcT p117 st120) t_ (by
    refine XS.istore X120.here hx rfl (hb hby d8_58) rfl (l' := #[.val (.ref a1), .val (.long q2), .second, .val (.int (Int32.ofNat ((own_home q2 + t) % 16))), .val (.int (Int32.ofNat ((own_home q2 + t) % 16))), .val (.int (Int32.ofNat ((((own_home q2 + t) % 16) + 1) % 16))), .unset, .unset]) rfl ?_
    exact k_)
  have f124 := (F2.other W115 (Or.inr (slot_ne (Or.inl (own_w hw 24 rfl)) (Or.inl (own_w hw 31 rfl)) (by decide) (t := (.array .int)) (t' := .int) (by decide) (by decide))))
  have f125 := (V2.other W115 (Ne.symm ne2))
  obtain ⟨T123, h123, lc123, f123, a123, s6123, s7123, X123, e123, N123, K123, F1123, F2123, E1123, V1123, V2123, g123⟩ := lp8b Z a0 hx hZ hw hby hml hown a1 q2 ((own_home q2 + t) % 16) bk kk bp kp n0 ne1 ne2 ne3 g1 g2 g3 n ks ps ((own_home q2 + t) % 16) ((((own_home q2 + t) % 16) + 1) % 16) .unset .unset T120 h115 _ X120 q120_hh (Nat.le_trans Z0 K116.1) N120 f118 f124 f121 f119 f125 hlk hlp (Nat.mod_lt _ (by omega)) (Nat.mod_lt _ (by omega)) One.u One.u hok
  have K126 : Keep h0 h123 [a1, bk, bp] := K116.trans K123 (allS (Or.inl (List.mem_of_getElem? (i := 1) rfl)) (allS (Or.inl (List.mem_of_getElem? (i := 2) rfl)) all0))
  have p127 : Go p.tables e below _ (T123.setTop (mkF m 195 #[.val (.ref a1), .val (.long q2), .second, .val (.int (Int32.ofNat ((own_home q2 + t) % 16))), .val (.int (Int32.ofNat f123)), .val (.int (Int32.ofNat a123)), s6123, s7123] [])) := fun t_ k_ => p122 t_ (g123 t_ k_)
  obtain ⟨fs, hr, hrun, hended, hW, hsame⟩ := X123.leave (v := none) (fun _ => rfl)
  refine ⟨_, _, p127 _ (X123.returnOut hx Bd.returns (hb hby d8_195) hr), hrun, hended, _, _, rfl, ?_, ⟨_, rfl⟩, hW, hsame.mono (by decide) (by decide)⟩
  show Q8f Z a1 q2 sz bk kk ks bp kp ps t n h0 n0 _ T123.heap _
  rw [e123]
  exact ⟨rfl, N123, K126, F1123, F2123, E1123, V1123, V2123⟩
theorem d4_0 : decode jdk_65_method_101_code 0 = .ok (.iconst 0, 1) := by decide +kernel
theorem d4_1 : decode jdk_65_method_101_code 1 = .ok (.istore_n 3, 1) := by decide +kernel
theorem d4_2 : decode jdk_65_method_101_code 2 = .ok (.aload_n 0, 1) := by decide +kernel
theorem d4_3 : decode jdk_65_method_101_code 3 = .ok (.arraylength, 1) := by decide +kernel
theorem d4_4 : decode jdk_65_method_101_code 4 = .ok (.istore 4, 2) := by decide +kernel
theorem d4_6 : decode jdk_65_method_101_code 6 = .ok (.iload_n 3, 1) := by decide +kernel
theorem d4_7 : decode jdk_65_method_101_code 7 = .ok (.iload 4, 2) := by decide +kernel
theorem d4_9 : decode jdk_65_method_101_code 9 = .ok (.if_icmp .ge 13, 3) := by decide +kernel
theorem d4_12 : decode jdk_65_method_101_code 12 = .ok (.aload_n 0, 1) := by decide +kernel
theorem d4_13 : decode jdk_65_method_101_code 13 = .ok (.iload_n 3, 1) := by decide +kernel
theorem d4_14 : decode jdk_65_method_101_code 14 = .ok (.lload_n 1, 1) := by decide +kernel
theorem d4_15 : decode jdk_65_method_101_code 15 = .ok (.lastore, 1) := by decide +kernel
theorem d4_16 : decode jdk_65_method_101_code 16 = .ok (.iinc 3 1, 3) := by decide +kernel
theorem d4_19 : decode jdk_65_method_101_code 19 = .ok (.goto (-13), 3) := by decide +kernel
theorem d4_22 : decode jdk_65_method_101_code 22 = .ok (.return_, 1) := by decide +kernel
theorem pn4 : plainFor (⟨"java/util/Arrays", "fill", "([JJ)V"⟩ : MethodName) = true := plainFor_of_name (by first | (simp [plainName, overriddenIn]; done) | decide +kernel)
theorem ef_rm4 (m : MethodId) (a1 : Addr) (k1 : ClassId) : entryFrame m #[(.ref a1), (.long (-1 : Int64))] 5 = mkF m 0 #[.val (.ref a1), .val (.long (-1 : Int64)), .second, .unset, .unset] [] := by first | (simp [entryFrame, mkF, argsToLocals, Value.category]; done) | rfl
def Q4 (Z : State) (a1 : Addr) (k1 : ClassId) (h0 : Heap) (n0 : Nat) (v : Option Value) (h : Heap) (L : List Loc) : Prop := v = none ∧ Fr n0 L ∧ (Keep h0 h [a1]) ∧ (Arv Z h a1 k1 .long (16 : Int32) [(.long (-1 : Int64)), (.long (-1 : Int64)), (.long (-1 : Int64)), (.long (-1 : Int64)), (.long (-1 : Int64)), (.long (-1 : Int64)), (.long (-1 : Int64)), (.long (-1 : Int64)), (.long (-1 : Int64)), (.long (-1 : Int64)), (.long (-1 : Int64)), (.long (-1 : Int64)), (.long (-1 : Int64)), (.long (-1 : Int64)), (.long (-1 : Int64)), (.long (-1 : Int64))] (.long (0 : Int64)))
set_option maxRecDepth 65536 in
set_option maxHeartbeats 40000000 in
theorem rm4 (l : Launch) (Z : State) (a0 : Array Value) (hw : ∀ d ∈ tables_1, d.before a0 Z = true) (ws : List Jvm.Cond) (a1 : Addr) (k1 : ClassId) (h0 : Heap) (n0 : Nat) (Z0 : n0 ≤ h0.size) (V1 : Arv Z h0 a1 k1 .long (16 : Int32) [(.long (0 : Int64)), (.long (0 : Int64)), (.long (0 : Int64)), (.long (0 : Int64)), (.long (0 : Int64)), (.long (0 : Int64)), (.long (0 : Int64)), (.long (0 : Int64)), (.long (0 : Int64)), (.long (0 : Int64)), (.long (0 : Int64)), (.long (0 : Int64)), (.long (0 : Int64)), (.long (0 : Int64)), (.long (0 : Int64)), (.long (0 : Int64))] (.long (0 : Int64))) (g1 : n0 ≤ a1) :
    MetFree l (⟨"java/util/Arrays", "fill", "([JJ)V"⟩ : MethodName) (head1 (Jvm.Cond.code (⟨"java/util/Arrays", "fill", "([JJ)V"⟩ : MethodName) jdk_65_method_101_code 5 none :: ws) ({ frames := 0, cells := 0, slots := 0, locals := 0 } : Room)) (fun a U => a = #[(.ref a1), (.long (-1 : Int64))] ∧ Z.Warmed39 U.vm ∧ U.heap = h0) (fun _ _ _ _ _ => True) (fun _ U o U' => ∃ v L, o = .returned v ∧ Q4 Z a1 k1 h0 n0 v U'.heap L ∧ FrameEnd U o U' L ({ frames := 0, cells := 0, slots := 0, locals := 0 } : Room).cells ({ frames := 0, cells := 0, slots := 0, locals := 0 } : Room).slots) := by
  refine MetFree.of_bodySF pn4 hisR ?_
  intro p e s m args below meth c s₁ Bd hml0 hP hK
  obtain ⟨rfl, hZ, hh⟩ := hP
  have hx := Bd.exec
  have hby := Bd.bytes
  have hml : c.maxLocals = 5 := hml0
  have hown : s.vm.findClass "java/util/Arrays" = some m.cls := findClass_of_methodNamed Bd.named
  have hnm := (name_of_methodNamed Bd.named Bd.method).1
  have X0 : Stand p l e ({ frames := 0, cells := 0, slots := 0, locals := 0 } : Room) s m #[(.ref a1), (.long (-1 : Int64))] below meth c s₁ [] 0 0 := Stand.of_body Bd
  have e0 : s₁.heap = h0 := by rw [← hh, Bd.state]; rfl
  have N0 := Fr.nil n0
  have p0 : Go p.tables e below (s₁.setTop (entryFrame m #[(.ref a1), (.long (-1 : Int64))] 5)) (s₁.setTop (mkF m 0 #[.val (.ref a1), .val (.long (-1 : Int64)), .second, .unset, .unset] [])) := fun t_ k_ => castTop (ef_rm4 m a1 k1) k_
  have p101 : Go p.tables e below _ (s₁.setTop (mkF m 3 #[.val (.ref a1), .val (.long (-1 : Int64)), .second, .val (.int (0 : Int32)), .unset] [(.ref a1)])) := fun t_ k_ => p0 t_ (by
    refine XS.iconst X0.here hx rfl (hb hby d4_0) ?_
    refine XS.istoreN X0.here hx rfl (hb hby d4_1) rfl (l' := #[.val (.ref a1), .val (.long (-1 : Int64)), .second, .val (.int (0 : Int32)), .unset]) rfl ?_
    refine XS.aloadN X0.here hx rfl (hb hby d4_2) rfl rfl ?_
    exact k_)
  obtain ⟨cl102, Ar102, -, S102, Ng102, -, -⟩ := id V1
  have p103 : Go p.tables e below _ (s₁.setTop (mkF m 15 #[.val (.ref a1), .val (.long (-1 : Int64)), .second, .val (.int (0 : Int32)), .val (.int (16 : Int32))] [(.long (-1 : Int64)), (.int (0 : Int32)), (.ref a1)])) := fun t_ k_ => p101 t_ (by
    refine X0.arraylength hx (by rw [e0]; exact Ar102.1) (State.isArrayOf_alike hZ.alike Ar102.2.1) (g := (mkF m 3 #[.val (.ref a1), .val (.long (-1 : Int64)), .second, .val (.int (0 : Int32)), .unset] [(.ref a1)])) rfl rfl (hb hby d4_3) _ ?_
    rw [len_of S102 Ng102]
    show Steps p.tables e below (s₁.setTop (mkF m 4 #[.val (.ref a1), .val (.long (-1 : Int64)), .second, .val (.int (0 : Int32)), .unset] [(.int (16 : Int32))])) _
    refine XS.istore X0.here hx rfl (hb hby d4_4) rfl (l' := #[.val (.ref a1), .val (.long (-1 : Int64)), .second, .val (.int (0 : Int32)), .val (.int (16 : Int32))]) rfl ?_
    refine XS.iloadN X0.here hx rfl (hb hby d4_6) rfl ?_
    refine XS.iload X0.here hx rfl (hb hby d4_7) rfl ?_
    refine XS.icmpNo X0.here hx rfl (hb hby d4_9) rfl (tlt (by decide : ((0 : Int32) < (16 : Int32)))).2.1 ?_
    refine XS.aloadN X0.here hx rfl (hb hby d4_12) rfl rfl ?_
    refine XS.iloadN X0.here hx rfl (hb hby d4_13) rfl ?_
    refine XS.lloadN X0.here hx rfl (hb hby d4_14) rfl ?_
    exact k_)
  obtain ⟨cl104, Ar104, q104, S104, Ng104, H104, G104⟩ := id V1
  have hin104 := inb_of S104 (j := (0 : Int32)) ⟨by decide, by decide⟩
  obtain ⟨T104, h104, X104, e104, W104, st104⟩ := stJ X0 hx hZ e0 Ar104 (j := (0 : Int32)) hin104 (g := (mkF m 15 #[.val (.ref a1), .val (.long (-1 : Int64)), .second, .val (.int (0 : Int32)), .val (.int (16 : Int32))] [(.long (-1 : Int64)), (.int (0 : Int32)), (.ref a1)])) rfl rfl (hb hby d4_15)
  have K105 : Keep h0 h104 [a1] := (Keep.refl h0 [a1]).wr W104 (Or.inl (List.mem_of_getElem? (i := 0) rfl))
  have N104 := Fr.snoc X104 N0 g1
  have V104 : Arv Z h104 a1 k1 .long (16 : Int32) [(.long (-1 : Int64)), (.long (0 : Int64)), (.long (0 : Int64)), (.long (0 : Int64)), (.long (0 : Int64)), (.long (0 : Int64)), (.long (0 : Int64)), (.long (0 : Int64)), (.long (0 : Int64)), (.long (0 : Int64)), (.long (0 : Int64)), (.long (0 : Int64)), (.long (0 : Int64)), (.long (0 : Int64)), (.long (0 : Int64)), (.long (0 : Int64))] (.long (0 : Int64)) := Arv.set Ar104 q104 S104 Ng104 H104 G104 rfl W104 0 rfl (Nat.le_of_ble_eq_true rfl)
  have p106 : Go p.tables e below _ (T104.setTop (mkF m 15 #[.val (.ref a1), .val (.long (-1 : Int64)), .second, .val (.int (1 : Int32)), .val (.int (16 : Int32))] [(.long (-1 : Int64)), (.int (1 : Int32)), (.ref a1)])) := fun t_ k_ => (gc p103 st104) t_ (by
    refine XS.iinc X104.here hx rfl (hb hby d4_16) rfl (l' := #[.val (.ref a1), .val (.long (-1 : Int64)), .second, .val (.int (1 : Int32)), .val (.int (16 : Int32))]) rfl ?_
    refine XS.goto X104.here hx rfl (pc0 := 19) (pc' := 6) rfl (hb hby d4_19) (by decide) (by decide) ?_
    refine XS.iloadN X104.here hx rfl (hb hby d4_6) rfl ?_
    refine XS.iload X104.here hx rfl (hb hby d4_7) rfl ?_
    refine XS.icmpNo X104.here hx rfl (hb hby d4_9) rfl (tlt (by decide : ((1 : Int32) < (16 : Int32)))).2.1 ?_
    refine XS.aloadN X104.here hx rfl (hb hby d4_12) rfl rfl ?_
    refine XS.iloadN X104.here hx rfl (hb hby d4_13) rfl ?_
    refine XS.lloadN X104.here hx rfl (hb hby d4_14) rfl ?_
    exact k_)
  obtain ⟨cl107, Ar107, q107, S107, Ng107, H107, G107⟩ := id V104
  have hin107 := inb_of S107 (j := (1 : Int32)) ⟨by decide, by decide⟩
  obtain ⟨T107, h107, X107, e107, W107, st107⟩ := stJ X104 hx hZ e104 Ar107 (j := (1 : Int32)) hin107 (g := (mkF m 15 #[.val (.ref a1), .val (.long (-1 : Int64)), .second, .val (.int (1 : Int32)), .val (.int (16 : Int32))] [(.long (-1 : Int64)), (.int (1 : Int32)), (.ref a1)])) rfl rfl (hb hby d4_15)
  have K108 : Keep h0 h107 [a1] := K105.wr W107 (Or.inl (List.mem_of_getElem? (i := 0) rfl))
  have N107 := Fr.snoc X107 N104 g1
  have V107 : Arv Z h107 a1 k1 .long (16 : Int32) [(.long (-1 : Int64)), (.long (-1 : Int64)), (.long (0 : Int64)), (.long (0 : Int64)), (.long (0 : Int64)), (.long (0 : Int64)), (.long (0 : Int64)), (.long (0 : Int64)), (.long (0 : Int64)), (.long (0 : Int64)), (.long (0 : Int64)), (.long (0 : Int64)), (.long (0 : Int64)), (.long (0 : Int64)), (.long (0 : Int64)), (.long (0 : Int64))] (.long (0 : Int64)) := Arv.set Ar107 q107 S107 Ng107 H107 G107 rfl W107 1 rfl (Nat.le_of_ble_eq_true rfl)
  have p109 : Go p.tables e below _ (T107.setTop (mkF m 15 #[.val (.ref a1), .val (.long (-1 : Int64)), .second, .val (.int (2 : Int32)), .val (.int (16 : Int32))] [(.long (-1 : Int64)), (.int (2 : Int32)), (.ref a1)])) := fun t_ k_ => (gc p106 st107) t_ (by
    refine XS.iinc X107.here hx rfl (hb hby d4_16) rfl (l' := #[.val (.ref a1), .val (.long (-1 : Int64)), .second, .val (.int (2 : Int32)), .val (.int (16 : Int32))]) rfl ?_
    refine XS.goto X107.here hx rfl (pc0 := 19) (pc' := 6) rfl (hb hby d4_19) (by decide) (by decide) ?_
    refine XS.iloadN X107.here hx rfl (hb hby d4_6) rfl ?_
    refine XS.iload X107.here hx rfl (hb hby d4_7) rfl ?_
    refine XS.icmpNo X107.here hx rfl (hb hby d4_9) rfl (tlt (by decide : ((2 : Int32) < (16 : Int32)))).2.1 ?_
    refine XS.aloadN X107.here hx rfl (hb hby d4_12) rfl rfl ?_
    refine XS.iloadN X107.here hx rfl (hb hby d4_13) rfl ?_
    refine XS.lloadN X107.here hx rfl (hb hby d4_14) rfl ?_
    exact k_)
  obtain ⟨cl110, Ar110, q110, S110, Ng110, H110, G110⟩ := id V107
  have hin110 := inb_of S110 (j := (2 : Int32)) ⟨by decide, by decide⟩
  obtain ⟨T110, h110, X110, e110, W110, st110⟩ := stJ X107 hx hZ e107 Ar110 (j := (2 : Int32)) hin110 (g := (mkF m 15 #[.val (.ref a1), .val (.long (-1 : Int64)), .second, .val (.int (2 : Int32)), .val (.int (16 : Int32))] [(.long (-1 : Int64)), (.int (2 : Int32)), (.ref a1)])) rfl rfl (hb hby d4_15)
  have K111 : Keep h0 h110 [a1] := K108.wr W110 (Or.inl (List.mem_of_getElem? (i := 0) rfl))
  have N110 := Fr.snoc X110 N107 g1
  have V110 : Arv Z h110 a1 k1 .long (16 : Int32) [(.long (-1 : Int64)), (.long (-1 : Int64)), (.long (-1 : Int64)), (.long (0 : Int64)), (.long (0 : Int64)), (.long (0 : Int64)), (.long (0 : Int64)), (.long (0 : Int64)), (.long (0 : Int64)), (.long (0 : Int64)), (.long (0 : Int64)), (.long (0 : Int64)), (.long (0 : Int64)), (.long (0 : Int64)), (.long (0 : Int64)), (.long (0 : Int64))] (.long (0 : Int64)) := Arv.set Ar110 q110 S110 Ng110 H110 G110 rfl W110 2 rfl (Nat.le_of_ble_eq_true rfl)
  have p112 : Go p.tables e below _ (T110.setTop (mkF m 15 #[.val (.ref a1), .val (.long (-1 : Int64)), .second, .val (.int (3 : Int32)), .val (.int (16 : Int32))] [(.long (-1 : Int64)), (.int (3 : Int32)), (.ref a1)])) := fun t_ k_ => (gc p109 st110) t_ (by
    refine XS.iinc X110.here hx rfl (hb hby d4_16) rfl (l' := #[.val (.ref a1), .val (.long (-1 : Int64)), .second, .val (.int (3 : Int32)), .val (.int (16 : Int32))]) rfl ?_
    refine XS.goto X110.here hx rfl (pc0 := 19) (pc' := 6) rfl (hb hby d4_19) (by decide) (by decide) ?_
    refine XS.iloadN X110.here hx rfl (hb hby d4_6) rfl ?_
    refine XS.iload X110.here hx rfl (hb hby d4_7) rfl ?_
    refine XS.icmpNo X110.here hx rfl (hb hby d4_9) rfl (tlt (by decide : ((3 : Int32) < (16 : Int32)))).2.1 ?_
    refine XS.aloadN X110.here hx rfl (hb hby d4_12) rfl rfl ?_
    refine XS.iloadN X110.here hx rfl (hb hby d4_13) rfl ?_
    refine XS.lloadN X110.here hx rfl (hb hby d4_14) rfl ?_
    exact k_)
  obtain ⟨cl113, Ar113, q113, S113, Ng113, H113, G113⟩ := id V110
  have hin113 := inb_of S113 (j := (3 : Int32)) ⟨by decide, by decide⟩
  obtain ⟨T113, h113, X113, e113, W113, st113⟩ := stJ X110 hx hZ e110 Ar113 (j := (3 : Int32)) hin113 (g := (mkF m 15 #[.val (.ref a1), .val (.long (-1 : Int64)), .second, .val (.int (3 : Int32)), .val (.int (16 : Int32))] [(.long (-1 : Int64)), (.int (3 : Int32)), (.ref a1)])) rfl rfl (hb hby d4_15)
  have K114 : Keep h0 h113 [a1] := K111.wr W113 (Or.inl (List.mem_of_getElem? (i := 0) rfl))
  have N113 := Fr.snoc X113 N110 g1
  have V113 : Arv Z h113 a1 k1 .long (16 : Int32) [(.long (-1 : Int64)), (.long (-1 : Int64)), (.long (-1 : Int64)), (.long (-1 : Int64)), (.long (0 : Int64)), (.long (0 : Int64)), (.long (0 : Int64)), (.long (0 : Int64)), (.long (0 : Int64)), (.long (0 : Int64)), (.long (0 : Int64)), (.long (0 : Int64)), (.long (0 : Int64)), (.long (0 : Int64)), (.long (0 : Int64)), (.long (0 : Int64))] (.long (0 : Int64)) := Arv.set Ar113 q113 S113 Ng113 H113 G113 rfl W113 3 rfl (Nat.le_of_ble_eq_true rfl)
  have p115 : Go p.tables e below _ (T113.setTop (mkF m 15 #[.val (.ref a1), .val (.long (-1 : Int64)), .second, .val (.int (4 : Int32)), .val (.int (16 : Int32))] [(.long (-1 : Int64)), (.int (4 : Int32)), (.ref a1)])) := fun t_ k_ => (gc p112 st113) t_ (by
    refine XS.iinc X113.here hx rfl (hb hby d4_16) rfl (l' := #[.val (.ref a1), .val (.long (-1 : Int64)), .second, .val (.int (4 : Int32)), .val (.int (16 : Int32))]) rfl ?_
    refine XS.goto X113.here hx rfl (pc0 := 19) (pc' := 6) rfl (hb hby d4_19) (by decide) (by decide) ?_
    refine XS.iloadN X113.here hx rfl (hb hby d4_6) rfl ?_
    refine XS.iload X113.here hx rfl (hb hby d4_7) rfl ?_
    refine XS.icmpNo X113.here hx rfl (hb hby d4_9) rfl (tlt (by decide : ((4 : Int32) < (16 : Int32)))).2.1 ?_
    refine XS.aloadN X113.here hx rfl (hb hby d4_12) rfl rfl ?_
    refine XS.iloadN X113.here hx rfl (hb hby d4_13) rfl ?_
    refine XS.lloadN X113.here hx rfl (hb hby d4_14) rfl ?_
    exact k_)
  obtain ⟨cl116, Ar116, q116, S116, Ng116, H116, G116⟩ := id V113
  have hin116 := inb_of S116 (j := (4 : Int32)) ⟨by decide, by decide⟩
  obtain ⟨T116, h116, X116, e116, W116, st116⟩ := stJ X113 hx hZ e113 Ar116 (j := (4 : Int32)) hin116 (g := (mkF m 15 #[.val (.ref a1), .val (.long (-1 : Int64)), .second, .val (.int (4 : Int32)), .val (.int (16 : Int32))] [(.long (-1 : Int64)), (.int (4 : Int32)), (.ref a1)])) rfl rfl (hb hby d4_15)
  have K117 : Keep h0 h116 [a1] := K114.wr W116 (Or.inl (List.mem_of_getElem? (i := 0) rfl))
  have N116 := Fr.snoc X116 N113 g1
  have V116 : Arv Z h116 a1 k1 .long (16 : Int32) [(.long (-1 : Int64)), (.long (-1 : Int64)), (.long (-1 : Int64)), (.long (-1 : Int64)), (.long (-1 : Int64)), (.long (0 : Int64)), (.long (0 : Int64)), (.long (0 : Int64)), (.long (0 : Int64)), (.long (0 : Int64)), (.long (0 : Int64)), (.long (0 : Int64)), (.long (0 : Int64)), (.long (0 : Int64)), (.long (0 : Int64)), (.long (0 : Int64))] (.long (0 : Int64)) := Arv.set Ar116 q116 S116 Ng116 H116 G116 rfl W116 4 rfl (Nat.le_of_ble_eq_true rfl)
  have p118 : Go p.tables e below _ (T116.setTop (mkF m 15 #[.val (.ref a1), .val (.long (-1 : Int64)), .second, .val (.int (5 : Int32)), .val (.int (16 : Int32))] [(.long (-1 : Int64)), (.int (5 : Int32)), (.ref a1)])) := fun t_ k_ => (gc p115 st116) t_ (by
    refine XS.iinc X116.here hx rfl (hb hby d4_16) rfl (l' := #[.val (.ref a1), .val (.long (-1 : Int64)), .second, .val (.int (5 : Int32)), .val (.int (16 : Int32))]) rfl ?_
    refine XS.goto X116.here hx rfl (pc0 := 19) (pc' := 6) rfl (hb hby d4_19) (by decide) (by decide) ?_
    refine XS.iloadN X116.here hx rfl (hb hby d4_6) rfl ?_
    refine XS.iload X116.here hx rfl (hb hby d4_7) rfl ?_
    refine XS.icmpNo X116.here hx rfl (hb hby d4_9) rfl (tlt (by decide : ((5 : Int32) < (16 : Int32)))).2.1 ?_
    refine XS.aloadN X116.here hx rfl (hb hby d4_12) rfl rfl ?_
    refine XS.iloadN X116.here hx rfl (hb hby d4_13) rfl ?_
    refine XS.lloadN X116.here hx rfl (hb hby d4_14) rfl ?_
    exact k_)
  obtain ⟨cl119, Ar119, q119, S119, Ng119, H119, G119⟩ := id V116
  have hin119 := inb_of S119 (j := (5 : Int32)) ⟨by decide, by decide⟩
  obtain ⟨T119, h119, X119, e119, W119, st119⟩ := stJ X116 hx hZ e116 Ar119 (j := (5 : Int32)) hin119 (g := (mkF m 15 #[.val (.ref a1), .val (.long (-1 : Int64)), .second, .val (.int (5 : Int32)), .val (.int (16 : Int32))] [(.long (-1 : Int64)), (.int (5 : Int32)), (.ref a1)])) rfl rfl (hb hby d4_15)
  have K120 : Keep h0 h119 [a1] := K117.wr W119 (Or.inl (List.mem_of_getElem? (i := 0) rfl))
  have N119 := Fr.snoc X119 N116 g1
  have V119 : Arv Z h119 a1 k1 .long (16 : Int32) [(.long (-1 : Int64)), (.long (-1 : Int64)), (.long (-1 : Int64)), (.long (-1 : Int64)), (.long (-1 : Int64)), (.long (-1 : Int64)), (.long (0 : Int64)), (.long (0 : Int64)), (.long (0 : Int64)), (.long (0 : Int64)), (.long (0 : Int64)), (.long (0 : Int64)), (.long (0 : Int64)), (.long (0 : Int64)), (.long (0 : Int64)), (.long (0 : Int64))] (.long (0 : Int64)) := Arv.set Ar119 q119 S119 Ng119 H119 G119 rfl W119 5 rfl (Nat.le_of_ble_eq_true rfl)
  have p121 : Go p.tables e below _ (T119.setTop (mkF m 15 #[.val (.ref a1), .val (.long (-1 : Int64)), .second, .val (.int (6 : Int32)), .val (.int (16 : Int32))] [(.long (-1 : Int64)), (.int (6 : Int32)), (.ref a1)])) := fun t_ k_ => (gc p118 st119) t_ (by
    refine XS.iinc X119.here hx rfl (hb hby d4_16) rfl (l' := #[.val (.ref a1), .val (.long (-1 : Int64)), .second, .val (.int (6 : Int32)), .val (.int (16 : Int32))]) rfl ?_
    refine XS.goto X119.here hx rfl (pc0 := 19) (pc' := 6) rfl (hb hby d4_19) (by decide) (by decide) ?_
    refine XS.iloadN X119.here hx rfl (hb hby d4_6) rfl ?_
    refine XS.iload X119.here hx rfl (hb hby d4_7) rfl ?_
    refine XS.icmpNo X119.here hx rfl (hb hby d4_9) rfl (tlt (by decide : ((6 : Int32) < (16 : Int32)))).2.1 ?_
    refine XS.aloadN X119.here hx rfl (hb hby d4_12) rfl rfl ?_
    refine XS.iloadN X119.here hx rfl (hb hby d4_13) rfl ?_
    refine XS.lloadN X119.here hx rfl (hb hby d4_14) rfl ?_
    exact k_)
  obtain ⟨cl122, Ar122, q122, S122, Ng122, H122, G122⟩ := id V119
  have hin122 := inb_of S122 (j := (6 : Int32)) ⟨by decide, by decide⟩
  obtain ⟨T122, h122, X122, e122, W122, st122⟩ := stJ X119 hx hZ e119 Ar122 (j := (6 : Int32)) hin122 (g := (mkF m 15 #[.val (.ref a1), .val (.long (-1 : Int64)), .second, .val (.int (6 : Int32)), .val (.int (16 : Int32))] [(.long (-1 : Int64)), (.int (6 : Int32)), (.ref a1)])) rfl rfl (hb hby d4_15)
  have K123 : Keep h0 h122 [a1] := K120.wr W122 (Or.inl (List.mem_of_getElem? (i := 0) rfl))
  have N122 := Fr.snoc X122 N119 g1
  have V122 : Arv Z h122 a1 k1 .long (16 : Int32) [(.long (-1 : Int64)), (.long (-1 : Int64)), (.long (-1 : Int64)), (.long (-1 : Int64)), (.long (-1 : Int64)), (.long (-1 : Int64)), (.long (-1 : Int64)), (.long (0 : Int64)), (.long (0 : Int64)), (.long (0 : Int64)), (.long (0 : Int64)), (.long (0 : Int64)), (.long (0 : Int64)), (.long (0 : Int64)), (.long (0 : Int64)), (.long (0 : Int64))] (.long (0 : Int64)) := Arv.set Ar122 q122 S122 Ng122 H122 G122 rfl W122 6 rfl (Nat.le_of_ble_eq_true rfl)
  have p124 : Go p.tables e below _ (T122.setTop (mkF m 15 #[.val (.ref a1), .val (.long (-1 : Int64)), .second, .val (.int (7 : Int32)), .val (.int (16 : Int32))] [(.long (-1 : Int64)), (.int (7 : Int32)), (.ref a1)])) := fun t_ k_ => (gc p121 st122) t_ (by
    refine XS.iinc X122.here hx rfl (hb hby d4_16) rfl (l' := #[.val (.ref a1), .val (.long (-1 : Int64)), .second, .val (.int (7 : Int32)), .val (.int (16 : Int32))]) rfl ?_
    refine XS.goto X122.here hx rfl (pc0 := 19) (pc' := 6) rfl (hb hby d4_19) (by decide) (by decide) ?_
    refine XS.iloadN X122.here hx rfl (hb hby d4_6) rfl ?_
    refine XS.iload X122.here hx rfl (hb hby d4_7) rfl ?_
    refine XS.icmpNo X122.here hx rfl (hb hby d4_9) rfl (tlt (by decide : ((7 : Int32) < (16 : Int32)))).2.1 ?_
    refine XS.aloadN X122.here hx rfl (hb hby d4_12) rfl rfl ?_
    refine XS.iloadN X122.here hx rfl (hb hby d4_13) rfl ?_
    refine XS.lloadN X122.here hx rfl (hb hby d4_14) rfl ?_
    exact k_)
  obtain ⟨cl125, Ar125, q125, S125, Ng125, H125, G125⟩ := id V122
  have hin125 := inb_of S125 (j := (7 : Int32)) ⟨by decide, by decide⟩
  obtain ⟨T125, h125, X125, e125, W125, st125⟩ := stJ X122 hx hZ e122 Ar125 (j := (7 : Int32)) hin125 (g := (mkF m 15 #[.val (.ref a1), .val (.long (-1 : Int64)), .second, .val (.int (7 : Int32)), .val (.int (16 : Int32))] [(.long (-1 : Int64)), (.int (7 : Int32)), (.ref a1)])) rfl rfl (hb hby d4_15)
  have K126 : Keep h0 h125 [a1] := K123.wr W125 (Or.inl (List.mem_of_getElem? (i := 0) rfl))
  have N125 := Fr.snoc X125 N122 g1
  have V125 : Arv Z h125 a1 k1 .long (16 : Int32) [(.long (-1 : Int64)), (.long (-1 : Int64)), (.long (-1 : Int64)), (.long (-1 : Int64)), (.long (-1 : Int64)), (.long (-1 : Int64)), (.long (-1 : Int64)), (.long (-1 : Int64)), (.long (0 : Int64)), (.long (0 : Int64)), (.long (0 : Int64)), (.long (0 : Int64)), (.long (0 : Int64)), (.long (0 : Int64)), (.long (0 : Int64)), (.long (0 : Int64))] (.long (0 : Int64)) := Arv.set Ar125 q125 S125 Ng125 H125 G125 rfl W125 7 rfl (Nat.le_of_ble_eq_true rfl)
  have p127 : Go p.tables e below _ (T125.setTop (mkF m 15 #[.val (.ref a1), .val (.long (-1 : Int64)), .second, .val (.int (8 : Int32)), .val (.int (16 : Int32))] [(.long (-1 : Int64)), (.int (8 : Int32)), (.ref a1)])) := fun t_ k_ => (gc p124 st125) t_ (by
    refine XS.iinc X125.here hx rfl (hb hby d4_16) rfl (l' := #[.val (.ref a1), .val (.long (-1 : Int64)), .second, .val (.int (8 : Int32)), .val (.int (16 : Int32))]) rfl ?_
    refine XS.goto X125.here hx rfl (pc0 := 19) (pc' := 6) rfl (hb hby d4_19) (by decide) (by decide) ?_
    refine XS.iloadN X125.here hx rfl (hb hby d4_6) rfl ?_
    refine XS.iload X125.here hx rfl (hb hby d4_7) rfl ?_
    refine XS.icmpNo X125.here hx rfl (hb hby d4_9) rfl (tlt (by decide : ((8 : Int32) < (16 : Int32)))).2.1 ?_
    refine XS.aloadN X125.here hx rfl (hb hby d4_12) rfl rfl ?_
    refine XS.iloadN X125.here hx rfl (hb hby d4_13) rfl ?_
    refine XS.lloadN X125.here hx rfl (hb hby d4_14) rfl ?_
    exact k_)
  obtain ⟨cl128, Ar128, q128, S128, Ng128, H128, G128⟩ := id V125
  have hin128 := inb_of S128 (j := (8 : Int32)) ⟨by decide, by decide⟩
  obtain ⟨T128, h128, X128, e128, W128, st128⟩ := stJ X125 hx hZ e125 Ar128 (j := (8 : Int32)) hin128 (g := (mkF m 15 #[.val (.ref a1), .val (.long (-1 : Int64)), .second, .val (.int (8 : Int32)), .val (.int (16 : Int32))] [(.long (-1 : Int64)), (.int (8 : Int32)), (.ref a1)])) rfl rfl (hb hby d4_15)
  have K129 : Keep h0 h128 [a1] := K126.wr W128 (Or.inl (List.mem_of_getElem? (i := 0) rfl))
  have N128 := Fr.snoc X128 N125 g1
  have V128 : Arv Z h128 a1 k1 .long (16 : Int32) [(.long (-1 : Int64)), (.long (-1 : Int64)), (.long (-1 : Int64)), (.long (-1 : Int64)), (.long (-1 : Int64)), (.long (-1 : Int64)), (.long (-1 : Int64)), (.long (-1 : Int64)), (.long (-1 : Int64)), (.long (0 : Int64)), (.long (0 : Int64)), (.long (0 : Int64)), (.long (0 : Int64)), (.long (0 : Int64)), (.long (0 : Int64)), (.long (0 : Int64))] (.long (0 : Int64)) := Arv.set Ar128 q128 S128 Ng128 H128 G128 rfl W128 8 rfl (Nat.le_of_ble_eq_true rfl)
  have p130 : Go p.tables e below _ (T128.setTop (mkF m 15 #[.val (.ref a1), .val (.long (-1 : Int64)), .second, .val (.int (9 : Int32)), .val (.int (16 : Int32))] [(.long (-1 : Int64)), (.int (9 : Int32)), (.ref a1)])) := fun t_ k_ => (gc p127 st128) t_ (by
    refine XS.iinc X128.here hx rfl (hb hby d4_16) rfl (l' := #[.val (.ref a1), .val (.long (-1 : Int64)), .second, .val (.int (9 : Int32)), .val (.int (16 : Int32))]) rfl ?_
    refine XS.goto X128.here hx rfl (pc0 := 19) (pc' := 6) rfl (hb hby d4_19) (by decide) (by decide) ?_
    refine XS.iloadN X128.here hx rfl (hb hby d4_6) rfl ?_
    refine XS.iload X128.here hx rfl (hb hby d4_7) rfl ?_
    refine XS.icmpNo X128.here hx rfl (hb hby d4_9) rfl (tlt (by decide : ((9 : Int32) < (16 : Int32)))).2.1 ?_
    refine XS.aloadN X128.here hx rfl (hb hby d4_12) rfl rfl ?_
    refine XS.iloadN X128.here hx rfl (hb hby d4_13) rfl ?_
    refine XS.lloadN X128.here hx rfl (hb hby d4_14) rfl ?_
    exact k_)
  obtain ⟨cl131, Ar131, q131, S131, Ng131, H131, G131⟩ := id V128
  have hin131 := inb_of S131 (j := (9 : Int32)) ⟨by decide, by decide⟩
  obtain ⟨T131, h131, X131, e131, W131, st131⟩ := stJ X128 hx hZ e128 Ar131 (j := (9 : Int32)) hin131 (g := (mkF m 15 #[.val (.ref a1), .val (.long (-1 : Int64)), .second, .val (.int (9 : Int32)), .val (.int (16 : Int32))] [(.long (-1 : Int64)), (.int (9 : Int32)), (.ref a1)])) rfl rfl (hb hby d4_15)
  have K132 : Keep h0 h131 [a1] := K129.wr W131 (Or.inl (List.mem_of_getElem? (i := 0) rfl))
  have N131 := Fr.snoc X131 N128 g1
  have V131 : Arv Z h131 a1 k1 .long (16 : Int32) [(.long (-1 : Int64)), (.long (-1 : Int64)), (.long (-1 : Int64)), (.long (-1 : Int64)), (.long (-1 : Int64)), (.long (-1 : Int64)), (.long (-1 : Int64)), (.long (-1 : Int64)), (.long (-1 : Int64)), (.long (-1 : Int64)), (.long (0 : Int64)), (.long (0 : Int64)), (.long (0 : Int64)), (.long (0 : Int64)), (.long (0 : Int64)), (.long (0 : Int64))] (.long (0 : Int64)) := Arv.set Ar131 q131 S131 Ng131 H131 G131 rfl W131 9 rfl (Nat.le_of_ble_eq_true rfl)
  have p133 : Go p.tables e below _ (T131.setTop (mkF m 15 #[.val (.ref a1), .val (.long (-1 : Int64)), .second, .val (.int (10 : Int32)), .val (.int (16 : Int32))] [(.long (-1 : Int64)), (.int (10 : Int32)), (.ref a1)])) := fun t_ k_ => (gc p130 st131) t_ (by
    refine XS.iinc X131.here hx rfl (hb hby d4_16) rfl (l' := #[.val (.ref a1), .val (.long (-1 : Int64)), .second, .val (.int (10 : Int32)), .val (.int (16 : Int32))]) rfl ?_
    refine XS.goto X131.here hx rfl (pc0 := 19) (pc' := 6) rfl (hb hby d4_19) (by decide) (by decide) ?_
    refine XS.iloadN X131.here hx rfl (hb hby d4_6) rfl ?_
    refine XS.iload X131.here hx rfl (hb hby d4_7) rfl ?_
    refine XS.icmpNo X131.here hx rfl (hb hby d4_9) rfl (tlt (by decide : ((10 : Int32) < (16 : Int32)))).2.1 ?_
    refine XS.aloadN X131.here hx rfl (hb hby d4_12) rfl rfl ?_
    refine XS.iloadN X131.here hx rfl (hb hby d4_13) rfl ?_
    refine XS.lloadN X131.here hx rfl (hb hby d4_14) rfl ?_
    exact k_)
  obtain ⟨cl134, Ar134, q134, S134, Ng134, H134, G134⟩ := id V131
  have hin134 := inb_of S134 (j := (10 : Int32)) ⟨by decide, by decide⟩
  obtain ⟨T134, h134, X134, e134, W134, st134⟩ := stJ X131 hx hZ e131 Ar134 (j := (10 : Int32)) hin134 (g := (mkF m 15 #[.val (.ref a1), .val (.long (-1 : Int64)), .second, .val (.int (10 : Int32)), .val (.int (16 : Int32))] [(.long (-1 : Int64)), (.int (10 : Int32)), (.ref a1)])) rfl rfl (hb hby d4_15)
  have K135 : Keep h0 h134 [a1] := K132.wr W134 (Or.inl (List.mem_of_getElem? (i := 0) rfl))
  have N134 := Fr.snoc X134 N131 g1
  have V134 : Arv Z h134 a1 k1 .long (16 : Int32) [(.long (-1 : Int64)), (.long (-1 : Int64)), (.long (-1 : Int64)), (.long (-1 : Int64)), (.long (-1 : Int64)), (.long (-1 : Int64)), (.long (-1 : Int64)), (.long (-1 : Int64)), (.long (-1 : Int64)), (.long (-1 : Int64)), (.long (-1 : Int64)), (.long (0 : Int64)), (.long (0 : Int64)), (.long (0 : Int64)), (.long (0 : Int64)), (.long (0 : Int64))] (.long (0 : Int64)) := Arv.set Ar134 q134 S134 Ng134 H134 G134 rfl W134 10 rfl (Nat.le_of_ble_eq_true rfl)
  have p136 : Go p.tables e below _ (T134.setTop (mkF m 15 #[.val (.ref a1), .val (.long (-1 : Int64)), .second, .val (.int (11 : Int32)), .val (.int (16 : Int32))] [(.long (-1 : Int64)), (.int (11 : Int32)), (.ref a1)])) := fun t_ k_ => (gc p133 st134) t_ (by
    refine XS.iinc X134.here hx rfl (hb hby d4_16) rfl (l' := #[.val (.ref a1), .val (.long (-1 : Int64)), .second, .val (.int (11 : Int32)), .val (.int (16 : Int32))]) rfl ?_
    refine XS.goto X134.here hx rfl (pc0 := 19) (pc' := 6) rfl (hb hby d4_19) (by decide) (by decide) ?_
    refine XS.iloadN X134.here hx rfl (hb hby d4_6) rfl ?_
    refine XS.iload X134.here hx rfl (hb hby d4_7) rfl ?_
    refine XS.icmpNo X134.here hx rfl (hb hby d4_9) rfl (tlt (by decide : ((11 : Int32) < (16 : Int32)))).2.1 ?_
    refine XS.aloadN X134.here hx rfl (hb hby d4_12) rfl rfl ?_
    refine XS.iloadN X134.here hx rfl (hb hby d4_13) rfl ?_
    refine XS.lloadN X134.here hx rfl (hb hby d4_14) rfl ?_
    exact k_)
  obtain ⟨cl137, Ar137, q137, S137, Ng137, H137, G137⟩ := id V134
  have hin137 := inb_of S137 (j := (11 : Int32)) ⟨by decide, by decide⟩
  obtain ⟨T137, h137, X137, e137, W137, st137⟩ := stJ X134 hx hZ e134 Ar137 (j := (11 : Int32)) hin137 (g := (mkF m 15 #[.val (.ref a1), .val (.long (-1 : Int64)), .second, .val (.int (11 : Int32)), .val (.int (16 : Int32))] [(.long (-1 : Int64)), (.int (11 : Int32)), (.ref a1)])) rfl rfl (hb hby d4_15)
  have K138 : Keep h0 h137 [a1] := K135.wr W137 (Or.inl (List.mem_of_getElem? (i := 0) rfl))
  have N137 := Fr.snoc X137 N134 g1
  have V137 : Arv Z h137 a1 k1 .long (16 : Int32) [(.long (-1 : Int64)), (.long (-1 : Int64)), (.long (-1 : Int64)), (.long (-1 : Int64)), (.long (-1 : Int64)), (.long (-1 : Int64)), (.long (-1 : Int64)), (.long (-1 : Int64)), (.long (-1 : Int64)), (.long (-1 : Int64)), (.long (-1 : Int64)), (.long (-1 : Int64)), (.long (0 : Int64)), (.long (0 : Int64)), (.long (0 : Int64)), (.long (0 : Int64))] (.long (0 : Int64)) := Arv.set Ar137 q137 S137 Ng137 H137 G137 rfl W137 11 rfl (Nat.le_of_ble_eq_true rfl)
  have p139 : Go p.tables e below _ (T137.setTop (mkF m 15 #[.val (.ref a1), .val (.long (-1 : Int64)), .second, .val (.int (12 : Int32)), .val (.int (16 : Int32))] [(.long (-1 : Int64)), (.int (12 : Int32)), (.ref a1)])) := fun t_ k_ => (gc p136 st137) t_ (by
    refine XS.iinc X137.here hx rfl (hb hby d4_16) rfl (l' := #[.val (.ref a1), .val (.long (-1 : Int64)), .second, .val (.int (12 : Int32)), .val (.int (16 : Int32))]) rfl ?_
    refine XS.goto X137.here hx rfl (pc0 := 19) (pc' := 6) rfl (hb hby d4_19) (by decide) (by decide) ?_
    refine XS.iloadN X137.here hx rfl (hb hby d4_6) rfl ?_
    refine XS.iload X137.here hx rfl (hb hby d4_7) rfl ?_
    refine XS.icmpNo X137.here hx rfl (hb hby d4_9) rfl (tlt (by decide : ((12 : Int32) < (16 : Int32)))).2.1 ?_
    refine XS.aloadN X137.here hx rfl (hb hby d4_12) rfl rfl ?_
    refine XS.iloadN X137.here hx rfl (hb hby d4_13) rfl ?_
    refine XS.lloadN X137.here hx rfl (hb hby d4_14) rfl ?_
    exact k_)
  obtain ⟨cl140, Ar140, q140, S140, Ng140, H140, G140⟩ := id V137
  have hin140 := inb_of S140 (j := (12 : Int32)) ⟨by decide, by decide⟩
  obtain ⟨T140, h140, X140, e140, W140, st140⟩ := stJ X137 hx hZ e137 Ar140 (j := (12 : Int32)) hin140 (g := (mkF m 15 #[.val (.ref a1), .val (.long (-1 : Int64)), .second, .val (.int (12 : Int32)), .val (.int (16 : Int32))] [(.long (-1 : Int64)), (.int (12 : Int32)), (.ref a1)])) rfl rfl (hb hby d4_15)
  have K141 : Keep h0 h140 [a1] := K138.wr W140 (Or.inl (List.mem_of_getElem? (i := 0) rfl))
  have N140 := Fr.snoc X140 N137 g1
  have V140 : Arv Z h140 a1 k1 .long (16 : Int32) [(.long (-1 : Int64)), (.long (-1 : Int64)), (.long (-1 : Int64)), (.long (-1 : Int64)), (.long (-1 : Int64)), (.long (-1 : Int64)), (.long (-1 : Int64)), (.long (-1 : Int64)), (.long (-1 : Int64)), (.long (-1 : Int64)), (.long (-1 : Int64)), (.long (-1 : Int64)), (.long (-1 : Int64)), (.long (0 : Int64)), (.long (0 : Int64)), (.long (0 : Int64))] (.long (0 : Int64)) := Arv.set Ar140 q140 S140 Ng140 H140 G140 rfl W140 12 rfl (Nat.le_of_ble_eq_true rfl)
  have p142 : Go p.tables e below _ (T140.setTop (mkF m 15 #[.val (.ref a1), .val (.long (-1 : Int64)), .second, .val (.int (13 : Int32)), .val (.int (16 : Int32))] [(.long (-1 : Int64)), (.int (13 : Int32)), (.ref a1)])) := fun t_ k_ => (gc p139 st140) t_ (by
    refine XS.iinc X140.here hx rfl (hb hby d4_16) rfl (l' := #[.val (.ref a1), .val (.long (-1 : Int64)), .second, .val (.int (13 : Int32)), .val (.int (16 : Int32))]) rfl ?_
    refine XS.goto X140.here hx rfl (pc0 := 19) (pc' := 6) rfl (hb hby d4_19) (by decide) (by decide) ?_
    refine XS.iloadN X140.here hx rfl (hb hby d4_6) rfl ?_
    refine XS.iload X140.here hx rfl (hb hby d4_7) rfl ?_
    refine XS.icmpNo X140.here hx rfl (hb hby d4_9) rfl (tlt (by decide : ((13 : Int32) < (16 : Int32)))).2.1 ?_
    refine XS.aloadN X140.here hx rfl (hb hby d4_12) rfl rfl ?_
    refine XS.iloadN X140.here hx rfl (hb hby d4_13) rfl ?_
    refine XS.lloadN X140.here hx rfl (hb hby d4_14) rfl ?_
    exact k_)
  obtain ⟨cl143, Ar143, q143, S143, Ng143, H143, G143⟩ := id V140
  have hin143 := inb_of S143 (j := (13 : Int32)) ⟨by decide, by decide⟩
  obtain ⟨T143, h143, X143, e143, W143, st143⟩ := stJ X140 hx hZ e140 Ar143 (j := (13 : Int32)) hin143 (g := (mkF m 15 #[.val (.ref a1), .val (.long (-1 : Int64)), .second, .val (.int (13 : Int32)), .val (.int (16 : Int32))] [(.long (-1 : Int64)), (.int (13 : Int32)), (.ref a1)])) rfl rfl (hb hby d4_15)
  have K144 : Keep h0 h143 [a1] := K141.wr W143 (Or.inl (List.mem_of_getElem? (i := 0) rfl))
  have N143 := Fr.snoc X143 N140 g1
  have V143 : Arv Z h143 a1 k1 .long (16 : Int32) [(.long (-1 : Int64)), (.long (-1 : Int64)), (.long (-1 : Int64)), (.long (-1 : Int64)), (.long (-1 : Int64)), (.long (-1 : Int64)), (.long (-1 : Int64)), (.long (-1 : Int64)), (.long (-1 : Int64)), (.long (-1 : Int64)), (.long (-1 : Int64)), (.long (-1 : Int64)), (.long (-1 : Int64)), (.long (-1 : Int64)), (.long (0 : Int64)), (.long (0 : Int64))] (.long (0 : Int64)) := Arv.set Ar143 q143 S143 Ng143 H143 G143 rfl W143 13 rfl (Nat.le_of_ble_eq_true rfl)
  have p145 : Go p.tables e below _ (T143.setTop (mkF m 15 #[.val (.ref a1), .val (.long (-1 : Int64)), .second, .val (.int (14 : Int32)), .val (.int (16 : Int32))] [(.long (-1 : Int64)), (.int (14 : Int32)), (.ref a1)])) := fun t_ k_ => (gc p142 st143) t_ (by
    refine XS.iinc X143.here hx rfl (hb hby d4_16) rfl (l' := #[.val (.ref a1), .val (.long (-1 : Int64)), .second, .val (.int (14 : Int32)), .val (.int (16 : Int32))]) rfl ?_
    refine XS.goto X143.here hx rfl (pc0 := 19) (pc' := 6) rfl (hb hby d4_19) (by decide) (by decide) ?_
    refine XS.iloadN X143.here hx rfl (hb hby d4_6) rfl ?_
    refine XS.iload X143.here hx rfl (hb hby d4_7) rfl ?_
    refine XS.icmpNo X143.here hx rfl (hb hby d4_9) rfl (tlt (by decide : ((14 : Int32) < (16 : Int32)))).2.1 ?_
    refine XS.aloadN X143.here hx rfl (hb hby d4_12) rfl rfl ?_
    refine XS.iloadN X143.here hx rfl (hb hby d4_13) rfl ?_
    refine XS.lloadN X143.here hx rfl (hb hby d4_14) rfl ?_
    exact k_)
  obtain ⟨cl146, Ar146, q146, S146, Ng146, H146, G146⟩ := id V143
  have hin146 := inb_of S146 (j := (14 : Int32)) ⟨by decide, by decide⟩
  obtain ⟨T146, h146, X146, e146, W146, st146⟩ := stJ X143 hx hZ e143 Ar146 (j := (14 : Int32)) hin146 (g := (mkF m 15 #[.val (.ref a1), .val (.long (-1 : Int64)), .second, .val (.int (14 : Int32)), .val (.int (16 : Int32))] [(.long (-1 : Int64)), (.int (14 : Int32)), (.ref a1)])) rfl rfl (hb hby d4_15)
  have K147 : Keep h0 h146 [a1] := K144.wr W146 (Or.inl (List.mem_of_getElem? (i := 0) rfl))
  have N146 := Fr.snoc X146 N143 g1
  have V146 : Arv Z h146 a1 k1 .long (16 : Int32) [(.long (-1 : Int64)), (.long (-1 : Int64)), (.long (-1 : Int64)), (.long (-1 : Int64)), (.long (-1 : Int64)), (.long (-1 : Int64)), (.long (-1 : Int64)), (.long (-1 : Int64)), (.long (-1 : Int64)), (.long (-1 : Int64)), (.long (-1 : Int64)), (.long (-1 : Int64)), (.long (-1 : Int64)), (.long (-1 : Int64)), (.long (-1 : Int64)), (.long (0 : Int64))] (.long (0 : Int64)) := Arv.set Ar146 q146 S146 Ng146 H146 G146 rfl W146 14 rfl (Nat.le_of_ble_eq_true rfl)
  have p148 : Go p.tables e below _ (T146.setTop (mkF m 15 #[.val (.ref a1), .val (.long (-1 : Int64)), .second, .val (.int (15 : Int32)), .val (.int (16 : Int32))] [(.long (-1 : Int64)), (.int (15 : Int32)), (.ref a1)])) := fun t_ k_ => (gc p145 st146) t_ (by
    refine XS.iinc X146.here hx rfl (hb hby d4_16) rfl (l' := #[.val (.ref a1), .val (.long (-1 : Int64)), .second, .val (.int (15 : Int32)), .val (.int (16 : Int32))]) rfl ?_
    refine XS.goto X146.here hx rfl (pc0 := 19) (pc' := 6) rfl (hb hby d4_19) (by decide) (by decide) ?_
    refine XS.iloadN X146.here hx rfl (hb hby d4_6) rfl ?_
    refine XS.iload X146.here hx rfl (hb hby d4_7) rfl ?_
    refine XS.icmpNo X146.here hx rfl (hb hby d4_9) rfl (tlt (by decide : ((15 : Int32) < (16 : Int32)))).2.1 ?_
    refine XS.aloadN X146.here hx rfl (hb hby d4_12) rfl rfl ?_
    refine XS.iloadN X146.here hx rfl (hb hby d4_13) rfl ?_
    refine XS.lloadN X146.here hx rfl (hb hby d4_14) rfl ?_
    exact k_)
  obtain ⟨cl149, Ar149, q149, S149, Ng149, H149, G149⟩ := id V146
  have hin149 := inb_of S149 (j := (15 : Int32)) ⟨by decide, by decide⟩
  obtain ⟨T149, h149, X149, e149, W149, st149⟩ := stJ X146 hx hZ e146 Ar149 (j := (15 : Int32)) hin149 (g := (mkF m 15 #[.val (.ref a1), .val (.long (-1 : Int64)), .second, .val (.int (15 : Int32)), .val (.int (16 : Int32))] [(.long (-1 : Int64)), (.int (15 : Int32)), (.ref a1)])) rfl rfl (hb hby d4_15)
  have K150 : Keep h0 h149 [a1] := K147.wr W149 (Or.inl (List.mem_of_getElem? (i := 0) rfl))
  have N149 := Fr.snoc X149 N146 g1
  have V149 : Arv Z h149 a1 k1 .long (16 : Int32) [(.long (-1 : Int64)), (.long (-1 : Int64)), (.long (-1 : Int64)), (.long (-1 : Int64)), (.long (-1 : Int64)), (.long (-1 : Int64)), (.long (-1 : Int64)), (.long (-1 : Int64)), (.long (-1 : Int64)), (.long (-1 : Int64)), (.long (-1 : Int64)), (.long (-1 : Int64)), (.long (-1 : Int64)), (.long (-1 : Int64)), (.long (-1 : Int64)), (.long (-1 : Int64))] (.long (0 : Int64)) := Arv.set Ar149 q149 S149 Ng149 H149 G149 rfl W149 15 rfl (Nat.le_of_ble_eq_true rfl)
  have p151 : Go p.tables e below _ (T149.setTop (mkF m 22 #[.val (.ref a1), .val (.long (-1 : Int64)), .second, .val (.int (16 : Int32)), .val (.int (16 : Int32))] [])) := fun t_ k_ => (gc p148 st149) t_ (by
    refine XS.iinc X149.here hx rfl (hb hby d4_16) rfl (l' := #[.val (.ref a1), .val (.long (-1 : Int64)), .second, .val (.int (16 : Int32)), .val (.int (16 : Int32))]) rfl ?_
    refine XS.goto X149.here hx rfl (pc0 := 19) (pc' := 6) rfl (hb hby d4_19) (by decide) (by decide) ?_
    refine XS.iloadN X149.here hx rfl (hb hby d4_6) rfl ?_
    refine XS.iload X149.here hx rfl (hb hby d4_7) rfl ?_
    refine XS.icmpYes X149.here hx rfl (pc0 := 9) (pc' := 22) rfl (hb hby d4_9) rfl (flt (by decide : ¬ ((16 : Int32) < (16 : Int32)))).2.1 (by decide) (by decide) ?_
    exact k_)
  obtain ⟨fs, hr, hrun, hended, hW, hsame⟩ := X149.leave (v := none) (fun _ => rfl)
  refine ⟨_, _, p151 _ (X149.returnOut hx Bd.returns (hb hby d4_22) hr), hrun, hended, _, _, rfl, ?_, ⟨_, rfl⟩, hW, hsame.mono (by decide) (by decide)⟩
  show Q4 Z a1 k1 h0 n0 _ T149.heap _
  rw [e149]
  exact ⟨rfl, N149, K150, V149⟩
theorem d3_0 : decode prog_46_method_9_code 0 = .ok (.iload_n 0, 1) := by decide +kernel
theorem d3_1 : decode prog_46_method_9_code 1 = .ok (.newarray .long, 2) := by decide +kernel
theorem d3_3 : decode prog_46_method_9_code 3 = .ok (.astore_n 1, 1) := by decide +kernel
theorem d3_4 : decode prog_46_method_9_code 4 = .ok (.aload_n 1, 1) := by decide +kernel
theorem d3_5 : decode prog_46_method_9_code 5 = .ok (.ldc2_w 25, 3) := by decide +kernel
theorem d3_8 : decode prog_46_method_9_code 8 = .ok (.invokestatic 54, 3) := by decide +kernel
theorem d3_11 : decode prog_46_method_9_code 11 = .ok (.aload_n 1, 1) := by decide +kernel
theorem d3_12 : decode prog_46_method_9_code 12 = .ok (.areturn, 1) := by decide +kernel
theorem pd2 : parseMethodDescriptor "([JJ)V" = some ⟨[(.array .long), .long], none⟩ := by decide +kernel
theorem pn3 : plainFor (⟨"com/example/subsume/subsume/reasoner/Positions", "newKeys", "(I)[J"⟩ : MethodName) = true := plainFor_of_name (by first | (simp [plainName, overriddenIn]; done) | decide +kernel)
theorem ef_rm3 (m : MethodId)  : entryFrame m #[(.int (16 : Int32))] 2 = mkF m 0 #[.val (.int (16 : Int32)), .unset] [] := by first | (simp [entryFrame, mkF, argsToLocals, Value.category]; done) | rfl
def Q3 (Z : State)  (h0 : Heap) (n0 : Nat) (v : Option Value) (h : Heap) (L : List Loc) : Prop := ∃ (b : Addr) (k1 : ClassId), v = some (.ref b) ∧ Fr n0 L ∧ (Keep h0 h []) ∧ (n0 ≤ b) ∧ (h0.size ≤ b) ∧ (Arv Z h b k1 .long (16 : Int32) [(.long (-1 : Int64)), (.long (-1 : Int64)), (.long (-1 : Int64)), (.long (-1 : Int64)), (.long (-1 : Int64)), (.long (-1 : Int64)), (.long (-1 : Int64)), (.long (-1 : Int64)), (.long (-1 : Int64)), (.long (-1 : Int64)), (.long (-1 : Int64)), (.long (-1 : Int64)), (.long (-1 : Int64)), (.long (-1 : Int64)), (.long (-1 : Int64)), (.long (-1 : Int64))] (.long (0 : Int64)))
set_option maxRecDepth 65536 in
set_option maxHeartbeats 40000000 in
theorem rm3 (l : Launch) (Z : State) (a0 : Array Value) (hw : ∀ d ∈ tables_1, d.before a0 Z = true) (ws : List Jvm.Cond)  (h0 : Heap) (n0 : Nat) (Z0 : n0 ≤ h0.size) :
    MetFree l (⟨"com/example/subsume/subsume/reasoner/Positions", "newKeys", "(I)[J"⟩ : MethodName) (head1 (Jvm.Cond.code (⟨"com/example/subsume/subsume/reasoner/Positions", "newKeys", "(I)[J"⟩ : MethodName) prog_46_method_9_code 2 (some (.array .long)) :: ws) ({ frames := 1, cells := 1, slots := 16, locals := 16 } : Room)) (fun a U => a = #[(.int (16 : Int32))] ∧ Z.Warmed39 U.vm ∧ U.heap = h0) (fun _ _ _ _ _ => True) (fun _ U o U' => ∃ v L, o = .returned v ∧ Q3 Z  h0 n0 v U'.heap L ∧ FrameEnd U o U' L ({ frames := 1, cells := 1, slots := 16, locals := 16 } : Room).cells ({ frames := 1, cells := 1, slots := 16, locals := 16 } : Room).slots) := by
  refine MetFree.of_bodySF pn3 hisR ?_
  intro p e s m args below meth c s₁ Bd hml0 hP hK
  obtain ⟨rfl, hZ, hh⟩ := hP
  have hx := Bd.exec
  have hby := Bd.bytes
  have hml : c.maxLocals = 2 := hml0
  have hown : s.vm.findClass "com/example/subsume/subsume/reasoner/Positions" = some m.cls := findClass_of_methodNamed Bd.named
  have hnm := (name_of_methodNamed Bd.named Bd.method).1
  have X0 : Stand p l e ({ frames := 1, cells := 1, slots := 16, locals := 16 } : Room) s m #[(.int (16 : Int32))] below meth c s₁ [] 0 0 := Stand.of_body Bd
  have e0 : s₁.heap = h0 := by rw [← hh, Bd.state]; rfl
  have N0 := Fr.nil n0
  have p0 : Go p.tables e below (s₁.setTop (entryFrame m #[(.int (16 : Int32))] 2)) (s₁.setTop (mkF m 0 #[.val (.int (16 : Int32)), .unset] [])) := fun t_ k_ => castTop (ef_rm3 m ) k_
  have p101 : Go p.tables e below _ (s₁.setTop (mkF m 1 #[.val (.int (16 : Int32)), .unset] [(.int (16 : Int32))])) := fun t_ k_ => p0 t_ (by
    refine XS.iloadN X0.here hx rfl (hb hby d3_0) rfl ?_
    exact k_)
  obtain ⟨T102, h102, k102, X102, e102, E102, A102, st102⟩ := newP X0 hx hZ (own_w hw 14 rfl) e0 (g := (mkF m 1 #[.val (.int (16 : Int32)), .unset] [(.int (16 : Int32))])) rfl (hb hby d3_1) rfl (by decide) (cap := 16) (by decide) (by decide) (by decide) (by decide)
  obtain ⟨b102, g102⟩ : ∃ z, z = h0.size := ⟨_, rfl⟩
  rw [← g102] at A102 st102
  have ge_b102 : n0 ≤ b102 := Nat.le_trans (Nat.le_trans Z0 (Keep.refl h0 []).1) (Nat.le_of_eq g102.symm)
  have sz_b102 : h0.size ≤ b102 := Nat.le_trans (Keep.refl h0 []).1 (Nat.le_of_eq g102.symm)
  have K103 : Keep h0 h102 [] := (Keep.refl h0 []).ext E102
  have V102 : Arv Z h102 b102 k102 .long (16 : Int32) [(.long (0 : Int64)), (.long (0 : Int64)), (.long (0 : Int64)), (.long (0 : Int64)), (.long (0 : Int64)), (.long (0 : Int64)), (.long (0 : Int64)), (.long (0 : Int64)), (.long (0 : Int64)), (.long (0 : Int64)), (.long (0 : Int64)), (.long (0 : Int64)), (.long (0 : Int64)), (.long (0 : Int64)), (.long (0 : Int64)), (.long (0 : Int64))] (.long (0 : Int64)) := (Arv.new A102 (by decide)).pad (pad_rep [] (.long (0 : Int64)) 16)
  have p104 : Go p.tables e below _ (T102.setTop (mkF m 8 #[.val (.int (16 : Int32)), .val (.ref b102)] [(.long (-1 : Int64)), (.ref b102)])) := fun t_ k_ => (gc p101 st102) t_ (by
    refine XS.astoreN X102.here hx rfl (hb hby d3_3) rfl rfl (l' := #[.val (.int (16 : Int32)), .val (.ref b102)]) rfl ?_
    refine XS.aloadN X102.here hx rfl (hb hby d3_4) rfl rfl ?_
    refine X102.ldc2Long hx hown (mvT hZ (own_w hw 15 rfl)) (g := (mkF m 5 #[.val (.int (16 : Int32)), .val (.ref b102)] [(.ref b102)])) rfl (hb hby d3_5) _ ?_
    exact k_)
  obtain ⟨_, _, ⟨T105, L105, k105, n105⟩, -, X105, ⟨Lc105, hQ105, l105, y105, z105⟩, st105⟩ := Jvm.LawKit.callS X102 hx (y := (⟨"java/util/Arrays", "fill", "([JJ)V"⟩ : MethodName)) hown (mvT hZ (own_w hw 16 rfl)) (mvT hZ (own_w hw 17 rfl)) (mvT hZ (own_w hw 18 rfl)) (mvT hZ (own_w hw 19 rfl)) (by decide) (backOf (W := 0) (rm4 l Z a0 hw [] b102 k102 h102 n0 (Nat.le_trans Z0 K103.1) V102 ge_b102) hZ (own_w hw 19 rfl) (own_w hw 18 rfl) (by decide) (by decide)) (g := (mkF m 8 #[.val (.int (16 : Int32)), .val (.ref b102)] [(.long (-1 : Int64)), (.ref b102)])) rfl (by rw [hml]; rfl) (argsL := [(.ref b102), (.long (-1 : Int64))]) (rest := []) (lenOf pd2 rfl) rfl (by show 2 * 0 + _ ≤ _; exact Nat.le_of_eq rfl) (hb hby d3_8) (fun _ _ => ⟨rfl, e102, (by decide : 1 + 0 ≤ _), (by decide : 16 + 0 ≤ _)⟩)
  dsimp only [Pt.U, Pt.locs, Pt.cells, Pt.slots] at X105 l105 y105 z105 st105 hQ105
  subst l105 y105 z105
  obtain ⟨rfl, N105q, q105_K, q105_V⟩ := hQ105
  have N105 := Fr.app N0 N105q
  have K106 : Keep h0 T105.heap [] := K103.trans q105_K (allS (Or.inr sz_b102) all0)
  have p107 : Go p.tables e below _ (T105.setTop (mkF m 12 #[.val (.int (16 : Int32)), .val (.ref b102)] [(.ref b102)])) := fun t_ k_ => (gc p104 st105) t_ (by
    refine XS.aloadN X105.here hx rfl (hb hby d3_11) rfl rfl ?_
    exact k_)
  obtain ⟨fs, hr, hrun, hended, hW, hsame⟩ := X105.leave (v := some (.ref b102)) (fun h => by rw [Bd.returns] at h; cases h)
  refine ⟨_, _, p107 _ (retOut X105 hx (w := (.ref b102)) (i := .areturn) Bd.returns rfl (Or.inr (Or.inr (Or.inr (Or.inr ⟨rfl, rfl, rfl⟩)))) (hb hby d3_12) hr), hrun, hended, _, _, rfl, ?_, ⟨_, rfl⟩, hW, hsame.mono (by decide) (by decide)⟩
  show Q3 Z  h0 n0 _ T105.heap _
  exact ⟨b102, k102, rfl, N105, K106, ge_b102, sz_b102, q105_V⟩
theorem d1_0 : decode prog_46_method_1_code 0 = .ok (.aload_n 0, 1) := by decide +kernel
theorem d1_1 : decode prog_46_method_1_code 1 = .ok (.invokespecial 1, 3) := by decide +kernel
theorem d1_4 : decode prog_46_method_1_code 4 = .ok (.aload_n 0, 1) := by decide +kernel
theorem d1_5 : decode prog_46_method_1_code 5 = .ok (.bipush 16, 2) := by decide +kernel
theorem d1_7 : decode prog_46_method_1_code 7 = .ok (.invokestatic 7, 3) := by decide +kernel
theorem d1_10 : decode prog_46_method_1_code 10 = .ok (.putfield 13, 3) := by decide +kernel
theorem d1_13 : decode prog_46_method_1_code 13 = .ok (.aload_n 0, 1) := by decide +kernel
theorem d1_14 : decode prog_46_method_1_code 14 = .ok (.bipush 16, 2) := by decide +kernel
theorem d1_16 : decode prog_46_method_1_code 16 = .ok (.newarray .int, 2) := by decide +kernel
theorem d1_18 : decode prog_46_method_1_code 18 = .ok (.putfield 17, 3) := by decide +kernel
theorem d1_21 : decode prog_46_method_1_code 21 = .ok (.return_, 1) := by decide +kernel
theorem pd3 : parseMethodDescriptor "(I)[J" = some ⟨[.int], some (.array .long)⟩ := by decide +kernel
theorem pn1 : plainFor (⟨"com/example/subsume/subsume/reasoner/Positions", "<init>", "()V"⟩ : MethodName) = true := plainFor_of_name (by first | (simp [plainName, overriddenIn]; done) | decide +kernel)
theorem ef_rm1 (m : MethodId) (a1 : Addr) : entryFrame m #[(.ref a1)] 1 = mkF m 0 #[.val (.ref a1)] [] := by first | (simp [entryFrame, mkF, argsToLocals, Value.category]; done) | rfl
def Q1 (Z : State) (a1 : Addr) (h0 : Heap) (n0 : Nat) (v : Option Value) (h : Heap) (L : List Loc) : Prop := ∃ (bk : Addr) (kk : ClassId) (bp : Addr) (kp : ClassId), v = none ∧ Fr n0 L ∧ (Keep h0 h [a1]) ∧ (Fld Z h a1 "com/example/subsume/subsume/reasoner/Positions" "keys" "[J" (.ref bk)) ∧ (Fld Z h a1 "com/example/subsume/subsume/reasoner/Positions" "positions" "[I" (.ref bp)) ∧ (Fld Z h a1 "com/example/subsume/subsume/reasoner/Positions" "size" "I" (.int (0 : Int32))) ∧ (Exa Z h a1 "com/example/subsume/subsume/reasoner/Positions") ∧ (Arv Z h bk kk .long (16 : Int32) ((List.replicate 16 (-1 : Int64)).map Value.long) (.long (0 : Int64))) ∧ (Arv Z h bp kp .int (16 : Int32) ((List.replicate 16 (0 : Int32)).map Value.int) (.int (0 : Int32))) ∧ (a1 ≠ bk) ∧ (a1 ≠ bp) ∧ (bk ≠ bp) ∧ (n0 ≤ bk) ∧ (n0 ≤ bp) ∧ (h0.size ≤ bk) ∧ (h0.size ≤ bp)
set_option maxRecDepth 65536 in
set_option maxHeartbeats 40000000 in
theorem rm1 (l : Launch) (Z : State) (a0 : Array Value) (hw : ∀ d ∈ tables_1, d.before a0 Z = true) (ws : List Jvm.Cond) (a1 : Addr) (h0 : Heap) (n0 : Nat) (Z0 : n0 ≤ h0.size) (F1 : Fld Z h0 a1 "com/example/subsume/subsume/reasoner/Positions" "keys" "[J" .null) (F2 : Fld Z h0 a1 "com/example/subsume/subsume/reasoner/Positions" "positions" "[I" .null) (F3 : Fld Z h0 a1 "com/example/subsume/subsume/reasoner/Positions" "size" "I" (.int (0 : Int32))) (E1 : Exa Z h0 a1 "com/example/subsume/subsume/reasoner/Positions") (g1 : n0 ≤ a1) :
    MetFree l (⟨"com/example/subsume/subsume/reasoner/Positions", "<init>", "()V"⟩ : MethodName) (head1 (Jvm.Cond.code (⟨"com/example/subsume/subsume/reasoner/Positions", "<init>", "()V"⟩ : MethodName) prog_46_method_1_code 1 none :: ws) ({ frames := 2, cells := 2, slots := 32, locals := 30 } : Room)) (fun a U => a = #[(.ref a1)] ∧ Z.Warmed39 U.vm ∧ U.heap = h0) (fun _ _ _ _ _ => True) (fun _ U o U' => ∃ v L, o = .returned v ∧ Q1 Z a1 h0 n0 v U'.heap L ∧ FrameEnd U o U' L ({ frames := 2, cells := 2, slots := 32, locals := 30 } : Room).cells ({ frames := 2, cells := 2, slots := 32, locals := 30 } : Room).slots) := by
  refine MetFree.of_bodySF pn1 hisR ?_
  intro p e s m args below meth c s₁ Bd hml0 hP hK
  obtain ⟨rfl, hZ, hh⟩ := hP
  have hx := Bd.exec
  have hby := Bd.bytes
  have hml : c.maxLocals = 1 := hml0
  have hown : s.vm.findClass "com/example/subsume/subsume/reasoner/Positions" = some m.cls := findClass_of_methodNamed Bd.named
  have hnm := (name_of_methodNamed Bd.named Bd.method).1
  have X0 : Stand p l e ({ frames := 2, cells := 2, slots := 32, locals := 30 } : Room) s m #[(.ref a1)] below meth c s₁ [] 0 0 := Stand.of_body Bd
  have e0 : s₁.heap = h0 := by rw [← hh, Bd.state]; rfl
  have N0 := Fr.nil n0
  have p0 : Go p.tables e below (s₁.setTop (entryFrame m #[(.ref a1)] 1)) (s₁.setTop (mkF m 0 #[.val (.ref a1)] [])) := fun t_ k_ => castTop (ef_rm1 m a1) k_
  have p101 : Go p.tables e below _ (s₁.setTop (mkF m 1 #[.val (.ref a1)] [(.ref a1)])) := fun t_ k_ => p0 t_ (by
    refine XS.aloadN X0.here hx rfl (hb hby d1_0) rfl rfl ?_
    exact k_)
  obtain ⟨T102, X102, e102, st102⟩ := initO X0 hx hZ hown (own_w hw 8 rfl) (own_w hw 9 rfl) (own_w hw 10 rfl) e0 (g := (mkF m 1 #[.val (.ref a1)] [(.ref a1)])) rfl (by rw [hml]; rfl) rfl (hb hby d1_1) (by decide) (W := 0) (by show 2 * 0 + _ ≤ _; exact Nat.le_of_eq rfl) (by decide)
  have p103 : Go p.tables e below _ (T102.setTop (mkF m 7 #[.val (.ref a1)] [(.int (16 : Int32)), (.ref a1)])) := fun t_ k_ => (gc p101 st102) t_ (by
    refine XS.aloadN X102.here hx rfl (hb hby d1_4) rfl rfl ?_
    refine XS.bipush X102.here hx rfl (hb hby d1_5) ?_
    exact k_)
  obtain ⟨_, _, ⟨T104, L104, k104, n104⟩, -, X104, ⟨Lc104, hQ104, l104, y104, z104⟩, st104⟩ := Jvm.LawKit.callS X102 hx (y := (⟨"com/example/subsume/subsume/reasoner/Positions", "newKeys", "(I)[J"⟩ : MethodName)) hown (mvT hZ (own_w hw 11 rfl)) (mvT hZ (own_w hw 12 rfl)) (mvT hZ (own_w hw 4 rfl)) (mvT hZ (own_w hw 13 rfl)) (by decide) (backOf (W := 1) (rm3 l Z a0 hw []  h0 n0 (Nat.le_trans Z0 (Keep.refl h0 [a1]).1) ) hZ (own_w hw 13 rfl) (own_w hw 4 rfl) (by decide) (by decide)) (g := (mkF m 7 #[.val (.ref a1)] [(.int (16 : Int32)), (.ref a1)])) rfl (by rw [hml]; rfl) (argsL := [(.int (16 : Int32))]) (rest := [(.ref a1)]) (lenOf pd3 rfl) rfl (by show 2 * 0 + _ ≤ _; exact Nat.le_of_eq rfl) (hb hby d1_7) (fun _ _ => ⟨rfl, e102, (by decide : 0 + 1 ≤ _), (by decide : 0 + 16 ≤ _)⟩)
  dsimp only [Pt.U, Pt.locs, Pt.cells, Pt.slots] at X104 l104 y104 z104 st104 hQ104
  subst l104 y104 z104
  obtain ⟨x105, x106, rfl, N104q, q104_K, q104_g, q104_z, q104_V⟩ := hQ104
  have N104 := Fr.app N0 N104q
  have K107 : Keep h0 T104.heap [a1] := (Keep.refl h0 [a1]).trans q104_K all0
  have ne_a1_x105 : a1 ≠ x105 := Nat.ne_of_lt (Nat.lt_of_lt_of_le E1.lt q104_z)
  have f108 := (F1.keep q104_K nin0)
  have f109 := (E1.keep q104_K)
  obtain ⟨T110, h110, X110, e110, W110, st110⟩ := putF X104 hx hZ hown (host := "") (Or.inl (own_w hw 20 rfl)) Via.refl rfl f108 f109 (Or.inl (own_w hw 21 rfl)) (own_w hw 3 rfl) (ty := (.array .long)) (by decide) rfl rfl (g := (mkF m 10 #[.val (.ref a1)] [(.ref x105), (.ref a1)])) rfl rfl (hb hby d1_10)
  have K111 : Keep h0 h110 [a1] := K107.wr W110 (Or.inl (List.mem_of_getElem? (i := 0) rfl))
  have N110 := Fr.snoc X110 N104 g1
  have F110 : Fld Z h110 a1 "com/example/subsume/subsume/reasoner/Positions" "keys" "[J" (.ref x105) := f108.same W110
  have p112 : Go p.tables e below _ (T110.setTop (mkF m 16 #[.val (.ref a1)] [(.int (16 : Int32)), (.ref a1)])) := fun t_ k_ => (gc (gc p103 st104) st110) t_ (by
    refine XS.aloadN X110.here hx rfl (hb hby d1_13) rfl rfl ?_
    refine XS.bipush X110.here hx rfl (hb hby d1_14) ?_
    exact k_)
  obtain ⟨T113, h113, k113, X113, e113, E113, A113, st113⟩ := newP X110 hx hZ (own_w hw 22 rfl) e110 (g := (mkF m 16 #[.val (.ref a1)] [(.int (16 : Int32)), (.ref a1)])) rfl (hb hby d1_16) rfl (by decide) (cap := 16) (by decide) (by decide) (by decide) (by decide)
  obtain ⟨b113, g113⟩ : ∃ z, z = h110.size := ⟨_, rfl⟩
  rw [← g113] at A113 st113
  have ne_a1_b113 : a1 ≠ b113 := Nat.ne_of_lt (Nat.lt_of_lt_of_le F110.lt (Nat.le_of_eq g113.symm))
  have f114 := (q104_V.other W110 (Ne.symm ne_a1_x105))
  have ne_x105_b113 : x105 ≠ b113 := Nat.ne_of_lt (Nat.lt_of_lt_of_le f114.lt (Nat.le_of_eq g113.symm))
  have ge_b113 : n0 ≤ b113 := Nat.le_trans (Nat.le_trans Z0 K111.1) (Nat.le_of_eq g113.symm)
  have sz_b113 : h0.size ≤ b113 := Nat.le_trans K111.1 (Nat.le_of_eq g113.symm)
  have K115 : Keep h0 h113 [a1] := K111.ext E113
  have V113 : Arv Z h113 b113 k113 .int (16 : Int32) [(.int (0 : Int32)), (.int (0 : Int32)), (.int (0 : Int32)), (.int (0 : Int32)), (.int (0 : Int32)), (.int (0 : Int32)), (.int (0 : Int32)), (.int (0 : Int32)), (.int (0 : Int32)), (.int (0 : Int32)), (.int (0 : Int32)), (.int (0 : Int32)), (.int (0 : Int32)), (.int (0 : Int32)), (.int (0 : Int32)), (.int (0 : Int32))] (.int (0 : Int32)) := (Arv.new A113 (by decide)).pad (pad_rep [] (.int (0 : Int32)) 16)
  have f116 := (((F2.keep q104_K nin0).other W110 (Or.inr (slot_ne (Or.inl (own_w hw 24 rfl)) (Or.inl (own_w hw 21 rfl)) (by decide) (t := (.array .int)) (t' := (.array .long)) (by decide) (by decide)))).ext E113)
  have f117 := ((f109.wr W110).ext E113)
  obtain ⟨T118, h118, X118, e118, W118, st118⟩ := putF X113 hx hZ hown (host := "") (Or.inl (own_w hw 23 rfl)) Via.refl e113 f116 f117 (Or.inl (own_w hw 24 rfl)) (own_w hw 3 rfl) (ty := (.array .int)) (by decide) rfl rfl (g := (mkF m 18 #[.val (.ref a1)] [(.ref b113), (.ref a1)])) rfl rfl (hb hby d1_18)
  have K119 : Keep h0 h118 [a1] := K115.wr W118 (Or.inl (List.mem_of_getElem? (i := 0) rfl))
  have N118 := Fr.snoc X118 N110 g1
  have F118 : Fld Z h118 a1 "com/example/subsume/subsume/reasoner/Positions" "positions" "[I" (.ref b113) := f116.same W118
  have f120 := ((F110.ext E113).other W118 (Or.inr (slot_ne (Or.inl (own_w hw 21 rfl)) (Or.inl (own_w hw 24 rfl)) (by decide) (t := (.array .long)) (t' := (.array .int)) (by decide) (by decide))))
  have f121 := ((((F3.keep q104_K nin0).other W110 (Or.inr (slot_ne (Or.inl (own_w hw 31 rfl)) (Or.inl (own_w hw 21 rfl)) (by decide) (t := .int) (t' := (.array .long)) (by decide) (by decide)))).ext E113).other W118 (Or.inr (slot_ne (Or.inl (own_w hw 31 rfl)) (Or.inl (own_w hw 24 rfl)) (by decide) (t := .int) (t' := (.array .int)) (by decide) (by decide))))
  have f122 := (f117.wr W118)
  have f123 := ((f114.ext E113).other W118 (Ne.symm ne_a1_x105))
  have f124 := (V113.other W118 (Ne.symm ne_a1_b113))
  obtain ⟨fs, hr, hrun, hended, hW, hsame⟩ := X118.leave (v := none) (fun _ => rfl)
  refine ⟨_, _, (gc (gc p112 st113) st118) _ (X118.returnOut hx Bd.returns (hb hby d1_21) hr), hrun, hended, _, _, rfl, ?_, ⟨_, rfl⟩, hW, hsame.mono (by decide) (by decide)⟩
  show Q1 Z a1 h0 n0 _ T118.heap _
  rw [e118]
  exact ⟨x105, x106, b113, k113, rfl, N118, K119, f120, F118, f121, f122, f123, f124, ne_a1_x105, ne_a1_b113, ne_x105_b113, q104_g, ge_b113, (Nat.le_trans (Keep.refl h0 [a1]).1 q104_z), sz_b113⟩
theorem d10_0 : decode method_2_code 0 = .ok (.iload_n 1, 1) := by decide +kernel
theorem d10_1 : decode method_2_code 1 = .ok (.iload_n 2, 1) := by decide +kernel
theorem d10_2 : decode method_2_code 2 = .ok (.if_icmp .ne 14, 3) := by decide +kernel
theorem d10_5 : decode method_2_code 5 = .ok (.iload_n 0, 1) := by decide +kernel
theorem d10_6 : decode method_2_code 6 = .ok (.iconst (-1), 1) := by decide +kernel
theorem d10_7 : decode method_2_code 7 = .ok (.if_icmp .ne 7, 3) := by decide +kernel
theorem d10_10 : decode method_2_code 10 = .ok (.iconst 1, 1) := by decide +kernel
theorem d10_11 : decode method_2_code 11 = .ok (.goto 4, 3) := by decide +kernel
theorem d10_14 : decode method_2_code 14 = .ok (.iconst 0, 1) := by decide +kernel
theorem d10_15 : decode method_2_code 15 = .ok (.ireturn, 1) := by decide +kernel
theorem d10_16 : decode method_2_code 16 = .ok (.iload_n 0, 1) := by decide +kernel
theorem d10_17 : decode method_2_code 17 = .ok (.iload_n 1, 1) := by decide +kernel
theorem d10_18 : decode method_2_code 18 = .ok (.if_icmp .ne 7, 3) := by decide +kernel
theorem d10_21 : decode method_2_code 21 = .ok (.iconst 1, 1) := by decide +kernel
theorem d10_22 : decode method_2_code 22 = .ok (.goto 4, 3) := by decide +kernel
theorem d10_25 : decode method_2_code 25 = .ok (.iconst 0, 1) := by decide +kernel
theorem d10_26 : decode method_2_code 26 = .ok (.ireturn, 1) := by decide +kernel
theorem pn10 : plainFor (⟨"com/example/subsume/subsume/reasoner/PositionsRemovePinLaw", "ok", "(III)Z"⟩ : MethodName) = true := plainFor_of_name (by first | (simp [plainName, overriddenIn]; done) | decide +kernel)
theorem ef_rm10 (m : MethodId) (p1 : Int32) (p2 : Int32) (p3 : Int32) : entryFrame m #[(.int p1), (.int p2), (.int p3)] 3 = mkF m 0 #[.val (.int p1), .val (.int p2), .val (.int p3)] [] := by first | (simp [entryFrame, mkF, argsToLocals, Value.category]; done) | rfl
def Q10 (Z : State) (p1 : Int32) (p2 : Int32) (p3 : Int32) (h0 : Heap) (n0 : Nat) (v : Option Value) (h : Heap) (L : List Loc) : Prop := v = some (.int (own_okv p1 p2 p3)) ∧ Fr n0 L ∧ (h = h0)
set_option maxRecDepth 65536 in
set_option maxHeartbeats 40000000 in
theorem rm10 (l : Launch) (Z : State) (a0 : Array Value) (hw : ∀ d ∈ tables_1, d.before a0 Z = true) (ws : List Jvm.Cond) (p1 : Int32) (p2 : Int32) (p3 : Int32) (h0 : Heap) (n0 : Nat) (Z0 : n0 ≤ h0.size) :
    MetFree l (⟨"com/example/subsume/subsume/reasoner/PositionsRemovePinLaw", "ok", "(III)Z"⟩ : MethodName) (head1 (Jvm.Cond.code (⟨"com/example/subsume/subsume/reasoner/PositionsRemovePinLaw", "ok", "(III)Z"⟩ : MethodName) method_2_code 3 (some .boolean) :: ws) ({ frames := 0, cells := 0, slots := 0, locals := 0 } : Room)) (fun a U => a = #[(.int p1), (.int p2), (.int p3)] ∧ Z.Warmed39 U.vm ∧ U.heap = h0) (fun _ _ _ _ _ => True) (fun _ U o U' => ∃ v L, o = .returned v ∧ Q10 Z p1 p2 p3 h0 n0 v U'.heap L ∧ FrameEnd U o U' L ({ frames := 0, cells := 0, slots := 0, locals := 0 } : Room).cells ({ frames := 0, cells := 0, slots := 0, locals := 0 } : Room).slots) := by
  refine MetFree.of_bodySF pn10 hisR ?_
  intro p e s m args below meth c s₁ Bd hml0 hP hK
  obtain ⟨rfl, hZ, hh⟩ := hP
  have hx := Bd.exec
  have hby := Bd.bytes
  have hml : c.maxLocals = 3 := hml0
  have hown : s.vm.findClass "com/example/subsume/subsume/reasoner/PositionsRemovePinLaw" = some m.cls := findClass_of_methodNamed Bd.named
  have hnm := (name_of_methodNamed Bd.named Bd.method).1
  have X0 : Stand p l e ({ frames := 0, cells := 0, slots := 0, locals := 0 } : Room) s m #[(.int p1), (.int p2), (.int p3)] below meth c s₁ [] 0 0 := Stand.of_body Bd
  have e0 : s₁.heap = h0 := by rw [← hh, Bd.state]; rfl
  have N0 := Fr.nil n0
  have p0 : Go p.tables e below (s₁.setTop (entryFrame m #[(.int p1), (.int p2), (.int p3)] 3)) (s₁.setTop (mkF m 0 #[.val (.int p1), .val (.int p2), .val (.int p3)] [])) := fun t_ k_ => castTop (ef_rm10 m p1 p2 p3) k_
  have p101 : Go p.tables e below _ (s₁.setTop (mkF m 2 #[.val (.int p1), .val (.int p2), .val (.int p3)] [(.int p3), (.int p2)])) := fun t_ k_ => p0 t_ (by
    refine XS.iloadN X0.here hx rfl (hb hby d10_0) rfl ?_
    refine XS.iloadN X0.here hx rfl (hb hby d10_1) rfl ?_
    exact k_)
  by_cases c102 : p2 = p3
  · have p103 : Go p.tables e below _ (s₁.setTop (mkF m 5 #[.val (.int p1), .val (.int p2), .val (.int p3)] [])) := fun t_ k_ => p101 t_ (by
      refine XS.icmpNo X0.here hx rfl (hb hby d10_2) rfl (teq c102).2 ?_
      exact k_)
    have p104 : Go p.tables e below _ (s₁.setTop (mkF m 7 #[.val (.int p1), .val (.int p2), .val (.int p3)] [(.int (-1 : Int32)), (.int p1)])) := fun t_ k_ => p103 t_ (by
      refine XS.iloadN X0.here hx rfl (hb hby d10_5) rfl ?_
      refine XS.iconst X0.here hx rfl (hb hby d10_6) ?_
      exact k_)
    by_cases c105 : p1 = (-1 : Int32)
    · have p106 : Go p.tables e below _ (s₁.setTop (mkF m 10 #[.val (.int p1), .val (.int p2), .val (.int p3)] [])) := fun t_ k_ => p104 t_ (by
        refine XS.icmpNo X0.here hx rfl (hb hby d10_7) rfl (teq c105).2 ?_
        exact k_)
      have p107 : Go p.tables e below _ (s₁.setTop (mkF m 15 #[.val (.int p1), .val (.int p2), .val (.int p3)] [(.int (1 : Int32))])) := fun t_ k_ => p106 t_ (by
        refine XS.iconst X0.here hx rfl (hb hby d10_10) ?_
        refine XS.goto X0.here hx rfl (pc0 := 11) (pc' := 15) rfl (hb hby d10_11) (by decide) (by decide) ?_
        exact k_)
      obtain ⟨fs, hr, hrun, hended, hW, hsame⟩ := X0.leave (v := some (.int (1 : Int32))) (fun h => by rw [Bd.returns] at h; cases h)
      refine ⟨_, _, p107 _ (retN X0 hx (t := .boolean) Bd.returns (by simp) (hb hby d10_15) hr), hrun, hended, _, _, rfl, ?_, ⟨_, rfl⟩, hW, hsame.mono (by decide) (by decide)⟩
      show Q10 Z p1 p2 p3 h0 n0 _ s₁.heap _
      rw [e0]
      exact ⟨by simp [own_okv, c102, c105], N0, rfl⟩
    · have p108 : Go p.tables e below _ (s₁.setTop (mkF m 14 #[.val (.int p1), .val (.int p2), .val (.int p3)] [])) := fun t_ k_ => p104 t_ (by
        refine XS.icmpYes X0.here hx rfl (pc0 := 7) (pc' := 14) rfl (hb hby d10_7) rfl (feq c105).2 (by decide) (by decide) ?_
        exact k_)
      have p109 : Go p.tables e below _ (s₁.setTop (mkF m 15 #[.val (.int p1), .val (.int p2), .val (.int p3)] [(.int (0 : Int32))])) := fun t_ k_ => p108 t_ (by
        refine XS.iconst X0.here hx rfl (hb hby d10_14) ?_
        exact k_)
      obtain ⟨fs, hr, hrun, hended, hW, hsame⟩ := X0.leave (v := some (.int (0 : Int32))) (fun h => by rw [Bd.returns] at h; cases h)
      refine ⟨_, _, p109 _ (retN X0 hx (t := .boolean) Bd.returns (by simp) (hb hby d10_15) hr), hrun, hended, _, _, rfl, ?_, ⟨_, rfl⟩, hW, hsame.mono (by decide) (by decide)⟩
      show Q10 Z p1 p2 p3 h0 n0 _ s₁.heap _
      rw [e0]
      exact ⟨by simp [own_okv, c102, c105], N0, rfl⟩
  · have p110 : Go p.tables e below _ (s₁.setTop (mkF m 16 #[.val (.int p1), .val (.int p2), .val (.int p3)] [])) := fun t_ k_ => p101 t_ (by
      refine XS.icmpYes X0.here hx rfl (pc0 := 2) (pc' := 16) rfl (hb hby d10_2) rfl (feq c102).2 (by decide) (by decide) ?_
      exact k_)
    have p111 : Go p.tables e below _ (s₁.setTop (mkF m 18 #[.val (.int p1), .val (.int p2), .val (.int p3)] [(.int p2), (.int p1)])) := fun t_ k_ => p110 t_ (by
      refine XS.iloadN X0.here hx rfl (hb hby d10_16) rfl ?_
      refine XS.iloadN X0.here hx rfl (hb hby d10_17) rfl ?_
      exact k_)
    by_cases c112 : p1 = p2
    · have p113 : Go p.tables e below _ (s₁.setTop (mkF m 21 #[.val (.int p1), .val (.int p2), .val (.int p3)] [])) := fun t_ k_ => p111 t_ (by
        refine XS.icmpNo X0.here hx rfl (hb hby d10_18) rfl (teq c112).2 ?_
        exact k_)
      have p114 : Go p.tables e below _ (s₁.setTop (mkF m 26 #[.val (.int p1), .val (.int p2), .val (.int p3)] [(.int (1 : Int32))])) := fun t_ k_ => p113 t_ (by
        refine XS.iconst X0.here hx rfl (hb hby d10_21) ?_
        refine XS.goto X0.here hx rfl (pc0 := 22) (pc' := 26) rfl (hb hby d10_22) (by decide) (by decide) ?_
        exact k_)
      obtain ⟨fs, hr, hrun, hended, hW, hsame⟩ := X0.leave (v := some (.int (1 : Int32))) (fun h => by rw [Bd.returns] at h; cases h)
      refine ⟨_, _, p114 _ (retN X0 hx (t := .boolean) Bd.returns (by simp) (hb hby d10_26) hr), hrun, hended, _, _, rfl, ?_, ⟨_, rfl⟩, hW, hsame.mono (by decide) (by decide)⟩
      show Q10 Z p1 p2 p3 h0 n0 _ s₁.heap _
      rw [e0]
      exact ⟨by simp [own_okv, c102, c112], N0, rfl⟩
    · have p115 : Go p.tables e below _ (s₁.setTop (mkF m 25 #[.val (.int p1), .val (.int p2), .val (.int p3)] [])) := fun t_ k_ => p111 t_ (by
        refine XS.icmpYes X0.here hx rfl (pc0 := 18) (pc' := 25) rfl (hb hby d10_18) rfl (feq c112).2 (by decide) (by decide) ?_
        exact k_)
      have p116 : Go p.tables e below _ (s₁.setTop (mkF m 26 #[.val (.int p1), .val (.int p2), .val (.int p3)] [(.int (0 : Int32))])) := fun t_ k_ => p115 t_ (by
        refine XS.iconst X0.here hx rfl (hb hby d10_25) ?_
        exact k_)
      obtain ⟨fs, hr, hrun, hended, hW, hsame⟩ := X0.leave (v := some (.int (0 : Int32))) (fun h => by rw [Bd.returns] at h; cases h)
      refine ⟨_, _, p116 _ (retN X0 hx (t := .boolean) Bd.returns (by simp) (hb hby d10_26) hr), hrun, hended, _, _, rfl, ?_, ⟨_, rfl⟩, hW, hsame.mono (by decide) (by decide)⟩
      show Q10 Z p1 p2 p3 h0 n0 _ s₁.heap _
      rw [e0]
      exact ⟨by simp [own_okv, c102, c112], N0, rfl⟩
theorem pd4 : parseMethodDescriptor "()V" = some ⟨[], none⟩ := by decide +kernel
theorem pd5 : parseMethodDescriptor "(JI)V" = some ⟨[.long, .int], none⟩ := by decide +kernel
theorem pd6 : parseMethodDescriptor "(J)V" = some ⟨[.long], none⟩ := by decide +kernel
theorem pd7 : parseMethodDescriptor "(III)Z" = some ⟨[.int, .int, .int], some .boolean⟩ := by decide +kernel
theorem pn0 : plainFor (⟨"com/example/subsume/subsume/reasoner/PositionsRemovePinLaw", "law", "(JJJJJI)Z"⟩ : MethodName) = true := plainFor_of_name (by first | (simp [plainName, overriddenIn]; done) | decide +kernel)
theorem ef_rm0 (m : MethodId) (q1 : Int64) (q2 : Int64) (q3 : Int64) (q4 : Int64) (q5 : Int64) (p6 : Int32) : entryFrame m #[(.long q1), (.long q2), (.long q3), (.long q4), (.long q5), (.int p6)] maxLocals = mkF m 0 #[.val (.long q1), .second, .val (.long q2), .second, .val (.long q3), .second, .val (.long q4), .second, .val (.long q5), .second, .val (.int p6), .unset, .unset, .unset, .unset, .unset, .unset, .unset, .unset, .unset, .unset, .unset, .unset, .unset, .unset, .unset, .unset, .unset, .unset] [] := by first | (simp [entryFrame, mkF, argsToLocals, Value.category, maxLocals]; done) | rfl
def Q0 (Z : State) (q1 : Int64) (q2 : Int64) (q3 : Int64) (q4 : Int64) (q5 : Int64) (p6 : Int32) (h0 : Heap) (n0 : Nat) (v : Option Value) (h : Heap) (L : List Loc) : Prop := v = some (.int (1 : Int32)) ∧ Fr n0 L
set_option maxRecDepth 65536 in
set_option maxHeartbeats 40000000 in
theorem rm0 (l : Launch) (Z : State) (a0 : Array Value) (hw : ∀ d ∈ tables_1, d.before a0 Z = true) (ws : List Jvm.Cond) (q1 : Int64) (q2 : Int64) (q3 : Int64) (q4 : Int64) (q5 : Int64) (p6 : Int32) (h0 : Heap) (n0 : Nat) (Z0 : n0 ≤ h0.size) :
    MetFree l x (head1 (Jvm.Cond.code x code maxLocals ret :: ws) room_1) (fun a U => a = #[(.long q1), (.long q2), (.long q3), (.long q4), (.long q5), (.int p6)] ∧ Z.Warmed39 U.vm ∧ U.heap = h0) (fun _ _ _ _ _ => True) (fun _ U o U' => ∃ v L, o = .returned v ∧ Q0 Z q1 q2 q3 q4 q5 p6 h0 n0 v U'.heap L ∧ FrameEnd U o U' L room_1.cells room_1.slots) := by
  refine MetFree.of_bodySF pn0 hisR ?_
  intro p e s m args below meth c s₁ Bd hml0 hP hK
  obtain ⟨rfl, hZ, hh⟩ := hP
  have hx := Bd.exec
  have hby := Bd.bytes
  have hml : c.maxLocals = 29 := hml0
  have hown : s.vm.findClass "com/example/subsume/subsume/reasoner/PositionsRemovePinLaw" = some m.cls := findClass_of_methodNamed Bd.named
  have hnm := (name_of_methodNamed Bd.named Bd.method).1
  have X0 : Stand p l e room_1 s m #[(.long q1), (.long q2), (.long q3), (.long q4), (.long q5), (.int p6)] below meth c s₁ [] 0 0 := Stand.of_body Bd
  have e0 : s₁.heap = h0 := by rw [← hh, Bd.state]; rfl
  have N0 := Fr.nil n0
  have p0 : Go p.tables e below (s₁.setTop (entryFrame m #[(.long q1), (.long q2), (.long q3), (.long q4), (.long q5), (.int p6)] maxLocals)) (s₁.setTop (mkF m 0 #[.val (.long q1), .second, .val (.long q2), .second, .val (.long q3), .second, .val (.long q4), .second, .val (.long q5), .second, .val (.int p6), .unset, .unset, .unset, .unset, .unset, .unset, .unset, .unset, .unset, .unset, .unset, .unset, .unset, .unset, .unset, .unset, .unset, .unset] [])) := fun t_ k_ => castTop (ef_rm0 m q1 q2 q3 q4 q5 p6) k_
  have p101 : Go p.tables e below _ (s₁.setTop (mkF m 7 #[.val (.long q1), .second, .val (.long q2), .second, .val (.long q3), .second, .val (.long q4), .second, .val (.long q5), .second, .val (.int p6), .val (.long (q1 &&& (9223372036854775807 : Int64))), .second, .unset, .unset, .unset, .unset, .unset, .unset, .unset, .unset, .unset, .unset, .unset, .unset, .unset, .unset, .unset, .unset] [])) := fun t_ k_ => p0 t_ (by
    refine XS.lloadN X0.here hx rfl (hb hby at_0) rfl ?_
    refine X0.ldc2Long hx hown (mvT hZ (own_w hw 0 rfl)) (g := (mkF m 1 #[.val (.long q1), .second, .val (.long q2), .second, .val (.long q3), .second, .val (.long q4), .second, .val (.long q5), .second, .val (.int p6), .unset, .unset, .unset, .unset, .unset, .unset, .unset, .unset, .unset, .unset, .unset, .unset, .unset, .unset, .unset, .unset, .unset, .unset] [(.long q1)])) rfl (hb hby at_1) _ ?_
    refine XS.land X0.here hx rfl (hb hby at_4) rfl ?_
    refine XS.lstore X0.here hx rfl (hb hby at_5) rfl (l' := #[.val (.long q1), .second, .val (.long q2), .second, .val (.long q3), .second, .val (.long q4), .second, .val (.long q5), .second, .val (.int p6), .val (.long (q1 &&& (9223372036854775807 : Int64))), .second, .unset, .unset, .unset, .unset, .unset, .unset, .unset, .unset, .unset, .unset, .unset, .unset, .unset, .unset, .unset, .unset]) rfl ?_
    exact k_)
  obtain ⟨k0, hk0⟩ : ∃ z, z = (q1 &&& (9223372036854775807 : Int64)) := ⟨_, rfl⟩
  have p102 : Go p.tables e below (s₁.setTop (entryFrame m #[(.long q1), (.long q2), (.long q3), (.long q4), (.long q5), (.int p6)] maxLocals)) (s₁.setTop (mkF m 7 #[.val (.long q1), .second, .val (.long q2), .second, .val (.long q3), .second, .val (.long q4), .second, .val (.long q5), .second, .val (.int p6), .val (.long k0), .second, .unset, .unset, .unset, .unset, .unset, .unset, .unset, .unset, .unset, .unset, .unset, .unset, .unset, .unset, .unset, .unset] [])) := by rw [hk0]; exact p101
  have n0' : k0 ≠ -1 := by rw [hk0]; exact own_nn _
  have p103 : Go p.tables e below _ (s₁.setTop (mkF m 14 #[.val (.long q1), .second, .val (.long q2), .second, .val (.long q3), .second, .val (.long q4), .second, .val (.long q5), .second, .val (.int p6), .val (.long k0), .second, .val (.long (q2 &&& (9223372036854775807 : Int64))), .second, .unset, .unset, .unset, .unset, .unset, .unset, .unset, .unset, .unset, .unset, .unset, .unset, .unset, .unset] [])) := fun t_ k_ => p102 t_ (by
    refine XS.lloadN X0.here hx rfl (hb hby at_7) rfl ?_
    refine X0.ldc2Long hx hown (mvT hZ (own_w hw 0 rfl)) (g := (mkF m 8 #[.val (.long q1), .second, .val (.long q2), .second, .val (.long q3), .second, .val (.long q4), .second, .val (.long q5), .second, .val (.int p6), .val (.long k0), .second, .unset, .unset, .unset, .unset, .unset, .unset, .unset, .unset, .unset, .unset, .unset, .unset, .unset, .unset, .unset, .unset] [(.long q2)])) rfl (hb hby at_8) _ ?_
    refine XS.land X0.here hx rfl (hb hby at_11) rfl ?_
    refine XS.lstore X0.here hx rfl (hb hby at_12) rfl (l' := #[.val (.long q1), .second, .val (.long q2), .second, .val (.long q3), .second, .val (.long q4), .second, .val (.long q5), .second, .val (.int p6), .val (.long k0), .second, .val (.long (q2 &&& (9223372036854775807 : Int64))), .second, .unset, .unset, .unset, .unset, .unset, .unset, .unset, .unset, .unset, .unset, .unset, .unset, .unset, .unset]) rfl ?_
    exact k_)
  obtain ⟨k1, hk1⟩ : ∃ z, z = (q2 &&& (9223372036854775807 : Int64)) := ⟨_, rfl⟩
  have p104 : Go p.tables e below (s₁.setTop (entryFrame m #[(.long q1), (.long q2), (.long q3), (.long q4), (.long q5), (.int p6)] maxLocals)) (s₁.setTop (mkF m 14 #[.val (.long q1), .second, .val (.long q2), .second, .val (.long q3), .second, .val (.long q4), .second, .val (.long q5), .second, .val (.int p6), .val (.long k0), .second, .val (.long k1), .second, .unset, .unset, .unset, .unset, .unset, .unset, .unset, .unset, .unset, .unset, .unset, .unset, .unset, .unset] [])) := by rw [hk1]; exact p103
  have n1' : k1 ≠ -1 := by rw [hk1]; exact own_nn _
  have p105 : Go p.tables e below _ (s₁.setTop (mkF m 22 #[.val (.long q1), .second, .val (.long q2), .second, .val (.long q3), .second, .val (.long q4), .second, .val (.long q5), .second, .val (.int p6), .val (.long k0), .second, .val (.long k1), .second, .val (.long (q3 &&& (9223372036854775807 : Int64))), .second, .unset, .unset, .unset, .unset, .unset, .unset, .unset, .unset, .unset, .unset, .unset, .unset] [])) := fun t_ k_ => p104 t_ (by
    refine XS.lload X0.here hx rfl (hb hby at_14) rfl ?_
    refine X0.ldc2Long hx hown (mvT hZ (own_w hw 0 rfl)) (g := (mkF m 16 #[.val (.long q1), .second, .val (.long q2), .second, .val (.long q3), .second, .val (.long q4), .second, .val (.long q5), .second, .val (.int p6), .val (.long k0), .second, .val (.long k1), .second, .unset, .unset, .unset, .unset, .unset, .unset, .unset, .unset, .unset, .unset, .unset, .unset, .unset, .unset] [(.long q3)])) rfl (hb hby at_16) _ ?_
    refine XS.land X0.here hx rfl (hb hby at_19) rfl ?_
    refine XS.lstore X0.here hx rfl (hb hby at_20) rfl (l' := #[.val (.long q1), .second, .val (.long q2), .second, .val (.long q3), .second, .val (.long q4), .second, .val (.long q5), .second, .val (.int p6), .val (.long k0), .second, .val (.long k1), .second, .val (.long (q3 &&& (9223372036854775807 : Int64))), .second, .unset, .unset, .unset, .unset, .unset, .unset, .unset, .unset, .unset, .unset, .unset, .unset]) rfl ?_
    exact k_)
  obtain ⟨k2, hk2⟩ : ∃ z, z = (q3 &&& (9223372036854775807 : Int64)) := ⟨_, rfl⟩
  have p106 : Go p.tables e below (s₁.setTop (entryFrame m #[(.long q1), (.long q2), (.long q3), (.long q4), (.long q5), (.int p6)] maxLocals)) (s₁.setTop (mkF m 22 #[.val (.long q1), .second, .val (.long q2), .second, .val (.long q3), .second, .val (.long q4), .second, .val (.long q5), .second, .val (.int p6), .val (.long k0), .second, .val (.long k1), .second, .val (.long k2), .second, .unset, .unset, .unset, .unset, .unset, .unset, .unset, .unset, .unset, .unset, .unset, .unset] [])) := by rw [hk2]; exact p105
  have n2' : k2 ≠ -1 := by rw [hk2]; exact own_nn _
  have p107 : Go p.tables e below _ (s₁.setTop (mkF m 30 #[.val (.long q1), .second, .val (.long q2), .second, .val (.long q3), .second, .val (.long q4), .second, .val (.long q5), .second, .val (.int p6), .val (.long k0), .second, .val (.long k1), .second, .val (.long k2), .second, .val (.long (q4 &&& (9223372036854775807 : Int64))), .second, .unset, .unset, .unset, .unset, .unset, .unset, .unset, .unset, .unset, .unset] [])) := fun t_ k_ => p106 t_ (by
    refine XS.lload X0.here hx rfl (hb hby at_22) rfl ?_
    refine X0.ldc2Long hx hown (mvT hZ (own_w hw 0 rfl)) (g := (mkF m 24 #[.val (.long q1), .second, .val (.long q2), .second, .val (.long q3), .second, .val (.long q4), .second, .val (.long q5), .second, .val (.int p6), .val (.long k0), .second, .val (.long k1), .second, .val (.long k2), .second, .unset, .unset, .unset, .unset, .unset, .unset, .unset, .unset, .unset, .unset, .unset, .unset] [(.long q4)])) rfl (hb hby at_24) _ ?_
    refine XS.land X0.here hx rfl (hb hby at_27) rfl ?_
    refine XS.lstore X0.here hx rfl (hb hby at_28) rfl (l' := #[.val (.long q1), .second, .val (.long q2), .second, .val (.long q3), .second, .val (.long q4), .second, .val (.long q5), .second, .val (.int p6), .val (.long k0), .second, .val (.long k1), .second, .val (.long k2), .second, .val (.long (q4 &&& (9223372036854775807 : Int64))), .second, .unset, .unset, .unset, .unset, .unset, .unset, .unset, .unset, .unset, .unset]) rfl ?_
    exact k_)
  obtain ⟨k3, hk3⟩ : ∃ z, z = (q4 &&& (9223372036854775807 : Int64)) := ⟨_, rfl⟩
  have p108 : Go p.tables e below (s₁.setTop (entryFrame m #[(.long q1), (.long q2), (.long q3), (.long q4), (.long q5), (.int p6)] maxLocals)) (s₁.setTop (mkF m 30 #[.val (.long q1), .second, .val (.long q2), .second, .val (.long q3), .second, .val (.long q4), .second, .val (.long q5), .second, .val (.int p6), .val (.long k0), .second, .val (.long k1), .second, .val (.long k2), .second, .val (.long k3), .second, .unset, .unset, .unset, .unset, .unset, .unset, .unset, .unset, .unset, .unset] [])) := by rw [hk3]; exact p107
  have n3' : k3 ≠ -1 := by rw [hk3]; exact own_nn _
  have p109 : Go p.tables e below _ (s₁.setTop (mkF m 38 #[.val (.long q1), .second, .val (.long q2), .second, .val (.long q3), .second, .val (.long q4), .second, .val (.long q5), .second, .val (.int p6), .val (.long k0), .second, .val (.long k1), .second, .val (.long k2), .second, .val (.long k3), .second, .val (.long (q5 &&& (9223372036854775807 : Int64))), .second, .unset, .unset, .unset, .unset, .unset, .unset, .unset, .unset] [])) := fun t_ k_ => p108 t_ (by
    refine XS.lload X0.here hx rfl (hb hby at_30) rfl ?_
    refine X0.ldc2Long hx hown (mvT hZ (own_w hw 0 rfl)) (g := (mkF m 32 #[.val (.long q1), .second, .val (.long q2), .second, .val (.long q3), .second, .val (.long q4), .second, .val (.long q5), .second, .val (.int p6), .val (.long k0), .second, .val (.long k1), .second, .val (.long k2), .second, .val (.long k3), .second, .unset, .unset, .unset, .unset, .unset, .unset, .unset, .unset, .unset, .unset] [(.long q5)])) rfl (hb hby at_32) _ ?_
    refine XS.land X0.here hx rfl (hb hby at_35) rfl ?_
    refine XS.lstore X0.here hx rfl (hb hby at_36) rfl (l' := #[.val (.long q1), .second, .val (.long q2), .second, .val (.long q3), .second, .val (.long q4), .second, .val (.long q5), .second, .val (.int p6), .val (.long k0), .second, .val (.long k1), .second, .val (.long k2), .second, .val (.long k3), .second, .val (.long (q5 &&& (9223372036854775807 : Int64))), .second, .unset, .unset, .unset, .unset, .unset, .unset, .unset, .unset]) rfl ?_
    exact k_)
  obtain ⟨k4, hk4⟩ : ∃ z, z = (q5 &&& (9223372036854775807 : Int64)) := ⟨_, rfl⟩
  have p110 : Go p.tables e below (s₁.setTop (entryFrame m #[(.long q1), (.long q2), (.long q3), (.long q4), (.long q5), (.int p6)] maxLocals)) (s₁.setTop (mkF m 38 #[.val (.long q1), .second, .val (.long q2), .second, .val (.long q3), .second, .val (.long q4), .second, .val (.long q5), .second, .val (.int p6), .val (.long k0), .second, .val (.long k1), .second, .val (.long k2), .second, .val (.long k3), .second, .val (.long k4), .second, .unset, .unset, .unset, .unset, .unset, .unset, .unset, .unset] [])) := by rw [hk4]; exact p109
  have n4' : k4 ≠ -1 := by rw [hk4]; exact own_nn _
  have p111 : Go p.tables e below _ (s₁.setTop (mkF m 43 #[.val (.long q1), .second, .val (.long q2), .second, .val (.long q3), .second, .val (.long q4), .second, .val (.long q5), .second, .val (.int p6), .val (.long k0), .second, .val (.long k1), .second, .val (.long k2), .second, .val (.long k3), .second, .val (.long k4), .second, .unset, .unset, .unset, .unset, .unset, .unset, .unset, .unset] [(.int (lcmpW k0 k1))])) := fun t_ k_ => p110 t_ (by
    refine XS.lload X0.here hx rfl (hb hby at_38) rfl ?_
    refine XS.lload X0.here hx rfl (hb hby at_40) rfl ?_
    refine XS.lcmp X0.here hx rfl (hb hby at_42) rfl ?_
    exact k_)
  by_cases c112 : k0 = k1
  · have p113 : Go p.tables e below _ (s₁.setTop (mkF m 118 #[.val (.long q1), .second, .val (.long q2), .second, .val (.long q3), .second, .val (.long q4), .second, .val (.long q5), .second, .val (.int p6), .val (.long k0), .second, .val (.long k1), .second, .val (.long k2), .second, .val (.long k3), .second, .val (.long k4), .second, .unset, .unset, .unset, .unset, .unset, .unset, .unset, .unset] [])) := fun t_ k_ => p111 t_ (by
      refine XS.ifYes X0.here hx rfl (pc0 := 43) (pc' := 118) rfl (hb hby at_43) rfl ((if0 _ _).trans (teq ((lw_eq _ _).mpr c112)).1) (by decide) (by decide) ?_
      exact k_)
    have p114 : Go p.tables e below _ (s₁.setTop (mkF m 119 #[.val (.long q1), .second, .val (.long q2), .second, .val (.long q3), .second, .val (.long q4), .second, .val (.long q5), .second, .val (.int p6), .val (.long k0), .second, .val (.long k1), .second, .val (.long k2), .second, .val (.long k3), .second, .val (.long k4), .second, .unset, .unset, .unset, .unset, .unset, .unset, .unset, .unset] [(.int (1 : Int32))])) := fun t_ k_ => p113 t_ (by
      refine XS.iconst X0.here hx rfl (hb hby at_118) ?_
      exact k_)
    obtain ⟨fs, hr, hrun, hended, hW, hsame⟩ := X0.leave (v := some (.int (1 : Int32))) (fun h => by rw [Bd.returns] at h; cases h)
    refine ⟨_, _, p114 _ (retN X0 hx (t := .boolean) Bd.returns (by simp) (hb hby at_119) hr), hrun, hended, _, _, rfl, ?_, ⟨_, rfl⟩, hW, hsame.mono (by decide) (by decide)⟩
    show Q0 Z q1 q2 q3 q4 q5 p6 h0 n0 _ s₁.heap _
    rw [e0]
    exact ⟨rfl, N0⟩
  · have p115 : Go p.tables e below _ (s₁.setTop (mkF m 46 #[.val (.long q1), .second, .val (.long q2), .second, .val (.long q3), .second, .val (.long q4), .second, .val (.long q5), .second, .val (.int p6), .val (.long k0), .second, .val (.long k1), .second, .val (.long k2), .second, .val (.long k3), .second, .val (.long k4), .second, .unset, .unset, .unset, .unset, .unset, .unset, .unset, .unset] [])) := fun t_ k_ => p111 t_ (by
      refine XS.ifNo X0.here hx rfl (hb hby at_43) rfl ((if0 _ _).trans (feq (mt (lw_eq _ _).mp c112)).1) ?_
      exact k_)
    have p116 : Go p.tables e below _ (s₁.setTop (mkF m 51 #[.val (.long q1), .second, .val (.long q2), .second, .val (.long q3), .second, .val (.long q4), .second, .val (.long q5), .second, .val (.int p6), .val (.long k0), .second, .val (.long k1), .second, .val (.long k2), .second, .val (.long k3), .second, .val (.long k4), .second, .unset, .unset, .unset, .unset, .unset, .unset, .unset, .unset] [(.int (lcmpW k0 k2))])) := fun t_ k_ => p115 t_ (by
      refine XS.lload X0.here hx rfl (hb hby at_46) rfl ?_
      refine XS.lload X0.here hx rfl (hb hby at_48) rfl ?_
      refine XS.lcmp X0.here hx rfl (hb hby at_50) rfl ?_
      exact k_)
    by_cases c117 : k0 = k2
    · have p118 : Go p.tables e below _ (s₁.setTop (mkF m 118 #[.val (.long q1), .second, .val (.long q2), .second, .val (.long q3), .second, .val (.long q4), .second, .val (.long q5), .second, .val (.int p6), .val (.long k0), .second, .val (.long k1), .second, .val (.long k2), .second, .val (.long k3), .second, .val (.long k4), .second, .unset, .unset, .unset, .unset, .unset, .unset, .unset, .unset] [])) := fun t_ k_ => p116 t_ (by
        refine XS.ifYes X0.here hx rfl (pc0 := 51) (pc' := 118) rfl (hb hby at_51) rfl ((if0 _ _).trans (teq ((lw_eq _ _).mpr c117)).1) (by decide) (by decide) ?_
        exact k_)
      have p119 : Go p.tables e below _ (s₁.setTop (mkF m 119 #[.val (.long q1), .second, .val (.long q2), .second, .val (.long q3), .second, .val (.long q4), .second, .val (.long q5), .second, .val (.int p6), .val (.long k0), .second, .val (.long k1), .second, .val (.long k2), .second, .val (.long k3), .second, .val (.long k4), .second, .unset, .unset, .unset, .unset, .unset, .unset, .unset, .unset] [(.int (1 : Int32))])) := fun t_ k_ => p118 t_ (by
        refine XS.iconst X0.here hx rfl (hb hby at_118) ?_
        exact k_)
      obtain ⟨fs, hr, hrun, hended, hW, hsame⟩ := X0.leave (v := some (.int (1 : Int32))) (fun h => by rw [Bd.returns] at h; cases h)
      refine ⟨_, _, p119 _ (retN X0 hx (t := .boolean) Bd.returns (by simp) (hb hby at_119) hr), hrun, hended, _, _, rfl, ?_, ⟨_, rfl⟩, hW, hsame.mono (by decide) (by decide)⟩
      show Q0 Z q1 q2 q3 q4 q5 p6 h0 n0 _ s₁.heap _
      rw [e0]
      exact ⟨rfl, N0⟩
    · have p120 : Go p.tables e below _ (s₁.setTop (mkF m 54 #[.val (.long q1), .second, .val (.long q2), .second, .val (.long q3), .second, .val (.long q4), .second, .val (.long q5), .second, .val (.int p6), .val (.long k0), .second, .val (.long k1), .second, .val (.long k2), .second, .val (.long k3), .second, .val (.long k4), .second, .unset, .unset, .unset, .unset, .unset, .unset, .unset, .unset] [])) := fun t_ k_ => p116 t_ (by
        refine XS.ifNo X0.here hx rfl (hb hby at_51) rfl ((if0 _ _).trans (feq (mt (lw_eq _ _).mp c117)).1) ?_
        exact k_)
      have p121 : Go p.tables e below _ (s₁.setTop (mkF m 59 #[.val (.long q1), .second, .val (.long q2), .second, .val (.long q3), .second, .val (.long q4), .second, .val (.long q5), .second, .val (.int p6), .val (.long k0), .second, .val (.long k1), .second, .val (.long k2), .second, .val (.long k3), .second, .val (.long k4), .second, .unset, .unset, .unset, .unset, .unset, .unset, .unset, .unset] [(.int (lcmpW k0 k3))])) := fun t_ k_ => p120 t_ (by
        refine XS.lload X0.here hx rfl (hb hby at_54) rfl ?_
        refine XS.lload X0.here hx rfl (hb hby at_56) rfl ?_
        refine XS.lcmp X0.here hx rfl (hb hby at_58) rfl ?_
        exact k_)
      by_cases c122 : k0 = k3
      · have p123 : Go p.tables e below _ (s₁.setTop (mkF m 118 #[.val (.long q1), .second, .val (.long q2), .second, .val (.long q3), .second, .val (.long q4), .second, .val (.long q5), .second, .val (.int p6), .val (.long k0), .second, .val (.long k1), .second, .val (.long k2), .second, .val (.long k3), .second, .val (.long k4), .second, .unset, .unset, .unset, .unset, .unset, .unset, .unset, .unset] [])) := fun t_ k_ => p121 t_ (by
          refine XS.ifYes X0.here hx rfl (pc0 := 59) (pc' := 118) rfl (hb hby at_59) rfl ((if0 _ _).trans (teq ((lw_eq _ _).mpr c122)).1) (by decide) (by decide) ?_
          exact k_)
        have p124 : Go p.tables e below _ (s₁.setTop (mkF m 119 #[.val (.long q1), .second, .val (.long q2), .second, .val (.long q3), .second, .val (.long q4), .second, .val (.long q5), .second, .val (.int p6), .val (.long k0), .second, .val (.long k1), .second, .val (.long k2), .second, .val (.long k3), .second, .val (.long k4), .second, .unset, .unset, .unset, .unset, .unset, .unset, .unset, .unset] [(.int (1 : Int32))])) := fun t_ k_ => p123 t_ (by
          refine XS.iconst X0.here hx rfl (hb hby at_118) ?_
          exact k_)
        obtain ⟨fs, hr, hrun, hended, hW, hsame⟩ := X0.leave (v := some (.int (1 : Int32))) (fun h => by rw [Bd.returns] at h; cases h)
        refine ⟨_, _, p124 _ (retN X0 hx (t := .boolean) Bd.returns (by simp) (hb hby at_119) hr), hrun, hended, _, _, rfl, ?_, ⟨_, rfl⟩, hW, hsame.mono (by decide) (by decide)⟩
        show Q0 Z q1 q2 q3 q4 q5 p6 h0 n0 _ s₁.heap _
        rw [e0]
        exact ⟨rfl, N0⟩
      · have p125 : Go p.tables e below _ (s₁.setTop (mkF m 62 #[.val (.long q1), .second, .val (.long q2), .second, .val (.long q3), .second, .val (.long q4), .second, .val (.long q5), .second, .val (.int p6), .val (.long k0), .second, .val (.long k1), .second, .val (.long k2), .second, .val (.long k3), .second, .val (.long k4), .second, .unset, .unset, .unset, .unset, .unset, .unset, .unset, .unset] [])) := fun t_ k_ => p121 t_ (by
          refine XS.ifNo X0.here hx rfl (hb hby at_59) rfl ((if0 _ _).trans (feq (mt (lw_eq _ _).mp c122)).1) ?_
          exact k_)
        have p126 : Go p.tables e below _ (s₁.setTop (mkF m 67 #[.val (.long q1), .second, .val (.long q2), .second, .val (.long q3), .second, .val (.long q4), .second, .val (.long q5), .second, .val (.int p6), .val (.long k0), .second, .val (.long k1), .second, .val (.long k2), .second, .val (.long k3), .second, .val (.long k4), .second, .unset, .unset, .unset, .unset, .unset, .unset, .unset, .unset] [(.int (lcmpW k0 k4))])) := fun t_ k_ => p125 t_ (by
          refine XS.lload X0.here hx rfl (hb hby at_62) rfl ?_
          refine XS.lload X0.here hx rfl (hb hby at_64) rfl ?_
          refine XS.lcmp X0.here hx rfl (hb hby at_66) rfl ?_
          exact k_)
        by_cases c127 : k0 = k4
        · have p128 : Go p.tables e below _ (s₁.setTop (mkF m 118 #[.val (.long q1), .second, .val (.long q2), .second, .val (.long q3), .second, .val (.long q4), .second, .val (.long q5), .second, .val (.int p6), .val (.long k0), .second, .val (.long k1), .second, .val (.long k2), .second, .val (.long k3), .second, .val (.long k4), .second, .unset, .unset, .unset, .unset, .unset, .unset, .unset, .unset] [])) := fun t_ k_ => p126 t_ (by
            refine XS.ifYes X0.here hx rfl (pc0 := 67) (pc' := 118) rfl (hb hby at_67) rfl ((if0 _ _).trans (teq ((lw_eq _ _).mpr c127)).1) (by decide) (by decide) ?_
            exact k_)
          have p129 : Go p.tables e below _ (s₁.setTop (mkF m 119 #[.val (.long q1), .second, .val (.long q2), .second, .val (.long q3), .second, .val (.long q4), .second, .val (.long q5), .second, .val (.int p6), .val (.long k0), .second, .val (.long k1), .second, .val (.long k2), .second, .val (.long k3), .second, .val (.long k4), .second, .unset, .unset, .unset, .unset, .unset, .unset, .unset, .unset] [(.int (1 : Int32))])) := fun t_ k_ => p128 t_ (by
            refine XS.iconst X0.here hx rfl (hb hby at_118) ?_
            exact k_)
          obtain ⟨fs, hr, hrun, hended, hW, hsame⟩ := X0.leave (v := some (.int (1 : Int32))) (fun h => by rw [Bd.returns] at h; cases h)
          refine ⟨_, _, p129 _ (retN X0 hx (t := .boolean) Bd.returns (by simp) (hb hby at_119) hr), hrun, hended, _, _, rfl, ?_, ⟨_, rfl⟩, hW, hsame.mono (by decide) (by decide)⟩
          show Q0 Z q1 q2 q3 q4 q5 p6 h0 n0 _ s₁.heap _
          rw [e0]
          exact ⟨rfl, N0⟩
        · have p130 : Go p.tables e below _ (s₁.setTop (mkF m 70 #[.val (.long q1), .second, .val (.long q2), .second, .val (.long q3), .second, .val (.long q4), .second, .val (.long q5), .second, .val (.int p6), .val (.long k0), .second, .val (.long k1), .second, .val (.long k2), .second, .val (.long k3), .second, .val (.long k4), .second, .unset, .unset, .unset, .unset, .unset, .unset, .unset, .unset] [])) := fun t_ k_ => p126 t_ (by
            refine XS.ifNo X0.here hx rfl (hb hby at_67) rfl ((if0 _ _).trans (feq (mt (lw_eq _ _).mp c127)).1) ?_
            exact k_)
          have p131 : Go p.tables e below _ (s₁.setTop (mkF m 75 #[.val (.long q1), .second, .val (.long q2), .second, .val (.long q3), .second, .val (.long q4), .second, .val (.long q5), .second, .val (.int p6), .val (.long k0), .second, .val (.long k1), .second, .val (.long k2), .second, .val (.long k3), .second, .val (.long k4), .second, .unset, .unset, .unset, .unset, .unset, .unset, .unset, .unset] [(.int (lcmpW k1 k2))])) := fun t_ k_ => p130 t_ (by
            refine XS.lload X0.here hx rfl (hb hby at_70) rfl ?_
            refine XS.lload X0.here hx rfl (hb hby at_72) rfl ?_
            refine XS.lcmp X0.here hx rfl (hb hby at_74) rfl ?_
            exact k_)
          by_cases c132 : k1 = k2
          · have p133 : Go p.tables e below _ (s₁.setTop (mkF m 118 #[.val (.long q1), .second, .val (.long q2), .second, .val (.long q3), .second, .val (.long q4), .second, .val (.long q5), .second, .val (.int p6), .val (.long k0), .second, .val (.long k1), .second, .val (.long k2), .second, .val (.long k3), .second, .val (.long k4), .second, .unset, .unset, .unset, .unset, .unset, .unset, .unset, .unset] [])) := fun t_ k_ => p131 t_ (by
              refine XS.ifYes X0.here hx rfl (pc0 := 75) (pc' := 118) rfl (hb hby at_75) rfl ((if0 _ _).trans (teq ((lw_eq _ _).mpr c132)).1) (by decide) (by decide) ?_
              exact k_)
            have p134 : Go p.tables e below _ (s₁.setTop (mkF m 119 #[.val (.long q1), .second, .val (.long q2), .second, .val (.long q3), .second, .val (.long q4), .second, .val (.long q5), .second, .val (.int p6), .val (.long k0), .second, .val (.long k1), .second, .val (.long k2), .second, .val (.long k3), .second, .val (.long k4), .second, .unset, .unset, .unset, .unset, .unset, .unset, .unset, .unset] [(.int (1 : Int32))])) := fun t_ k_ => p133 t_ (by
              refine XS.iconst X0.here hx rfl (hb hby at_118) ?_
              exact k_)
            obtain ⟨fs, hr, hrun, hended, hW, hsame⟩ := X0.leave (v := some (.int (1 : Int32))) (fun h => by rw [Bd.returns] at h; cases h)
            refine ⟨_, _, p134 _ (retN X0 hx (t := .boolean) Bd.returns (by simp) (hb hby at_119) hr), hrun, hended, _, _, rfl, ?_, ⟨_, rfl⟩, hW, hsame.mono (by decide) (by decide)⟩
            show Q0 Z q1 q2 q3 q4 q5 p6 h0 n0 _ s₁.heap _
            rw [e0]
            exact ⟨rfl, N0⟩
          · have p135 : Go p.tables e below _ (s₁.setTop (mkF m 78 #[.val (.long q1), .second, .val (.long q2), .second, .val (.long q3), .second, .val (.long q4), .second, .val (.long q5), .second, .val (.int p6), .val (.long k0), .second, .val (.long k1), .second, .val (.long k2), .second, .val (.long k3), .second, .val (.long k4), .second, .unset, .unset, .unset, .unset, .unset, .unset, .unset, .unset] [])) := fun t_ k_ => p131 t_ (by
              refine XS.ifNo X0.here hx rfl (hb hby at_75) rfl ((if0 _ _).trans (feq (mt (lw_eq _ _).mp c132)).1) ?_
              exact k_)
            have p136 : Go p.tables e below _ (s₁.setTop (mkF m 83 #[.val (.long q1), .second, .val (.long q2), .second, .val (.long q3), .second, .val (.long q4), .second, .val (.long q5), .second, .val (.int p6), .val (.long k0), .second, .val (.long k1), .second, .val (.long k2), .second, .val (.long k3), .second, .val (.long k4), .second, .unset, .unset, .unset, .unset, .unset, .unset, .unset, .unset] [(.int (lcmpW k1 k3))])) := fun t_ k_ => p135 t_ (by
              refine XS.lload X0.here hx rfl (hb hby at_78) rfl ?_
              refine XS.lload X0.here hx rfl (hb hby at_80) rfl ?_
              refine XS.lcmp X0.here hx rfl (hb hby at_82) rfl ?_
              exact k_)
            by_cases c137 : k1 = k3
            · have p138 : Go p.tables e below _ (s₁.setTop (mkF m 118 #[.val (.long q1), .second, .val (.long q2), .second, .val (.long q3), .second, .val (.long q4), .second, .val (.long q5), .second, .val (.int p6), .val (.long k0), .second, .val (.long k1), .second, .val (.long k2), .second, .val (.long k3), .second, .val (.long k4), .second, .unset, .unset, .unset, .unset, .unset, .unset, .unset, .unset] [])) := fun t_ k_ => p136 t_ (by
                refine XS.ifYes X0.here hx rfl (pc0 := 83) (pc' := 118) rfl (hb hby at_83) rfl ((if0 _ _).trans (teq ((lw_eq _ _).mpr c137)).1) (by decide) (by decide) ?_
                exact k_)
              have p139 : Go p.tables e below _ (s₁.setTop (mkF m 119 #[.val (.long q1), .second, .val (.long q2), .second, .val (.long q3), .second, .val (.long q4), .second, .val (.long q5), .second, .val (.int p6), .val (.long k0), .second, .val (.long k1), .second, .val (.long k2), .second, .val (.long k3), .second, .val (.long k4), .second, .unset, .unset, .unset, .unset, .unset, .unset, .unset, .unset] [(.int (1 : Int32))])) := fun t_ k_ => p138 t_ (by
                refine XS.iconst X0.here hx rfl (hb hby at_118) ?_
                exact k_)
              obtain ⟨fs, hr, hrun, hended, hW, hsame⟩ := X0.leave (v := some (.int (1 : Int32))) (fun h => by rw [Bd.returns] at h; cases h)
              refine ⟨_, _, p139 _ (retN X0 hx (t := .boolean) Bd.returns (by simp) (hb hby at_119) hr), hrun, hended, _, _, rfl, ?_, ⟨_, rfl⟩, hW, hsame.mono (by decide) (by decide)⟩
              show Q0 Z q1 q2 q3 q4 q5 p6 h0 n0 _ s₁.heap _
              rw [e0]
              exact ⟨rfl, N0⟩
            · have p140 : Go p.tables e below _ (s₁.setTop (mkF m 86 #[.val (.long q1), .second, .val (.long q2), .second, .val (.long q3), .second, .val (.long q4), .second, .val (.long q5), .second, .val (.int p6), .val (.long k0), .second, .val (.long k1), .second, .val (.long k2), .second, .val (.long k3), .second, .val (.long k4), .second, .unset, .unset, .unset, .unset, .unset, .unset, .unset, .unset] [])) := fun t_ k_ => p136 t_ (by
                refine XS.ifNo X0.here hx rfl (hb hby at_83) rfl ((if0 _ _).trans (feq (mt (lw_eq _ _).mp c137)).1) ?_
                exact k_)
              have p141 : Go p.tables e below _ (s₁.setTop (mkF m 91 #[.val (.long q1), .second, .val (.long q2), .second, .val (.long q3), .second, .val (.long q4), .second, .val (.long q5), .second, .val (.int p6), .val (.long k0), .second, .val (.long k1), .second, .val (.long k2), .second, .val (.long k3), .second, .val (.long k4), .second, .unset, .unset, .unset, .unset, .unset, .unset, .unset, .unset] [(.int (lcmpW k1 k4))])) := fun t_ k_ => p140 t_ (by
                refine XS.lload X0.here hx rfl (hb hby at_86) rfl ?_
                refine XS.lload X0.here hx rfl (hb hby at_88) rfl ?_
                refine XS.lcmp X0.here hx rfl (hb hby at_90) rfl ?_
                exact k_)
              by_cases c142 : k1 = k4
              · have p143 : Go p.tables e below _ (s₁.setTop (mkF m 118 #[.val (.long q1), .second, .val (.long q2), .second, .val (.long q3), .second, .val (.long q4), .second, .val (.long q5), .second, .val (.int p6), .val (.long k0), .second, .val (.long k1), .second, .val (.long k2), .second, .val (.long k3), .second, .val (.long k4), .second, .unset, .unset, .unset, .unset, .unset, .unset, .unset, .unset] [])) := fun t_ k_ => p141 t_ (by
                  refine XS.ifYes X0.here hx rfl (pc0 := 91) (pc' := 118) rfl (hb hby at_91) rfl ((if0 _ _).trans (teq ((lw_eq _ _).mpr c142)).1) (by decide) (by decide) ?_
                  exact k_)
                have p144 : Go p.tables e below _ (s₁.setTop (mkF m 119 #[.val (.long q1), .second, .val (.long q2), .second, .val (.long q3), .second, .val (.long q4), .second, .val (.long q5), .second, .val (.int p6), .val (.long k0), .second, .val (.long k1), .second, .val (.long k2), .second, .val (.long k3), .second, .val (.long k4), .second, .unset, .unset, .unset, .unset, .unset, .unset, .unset, .unset] [(.int (1 : Int32))])) := fun t_ k_ => p143 t_ (by
                  refine XS.iconst X0.here hx rfl (hb hby at_118) ?_
                  exact k_)
                obtain ⟨fs, hr, hrun, hended, hW, hsame⟩ := X0.leave (v := some (.int (1 : Int32))) (fun h => by rw [Bd.returns] at h; cases h)
                refine ⟨_, _, p144 _ (retN X0 hx (t := .boolean) Bd.returns (by simp) (hb hby at_119) hr), hrun, hended, _, _, rfl, ?_, ⟨_, rfl⟩, hW, hsame.mono (by decide) (by decide)⟩
                show Q0 Z q1 q2 q3 q4 q5 p6 h0 n0 _ s₁.heap _
                rw [e0]
                exact ⟨rfl, N0⟩
              · have p145 : Go p.tables e below _ (s₁.setTop (mkF m 94 #[.val (.long q1), .second, .val (.long q2), .second, .val (.long q3), .second, .val (.long q4), .second, .val (.long q5), .second, .val (.int p6), .val (.long k0), .second, .val (.long k1), .second, .val (.long k2), .second, .val (.long k3), .second, .val (.long k4), .second, .unset, .unset, .unset, .unset, .unset, .unset, .unset, .unset] [])) := fun t_ k_ => p141 t_ (by
                  refine XS.ifNo X0.here hx rfl (hb hby at_91) rfl ((if0 _ _).trans (feq (mt (lw_eq _ _).mp c142)).1) ?_
                  exact k_)
                have p146 : Go p.tables e below _ (s₁.setTop (mkF m 99 #[.val (.long q1), .second, .val (.long q2), .second, .val (.long q3), .second, .val (.long q4), .second, .val (.long q5), .second, .val (.int p6), .val (.long k0), .second, .val (.long k1), .second, .val (.long k2), .second, .val (.long k3), .second, .val (.long k4), .second, .unset, .unset, .unset, .unset, .unset, .unset, .unset, .unset] [(.int (lcmpW k2 k3))])) := fun t_ k_ => p145 t_ (by
                  refine XS.lload X0.here hx rfl (hb hby at_94) rfl ?_
                  refine XS.lload X0.here hx rfl (hb hby at_96) rfl ?_
                  refine XS.lcmp X0.here hx rfl (hb hby at_98) rfl ?_
                  exact k_)
                by_cases c147 : k2 = k3
                · have p148 : Go p.tables e below _ (s₁.setTop (mkF m 118 #[.val (.long q1), .second, .val (.long q2), .second, .val (.long q3), .second, .val (.long q4), .second, .val (.long q5), .second, .val (.int p6), .val (.long k0), .second, .val (.long k1), .second, .val (.long k2), .second, .val (.long k3), .second, .val (.long k4), .second, .unset, .unset, .unset, .unset, .unset, .unset, .unset, .unset] [])) := fun t_ k_ => p146 t_ (by
                    refine XS.ifYes X0.here hx rfl (pc0 := 99) (pc' := 118) rfl (hb hby at_99) rfl ((if0 _ _).trans (teq ((lw_eq _ _).mpr c147)).1) (by decide) (by decide) ?_
                    exact k_)
                  have p149 : Go p.tables e below _ (s₁.setTop (mkF m 119 #[.val (.long q1), .second, .val (.long q2), .second, .val (.long q3), .second, .val (.long q4), .second, .val (.long q5), .second, .val (.int p6), .val (.long k0), .second, .val (.long k1), .second, .val (.long k2), .second, .val (.long k3), .second, .val (.long k4), .second, .unset, .unset, .unset, .unset, .unset, .unset, .unset, .unset] [(.int (1 : Int32))])) := fun t_ k_ => p148 t_ (by
                    refine XS.iconst X0.here hx rfl (hb hby at_118) ?_
                    exact k_)
                  obtain ⟨fs, hr, hrun, hended, hW, hsame⟩ := X0.leave (v := some (.int (1 : Int32))) (fun h => by rw [Bd.returns] at h; cases h)
                  refine ⟨_, _, p149 _ (retN X0 hx (t := .boolean) Bd.returns (by simp) (hb hby at_119) hr), hrun, hended, _, _, rfl, ?_, ⟨_, rfl⟩, hW, hsame.mono (by decide) (by decide)⟩
                  show Q0 Z q1 q2 q3 q4 q5 p6 h0 n0 _ s₁.heap _
                  rw [e0]
                  exact ⟨rfl, N0⟩
                · have p150 : Go p.tables e below _ (s₁.setTop (mkF m 102 #[.val (.long q1), .second, .val (.long q2), .second, .val (.long q3), .second, .val (.long q4), .second, .val (.long q5), .second, .val (.int p6), .val (.long k0), .second, .val (.long k1), .second, .val (.long k2), .second, .val (.long k3), .second, .val (.long k4), .second, .unset, .unset, .unset, .unset, .unset, .unset, .unset, .unset] [])) := fun t_ k_ => p146 t_ (by
                    refine XS.ifNo X0.here hx rfl (hb hby at_99) rfl ((if0 _ _).trans (feq (mt (lw_eq _ _).mp c147)).1) ?_
                    exact k_)
                  have p151 : Go p.tables e below _ (s₁.setTop (mkF m 107 #[.val (.long q1), .second, .val (.long q2), .second, .val (.long q3), .second, .val (.long q4), .second, .val (.long q5), .second, .val (.int p6), .val (.long k0), .second, .val (.long k1), .second, .val (.long k2), .second, .val (.long k3), .second, .val (.long k4), .second, .unset, .unset, .unset, .unset, .unset, .unset, .unset, .unset] [(.int (lcmpW k2 k4))])) := fun t_ k_ => p150 t_ (by
                    refine XS.lload X0.here hx rfl (hb hby at_102) rfl ?_
                    refine XS.lload X0.here hx rfl (hb hby at_104) rfl ?_
                    refine XS.lcmp X0.here hx rfl (hb hby at_106) rfl ?_
                    exact k_)
                  by_cases c152 : k2 = k4
                  · have p153 : Go p.tables e below _ (s₁.setTop (mkF m 118 #[.val (.long q1), .second, .val (.long q2), .second, .val (.long q3), .second, .val (.long q4), .second, .val (.long q5), .second, .val (.int p6), .val (.long k0), .second, .val (.long k1), .second, .val (.long k2), .second, .val (.long k3), .second, .val (.long k4), .second, .unset, .unset, .unset, .unset, .unset, .unset, .unset, .unset] [])) := fun t_ k_ => p151 t_ (by
                      refine XS.ifYes X0.here hx rfl (pc0 := 107) (pc' := 118) rfl (hb hby at_107) rfl ((if0 _ _).trans (teq ((lw_eq _ _).mpr c152)).1) (by decide) (by decide) ?_
                      exact k_)
                    have p154 : Go p.tables e below _ (s₁.setTop (mkF m 119 #[.val (.long q1), .second, .val (.long q2), .second, .val (.long q3), .second, .val (.long q4), .second, .val (.long q5), .second, .val (.int p6), .val (.long k0), .second, .val (.long k1), .second, .val (.long k2), .second, .val (.long k3), .second, .val (.long k4), .second, .unset, .unset, .unset, .unset, .unset, .unset, .unset, .unset] [(.int (1 : Int32))])) := fun t_ k_ => p153 t_ (by
                      refine XS.iconst X0.here hx rfl (hb hby at_118) ?_
                      exact k_)
                    obtain ⟨fs, hr, hrun, hended, hW, hsame⟩ := X0.leave (v := some (.int (1 : Int32))) (fun h => by rw [Bd.returns] at h; cases h)
                    refine ⟨_, _, p154 _ (retN X0 hx (t := .boolean) Bd.returns (by simp) (hb hby at_119) hr), hrun, hended, _, _, rfl, ?_, ⟨_, rfl⟩, hW, hsame.mono (by decide) (by decide)⟩
                    show Q0 Z q1 q2 q3 q4 q5 p6 h0 n0 _ s₁.heap _
                    rw [e0]
                    exact ⟨rfl, N0⟩
                  · have p155 : Go p.tables e below _ (s₁.setTop (mkF m 110 #[.val (.long q1), .second, .val (.long q2), .second, .val (.long q3), .second, .val (.long q4), .second, .val (.long q5), .second, .val (.int p6), .val (.long k0), .second, .val (.long k1), .second, .val (.long k2), .second, .val (.long k3), .second, .val (.long k4), .second, .unset, .unset, .unset, .unset, .unset, .unset, .unset, .unset] [])) := fun t_ k_ => p151 t_ (by
                      refine XS.ifNo X0.here hx rfl (hb hby at_107) rfl ((if0 _ _).trans (feq (mt (lw_eq _ _).mp c152)).1) ?_
                      exact k_)
                    have p156 : Go p.tables e below _ (s₁.setTop (mkF m 115 #[.val (.long q1), .second, .val (.long q2), .second, .val (.long q3), .second, .val (.long q4), .second, .val (.long q5), .second, .val (.int p6), .val (.long k0), .second, .val (.long k1), .second, .val (.long k2), .second, .val (.long k3), .second, .val (.long k4), .second, .unset, .unset, .unset, .unset, .unset, .unset, .unset, .unset] [(.int (lcmpW k3 k4))])) := fun t_ k_ => p155 t_ (by
                      refine XS.lload X0.here hx rfl (hb hby at_110) rfl ?_
                      refine XS.lload X0.here hx rfl (hb hby at_112) rfl ?_
                      refine XS.lcmp X0.here hx rfl (hb hby at_114) rfl ?_
                      exact k_)
                    by_cases c157 : k3 = k4
                    · have p158 : Go p.tables e below _ (s₁.setTop (mkF m 118 #[.val (.long q1), .second, .val (.long q2), .second, .val (.long q3), .second, .val (.long q4), .second, .val (.long q5), .second, .val (.int p6), .val (.long k0), .second, .val (.long k1), .second, .val (.long k2), .second, .val (.long k3), .second, .val (.long k4), .second, .unset, .unset, .unset, .unset, .unset, .unset, .unset, .unset] [])) := fun t_ k_ => p156 t_ (by
                        refine XS.ifNo X0.here hx rfl (hb hby at_115) rfl ((if0 _ _).trans (teq ((lw_eq _ _).mpr c157)).2) ?_
                        exact k_)
                      have p159 : Go p.tables e below _ (s₁.setTop (mkF m 119 #[.val (.long q1), .second, .val (.long q2), .second, .val (.long q3), .second, .val (.long q4), .second, .val (.long q5), .second, .val (.int p6), .val (.long k0), .second, .val (.long k1), .second, .val (.long k2), .second, .val (.long k3), .second, .val (.long k4), .second, .unset, .unset, .unset, .unset, .unset, .unset, .unset, .unset] [(.int (1 : Int32))])) := fun t_ k_ => p158 t_ (by
                        refine XS.iconst X0.here hx rfl (hb hby at_118) ?_
                        exact k_)
                      obtain ⟨fs, hr, hrun, hended, hW, hsame⟩ := X0.leave (v := some (.int (1 : Int32))) (fun h => by rw [Bd.returns] at h; cases h)
                      refine ⟨_, _, p159 _ (retN X0 hx (t := .boolean) Bd.returns (by simp) (hb hby at_119) hr), hrun, hended, _, _, rfl, ?_, ⟨_, rfl⟩, hW, hsame.mono (by decide) (by decide)⟩
                      show Q0 Z q1 q2 q3 q4 q5 p6 h0 n0 _ s₁.heap _
                      rw [e0]
                      exact ⟨rfl, N0⟩
                    · have p160 : Go p.tables e below _ (s₁.setTop (mkF m 120 #[.val (.long q1), .second, .val (.long q2), .second, .val (.long q3), .second, .val (.long q4), .second, .val (.long q5), .second, .val (.int p6), .val (.long k0), .second, .val (.long k1), .second, .val (.long k2), .second, .val (.long k3), .second, .val (.long k4), .second, .unset, .unset, .unset, .unset, .unset, .unset, .unset, .unset] [])) := fun t_ k_ => p156 t_ (by
                        refine XS.ifYes X0.here hx rfl (pc0 := 115) (pc' := 120) rfl (hb hby at_115) rfl ((if0 _ _).trans (feq (mt (lw_eq _ _).mp c157)).2) (by decide) (by decide) ?_
                        exact k_)
                      have d01 : k0 ≠ k1 := c112
                      have d02 : k0 ≠ k2 := c117
                      have d03 : k0 ≠ k3 := c122
                      have d04 : k0 ≠ k4 := c127
                      have d12 : k1 ≠ k2 := c132
                      have d13 : k1 ≠ k3 := c137
                      have d14 : k1 ≠ k4 := c142
                      have d23 : k2 ≠ k3 := c147
                      have d24 : k2 ≠ k4 := c152
                      have d34 : k3 ≠ k4 := c157
                      have p161 : Go p.tables e below _ (s₁.setTop (mkF m 129 #[.val (.long q1), .second, .val (.long q2), .second, .val (.long q3), .second, .val (.long q4), .second, .val (.long q5), .second, .val (.int p6), .val (.long k0), .second, .val (.long k1), .second, .val (.long k2), .second, .val (.long k3), .second, .val (.long k4), .second, .val (.int ((p6 &&& (2147483647 : Int32)) % (5 : Int32))), .unset, .unset, .unset, .unset, .unset, .unset, .unset] [])) := fun t_ k_ => p160 t_ (by
                        refine XS.iload X0.here hx rfl (hb hby at_120) rfl ?_
                        refine X0.ldcInt hx hown (mvT hZ (own_w hw 1 rfl)) (g := (mkF m 122 #[.val (.long q1), .second, .val (.long q2), .second, .val (.long q3), .second, .val (.long q4), .second, .val (.long q5), .second, .val (.int p6), .val (.long k0), .second, .val (.long k1), .second, .val (.long k2), .second, .val (.long k3), .second, .val (.long k4), .second, .unset, .unset, .unset, .unset, .unset, .unset, .unset, .unset] [(.int p6)])) rfl (hb hby at_122) _ ?_
                        refine XS.iand X0.here hx rfl (hb hby at_124) rfl ?_
                        refine XS.iconst X0.here hx rfl (hb hby at_125) ?_
                        refine Jvm.RoadKit.iremM X0 hx rfl (hb hby at_126) rfl (by decide) ?_
                        refine XS.istore X0.here hx rfl (hb hby at_127) rfl (l' := #[.val (.long q1), .second, .val (.long q2), .second, .val (.long q3), .second, .val (.long q4), .second, .val (.long q5), .second, .val (.int p6), .val (.long k0), .second, .val (.long k1), .second, .val (.long k2), .second, .val (.long k3), .second, .val (.long k4), .second, .val (.int ((p6 &&& (2147483647 : Int32)) % (5 : Int32))), .unset, .unset, .unset, .unset, .unset, .unset, .unset]) rfl ?_
                        exact k_)
                      obtain ⟨r, hr⟩ : ∃ z, z = ((p6 &&& (2147483647 : Int32)) % (5 : Int32)) := ⟨_, rfl⟩
                      have p162 : Go p.tables e below (s₁.setTop (entryFrame m #[(.long q1), (.long q2), (.long q3), (.long q4), (.long q5), (.int p6)] maxLocals)) (s₁.setTop (mkF m 129 #[.val (.long q1), .second, .val (.long q2), .second, .val (.long q3), .second, .val (.long q4), .second, .val (.long q5), .second, .val (.int p6), .val (.long k0), .second, .val (.long k1), .second, .val (.long k2), .second, .val (.long k3), .second, .val (.long k4), .second, .val (.int r), .unset, .unset, .unset, .unset, .unset, .unset, .unset] [])) := by rw [hr]; exact p161
                      have hr5 : r = 0 ∨ r = 1 ∨ r = 2 ∨ r = 3 ∨ r = 4 := by rw [hr]; exact own_rem5 _
                      obtain ⟨T163, h163, X163, e163, E163, A163, D163, -, st163⟩ := newO X0 hx hZ hown (own_w hw 2 rfl) (own_w hw 3 rfl) (own_w hw 4 rfl) e0 (g := (mkF m 129 #[.val (.long q1), .second, .val (.long q2), .second, .val (.long q3), .second, .val (.long q4), .second, .val (.long q5), .second, .val (.int p6), .val (.long k0), .second, .val (.long k1), .second, .val (.long k2), .second, .val (.long k3), .second, .val (.long k4), .second, .val (.int r), .unset, .unset, .unset, .unset, .unset, .unset, .unset] [])) rfl (hb hby at_129) (by decide) (by decide)
                      obtain ⟨b163, g163⟩ : ∃ z, z = h0.size := ⟨_, rfl⟩
                      rw [← g163] at A163 D163 st163
                      have ge_b163 : n0 ≤ b163 := Nat.le_trans (Nat.le_trans Z0 (Keep.refl h0 []).1) (Nat.le_of_eq g163.symm)
                      have sz_b163 : h0.size ≤ b163 := Nat.le_trans (Keep.refl h0 []).1 (Nat.le_of_eq g163.symm)
                      have K164 : Keep h0 h163 [] := (Keep.refl h0 []).ext E163
                      have F163_keys : Fld Z h163 b163 "com/example/subsume/subsume/reasoner/Positions" "keys" "[J" .null := D163 (Or.inl (own_w hw 21 rfl)) (ty := (.array .long)) (by decide)
                      have F163_positions : Fld Z h163 b163 "com/example/subsume/subsume/reasoner/Positions" "positions" "[I" .null := D163 (Or.inl (own_w hw 24 rfl)) (ty := (.array .int)) (by decide)
                      have F163_size : Fld Z h163 b163 "com/example/subsume/subsume/reasoner/Positions" "size" "I" (.int (0 : Int32)) := D163 (Or.inl (own_w hw 31 rfl)) (ty := .int) (by decide)
                      have p165 : Go p.tables e below _ (T163.setTop (mkF m 133 #[.val (.long q1), .second, .val (.long q2), .second, .val (.long q3), .second, .val (.long q4), .second, .val (.long q5), .second, .val (.int p6), .val (.long k0), .second, .val (.long k1), .second, .val (.long k2), .second, .val (.long k3), .second, .val (.long k4), .second, .val (.int r), .unset, .unset, .unset, .unset, .unset, .unset, .unset] [(.ref b163), (.ref b163)])) := fun t_ k_ => (gc p162 st163) t_ (by
                        refine XS.dup X163.here hx rfl (hb hby at_132) rfl rfl ?_
                        exact k_)
                      obtain ⟨_, _, ⟨T166, L166, k166, n166⟩, -, X166, ⟨Lc166, hQ166, l166, y166, z166⟩, st166⟩ := X163.specialBack hx (y := (⟨"com/example/subsume/subsume/reasoner/Positions", "<init>", "()V"⟩ : MethodName)) rfl hown (mvT hZ (own_w hw 5 rfl)) (mvT hZ (own_w hw 6 rfl)) (mvT hZ (own_w hw 7 rfl)) (by decide) (backOf (W := 1) (rm1 l Z a0 hw [] b163 h163 n0 (Nat.le_trans Z0 K164.1) F163_keys F163_positions F163_size A163 ge_b163) hZ (own_w hw 7 rfl) (own_w hw 4 rfl) (by decide) (by decide)) (g := (mkF m 133 #[.val (.long q1), .second, .val (.long q2), .second, .val (.long q3), .second, .val (.long q4), .second, .val (.long q5), .second, .val (.int p6), .val (.long k0), .second, .val (.long k1), .second, .val (.long k2), .second, .val (.long k3), .second, .val (.long k4), .second, .val (.int r), .unset, .unset, .unset, .unset, .unset, .unset, .unset] [(.ref b163), (.ref b163)])) rfl (by rw [hml]; rfl) (Steps.refl _) (a := b163) (argsL := []) (rest := [(.ref b163)]) (lenOf pd4 rfl) rfl (by show 2 * 0 + _ ≤ _; exact Nat.le_of_eq rfl) (hb hby at_133) (fun _ _ => ⟨rfl, e163, (by decide : 1 + 2 ≤ _), (by decide : 3 + 32 ≤ _)⟩)
                      dsimp only [Pt.U, Pt.locs, Pt.cells, Pt.slots] at X166 l166 y166 z166 st166 hQ166
                      subst l166 y166 z166
                      obtain ⟨x167, x168, x169, x170, rfl, N166q, q166_K, q166_k, q166_p, q166_s, q166_E, q166_vk, q166_vp, q166_n1, q166_n2, q166_n3, q166_g2, q166_g3, q166_z2, q166_z3⟩ := hQ166
                      have N166 := Fr.app N0 N166q
                      have K171 : Keep h0 T166.heap [] := K164.trans q166_K (allS (Or.inr sz_b163) all0)
                      have ne_b163_x167 : b163 ≠ x167 := Nat.ne_of_lt (Nat.lt_of_lt_of_le A163.lt q166_z2)
                      have ne_b163_x169 : b163 ≠ x169 := Nat.ne_of_lt (Nat.lt_of_lt_of_le A163.lt q166_z3)
                      obtain ⟨ks172, ps172, vk172, vp172, TB172⟩ : ∃ (ks : List Int64) (ps : List Int32), Arv Z T166.heap x167 x168 .long (16 : Int32) (ks.map Value.long) (.long (0 : Int64)) ∧ Arv Z T166.heap x169 x170 .int (16 : Int32) (ps.map Value.int) (.int (0 : Int32)) ∧ own_Tb own_home ks ps [] [] := ⟨_, _, q166_vk, q166_vp, own_Tb0⟩
                      obtain ⟨t0, ht0, hf0, hu0, TP0⟩ := own_Tb.put own_home_lt TB172 (by simp) n0' (by intro p; simp [d01, (Ne.symm d01), d02, (Ne.symm d02), d03, (Ne.symm d03), d04, (Ne.symm d04), d12, (Ne.symm d12), d13, (Ne.symm d13), d14, (Ne.symm d14), d23, (Ne.symm d23), d24, (Ne.symm d24), d34, (Ne.symm d34)]) (0 : Int32)
                      have p173 : Go p.tables e below _ (T166.setTop (mkF m 143 #[.val (.long q1), .second, .val (.long q2), .second, .val (.long q3), .second, .val (.long q4), .second, .val (.long q5), .second, .val (.int p6), .val (.long k0), .second, .val (.long k1), .second, .val (.long k2), .second, .val (.long k3), .second, .val (.long k4), .second, .val (.int r), .val (.ref b163), .unset, .unset, .unset, .unset, .unset, .unset] [(.int (0 : Int32)), (.long k0), (.ref b163)])) := fun t_ k_ => (gcT p165 st166) t_ (by
                        refine XS.astore X166.here hx rfl (hb hby at_136) rfl rfl (l' := #[.val (.long q1), .second, .val (.long q2), .second, .val (.long q3), .second, .val (.long q4), .second, .val (.long q5), .second, .val (.int p6), .val (.long k0), .second, .val (.long k1), .second, .val (.long k2), .second, .val (.long k3), .second, .val (.long k4), .second, .val (.int r), .val (.ref b163), .unset, .unset, .unset, .unset, .unset, .unset]) rfl ?_
                        refine XS.aload X166.here hx rfl (hb hby at_138) rfl rfl ?_
                        refine XS.lload X166.here hx rfl (hb hby at_140) rfl ?_
                        refine XS.iconst X166.here hx rfl (hb hby at_142) ?_
                        exact k_)
                      obtain ⟨cq174, kq174, q174a, q174b, q174c⟩ := isOf hZ rfl q166_E
                      obtain ⟨_, _, ⟨T174, L174, k174, n174⟩, -, X174, ⟨Lc174, hQ174, l174, y174, z174⟩, st174⟩ := X166.virtualBack hx (y := (⟨"com/example/subsume/subsume/reasoner/Positions", "put", "(JI)V"⟩ : MethodName)) (z := (⟨"com/example/subsume/subsume/reasoner/Positions", "put", "(JI)V"⟩ : MethodName)) hown (mvT hZ (own_w hw 25 rfl)) (mvT hZ (own_w hw 26 rfl)) (notFace_of_selects (args := #[]) (mvT hZ (own_w hw 28 rfl))) (mvT hZ (own_w hw 28 rfl)) (mvT hZ (own_w hw 27 rfl)) (by decide) (backOf (W := 0) (rm5 l Z a0 hw [] b163 k0 (0 : Int32) (0 : Int32) x167 x168 ks172 x169 x170 ps172 t0 T166.heap n0 (Nat.le_trans Z0 K171.1) q166_k q166_p q166_E vk172 vp172 q166_s ne_b163_x167 ne_b163_x169 q166_n3 ge_b163 q166_g2 q166_g3 TB172.1 TB172.2.1 (by decide) hf0 hu0) hZ (own_w hw 29 rfl) (own_w hw 4 rfl) (by decide) (by decide)) q174a q174c (g := (mkF m 143 #[.val (.long q1), .second, .val (.long q2), .second, .val (.long q3), .second, .val (.long q4), .second, .val (.long q5), .second, .val (.int p6), .val (.long k0), .second, .val (.long k1), .second, .val (.long k2), .second, .val (.long k3), .second, .val (.long k4), .second, .val (.int r), .val (.ref b163), .unset, .unset, .unset, .unset, .unset, .unset] [(.int (0 : Int32)), (.long k0), (.ref b163)])) rfl (by rw [hml]; rfl) (Steps.refl _) (argsL := [(.long k0), (.int (0 : Int32))]) (rest := []) (lenOf pd5 rfl) rfl (by show 2 * 0 + _ ≤ _; exact Nat.le_of_eq rfl) (hb hby at_143) (fun _ _ => ⟨rfl, rfl, (by decide : 3 + 0 ≤ _), (by decide : 35 + 0 ≤ _)⟩)
                      dsimp only [Pt.U, Pt.locs, Pt.cells, Pt.slots] at X174 l174 y174 z174 st174 hQ174
                      subst l174 y174 z174
                      obtain ⟨rfl, N174q, q174_K, q174_k, q174_p, q174_s, q174_E, q174_vk, q174_vp⟩ := hQ174
                      have N174 := Fr.app N166 N174q
                      have K175 : Keep h0 T174.heap [] := K171.trans q174_K (allS (Or.inr sz_b163) (allS (Or.inr (Nat.le_trans K164.1 q166_z2)) (allS (Or.inr (Nat.le_trans K164.1 q166_z3)) all0)))
                      obtain ⟨ks176, ps176, vk176, vp176, TB176⟩ : ∃ (ks : List Int64) (ps : List Int32), Arv Z T174.heap x167 x168 .long (16 : Int32) (ks.map Value.long) (.long (0 : Int64)) ∧ Arv Z T174.heap x169 x170 .int (16 : Int32) (ps.map Value.int) (.int (0 : Int32)) ∧ own_Tb own_home ks ps [(k0, (0 : Int32))] (((own_home k0 + t0) % 16) :: []) := ⟨_, _, q174_vk, q174_vp, TP0⟩
                      obtain ⟨t1, ht1, hf1, hu1, TP1⟩ := own_Tb.put own_home_lt TB176 (by simp) n1' (by intro p; simp [d01, (Ne.symm d01), d02, (Ne.symm d02), d03, (Ne.symm d03), d04, (Ne.symm d04), d12, (Ne.symm d12), d13, (Ne.symm d13), d14, (Ne.symm d14), d23, (Ne.symm d23), d24, (Ne.symm d24), d34, (Ne.symm d34)]) (1 : Int32)
                      have p177 : Go p.tables e below _ (T174.setTop (mkF m 151 #[.val (.long q1), .second, .val (.long q2), .second, .val (.long q3), .second, .val (.long q4), .second, .val (.long q5), .second, .val (.int p6), .val (.long k0), .second, .val (.long k1), .second, .val (.long k2), .second, .val (.long k3), .second, .val (.long k4), .second, .val (.int r), .val (.ref b163), .unset, .unset, .unset, .unset, .unset, .unset] [(.int (1 : Int32)), (.long k1), (.ref b163)])) := fun t_ k_ => (gcT p173 st174) t_ (by
                        refine XS.aload X174.here hx rfl (hb hby at_146) rfl rfl ?_
                        refine XS.lload X174.here hx rfl (hb hby at_148) rfl ?_
                        refine XS.iconst X174.here hx rfl (hb hby at_150) ?_
                        exact k_)
                      obtain ⟨cq178, kq178, q178a, q178b, q178c⟩ := isOf hZ rfl q174_E
                      obtain ⟨_, _, ⟨T178, L178, k178, n178⟩, -, X178, ⟨Lc178, hQ178, l178, y178, z178⟩, st178⟩ := X174.virtualBack hx (y := (⟨"com/example/subsume/subsume/reasoner/Positions", "put", "(JI)V"⟩ : MethodName)) (z := (⟨"com/example/subsume/subsume/reasoner/Positions", "put", "(JI)V"⟩ : MethodName)) hown (mvT hZ (own_w hw 25 rfl)) (mvT hZ (own_w hw 26 rfl)) (notFace_of_selects (args := #[]) (mvT hZ (own_w hw 28 rfl))) (mvT hZ (own_w hw 28 rfl)) (mvT hZ (own_w hw 27 rfl)) (by decide) (backOf (W := 0) (rm5 l Z a0 hw [] b163 k1 (1 : Int32) ((0 : Int32) + (1 : Int32)) x167 x168 ks176 x169 x170 ps176 t1 T174.heap n0 (Nat.le_trans Z0 K175.1) q174_k q174_p q174_E vk176 vp176 q174_s ne_b163_x167 ne_b163_x169 q166_n3 ge_b163 q166_g2 q166_g3 TB176.1 TB176.2.1 (by decide) hf1 hu1) hZ (own_w hw 29 rfl) (own_w hw 4 rfl) (by decide) (by decide)) q178a q178c (g := (mkF m 151 #[.val (.long q1), .second, .val (.long q2), .second, .val (.long q3), .second, .val (.long q4), .second, .val (.long q5), .second, .val (.int p6), .val (.long k0), .second, .val (.long k1), .second, .val (.long k2), .second, .val (.long k3), .second, .val (.long k4), .second, .val (.int r), .val (.ref b163), .unset, .unset, .unset, .unset, .unset, .unset] [(.int (1 : Int32)), (.long k1), (.ref b163)])) rfl (by rw [hml]; rfl) (Steps.refl _) (argsL := [(.long k1), (.int (1 : Int32))]) (rest := []) (lenOf pd5 rfl) rfl (by show 2 * 0 + _ ≤ _; exact Nat.le_of_eq rfl) (hb hby at_151) (fun _ _ => ⟨rfl, rfl, (by decide : 3 + 0 ≤ _), (by decide : 35 + 0 ≤ _)⟩)
                      dsimp only [Pt.U, Pt.locs, Pt.cells, Pt.slots] at X178 l178 y178 z178 st178 hQ178
                      subst l178 y178 z178
                      obtain ⟨rfl, N178q, q178_K, q178_k, q178_p, q178_s, q178_E, q178_vk, q178_vp⟩ := hQ178
                      have N178 := Fr.app N174 N178q
                      have K179 : Keep h0 T178.heap [] := K175.trans q178_K (allS (Or.inr sz_b163) (allS (Or.inr (Nat.le_trans K164.1 q166_z2)) (allS (Or.inr (Nat.le_trans K164.1 q166_z3)) all0)))
                      obtain ⟨ks180, ps180, vk180, vp180, TB180⟩ : ∃ (ks : List Int64) (ps : List Int32), Arv Z T178.heap x167 x168 .long (16 : Int32) (ks.map Value.long) (.long (0 : Int64)) ∧ Arv Z T178.heap x169 x170 .int (16 : Int32) (ps.map Value.int) (.int (0 : Int32)) ∧ own_Tb own_home ks ps [(k1, (1 : Int32)), (k0, (0 : Int32))] (((own_home k1 + t1) % 16) :: (((own_home k0 + t0) % 16) :: [])) := ⟨_, _, q178_vk, q178_vp, TP1⟩
                      obtain ⟨t2, ht2, hf2, hu2, TP2⟩ := own_Tb.put own_home_lt TB180 (by simp) n2' (by intro p; simp [d01, (Ne.symm d01), d02, (Ne.symm d02), d03, (Ne.symm d03), d04, (Ne.symm d04), d12, (Ne.symm d12), d13, (Ne.symm d13), d14, (Ne.symm d14), d23, (Ne.symm d23), d24, (Ne.symm d24), d34, (Ne.symm d34)]) (2 : Int32)
                      have p181 : Go p.tables e below _ (T178.setTop (mkF m 159 #[.val (.long q1), .second, .val (.long q2), .second, .val (.long q3), .second, .val (.long q4), .second, .val (.long q5), .second, .val (.int p6), .val (.long k0), .second, .val (.long k1), .second, .val (.long k2), .second, .val (.long k3), .second, .val (.long k4), .second, .val (.int r), .val (.ref b163), .unset, .unset, .unset, .unset, .unset, .unset] [(.int (2 : Int32)), (.long k2), (.ref b163)])) := fun t_ k_ => (gcT p177 st178) t_ (by
                        refine XS.aload X178.here hx rfl (hb hby at_154) rfl rfl ?_
                        refine XS.lload X178.here hx rfl (hb hby at_156) rfl ?_
                        refine XS.iconst X178.here hx rfl (hb hby at_158) ?_
                        exact k_)
                      obtain ⟨cq182, kq182, q182a, q182b, q182c⟩ := isOf hZ rfl q178_E
                      obtain ⟨_, _, ⟨T182, L182, k182, n182⟩, -, X182, ⟨Lc182, hQ182, l182, y182, z182⟩, st182⟩ := X178.virtualBack hx (y := (⟨"com/example/subsume/subsume/reasoner/Positions", "put", "(JI)V"⟩ : MethodName)) (z := (⟨"com/example/subsume/subsume/reasoner/Positions", "put", "(JI)V"⟩ : MethodName)) hown (mvT hZ (own_w hw 25 rfl)) (mvT hZ (own_w hw 26 rfl)) (notFace_of_selects (args := #[]) (mvT hZ (own_w hw 28 rfl))) (mvT hZ (own_w hw 28 rfl)) (mvT hZ (own_w hw 27 rfl)) (by decide) (backOf (W := 0) (rm5 l Z a0 hw [] b163 k2 (2 : Int32) (((0 : Int32) + (1 : Int32)) + (1 : Int32)) x167 x168 ks180 x169 x170 ps180 t2 T178.heap n0 (Nat.le_trans Z0 K179.1) q178_k q178_p q178_E vk180 vp180 q178_s ne_b163_x167 ne_b163_x169 q166_n3 ge_b163 q166_g2 q166_g3 TB180.1 TB180.2.1 (by decide) hf2 hu2) hZ (own_w hw 29 rfl) (own_w hw 4 rfl) (by decide) (by decide)) q182a q182c (g := (mkF m 159 #[.val (.long q1), .second, .val (.long q2), .second, .val (.long q3), .second, .val (.long q4), .second, .val (.long q5), .second, .val (.int p6), .val (.long k0), .second, .val (.long k1), .second, .val (.long k2), .second, .val (.long k3), .second, .val (.long k4), .second, .val (.int r), .val (.ref b163), .unset, .unset, .unset, .unset, .unset, .unset] [(.int (2 : Int32)), (.long k2), (.ref b163)])) rfl (by rw [hml]; rfl) (Steps.refl _) (argsL := [(.long k2), (.int (2 : Int32))]) (rest := []) (lenOf pd5 rfl) rfl (by show 2 * 0 + _ ≤ _; exact Nat.le_of_eq rfl) (hb hby at_159) (fun _ _ => ⟨rfl, rfl, (by decide : 3 + 0 ≤ _), (by decide : 35 + 0 ≤ _)⟩)
                      dsimp only [Pt.U, Pt.locs, Pt.cells, Pt.slots] at X182 l182 y182 z182 st182 hQ182
                      subst l182 y182 z182
                      obtain ⟨rfl, N182q, q182_K, q182_k, q182_p, q182_s, q182_E, q182_vk, q182_vp⟩ := hQ182
                      have N182 := Fr.app N178 N182q
                      have K183 : Keep h0 T182.heap [] := K179.trans q182_K (allS (Or.inr sz_b163) (allS (Or.inr (Nat.le_trans K164.1 q166_z2)) (allS (Or.inr (Nat.le_trans K164.1 q166_z3)) all0)))
                      obtain ⟨ks184, ps184, vk184, vp184, TB184⟩ : ∃ (ks : List Int64) (ps : List Int32), Arv Z T182.heap x167 x168 .long (16 : Int32) (ks.map Value.long) (.long (0 : Int64)) ∧ Arv Z T182.heap x169 x170 .int (16 : Int32) (ps.map Value.int) (.int (0 : Int32)) ∧ own_Tb own_home ks ps [(k2, (2 : Int32)), (k1, (1 : Int32)), (k0, (0 : Int32))] (((own_home k2 + t2) % 16) :: (((own_home k1 + t1) % 16) :: (((own_home k0 + t0) % 16) :: []))) := ⟨_, _, q182_vk, q182_vp, TP2⟩
                      obtain ⟨t3, ht3, hf3, hu3, TP3⟩ := own_Tb.put own_home_lt TB184 (by simp) n3' (by intro p; simp [d01, (Ne.symm d01), d02, (Ne.symm d02), d03, (Ne.symm d03), d04, (Ne.symm d04), d12, (Ne.symm d12), d13, (Ne.symm d13), d14, (Ne.symm d14), d23, (Ne.symm d23), d24, (Ne.symm d24), d34, (Ne.symm d34)]) (3 : Int32)
                      have p185 : Go p.tables e below _ (T182.setTop (mkF m 167 #[.val (.long q1), .second, .val (.long q2), .second, .val (.long q3), .second, .val (.long q4), .second, .val (.long q5), .second, .val (.int p6), .val (.long k0), .second, .val (.long k1), .second, .val (.long k2), .second, .val (.long k3), .second, .val (.long k4), .second, .val (.int r), .val (.ref b163), .unset, .unset, .unset, .unset, .unset, .unset] [(.int (3 : Int32)), (.long k3), (.ref b163)])) := fun t_ k_ => (gcT p181 st182) t_ (by
                        refine XS.aload X182.here hx rfl (hb hby at_162) rfl rfl ?_
                        refine XS.lload X182.here hx rfl (hb hby at_164) rfl ?_
                        refine XS.iconst X182.here hx rfl (hb hby at_166) ?_
                        exact k_)
                      obtain ⟨cq186, kq186, q186a, q186b, q186c⟩ := isOf hZ rfl q182_E
                      obtain ⟨_, _, ⟨T186, L186, k186, n186⟩, -, X186, ⟨Lc186, hQ186, l186, y186, z186⟩, st186⟩ := X182.virtualBack hx (y := (⟨"com/example/subsume/subsume/reasoner/Positions", "put", "(JI)V"⟩ : MethodName)) (z := (⟨"com/example/subsume/subsume/reasoner/Positions", "put", "(JI)V"⟩ : MethodName)) hown (mvT hZ (own_w hw 25 rfl)) (mvT hZ (own_w hw 26 rfl)) (notFace_of_selects (args := #[]) (mvT hZ (own_w hw 28 rfl))) (mvT hZ (own_w hw 28 rfl)) (mvT hZ (own_w hw 27 rfl)) (by decide) (backOf (W := 0) (rm5 l Z a0 hw [] b163 k3 (3 : Int32) ((((0 : Int32) + (1 : Int32)) + (1 : Int32)) + (1 : Int32)) x167 x168 ks184 x169 x170 ps184 t3 T182.heap n0 (Nat.le_trans Z0 K183.1) q182_k q182_p q182_E vk184 vp184 q182_s ne_b163_x167 ne_b163_x169 q166_n3 ge_b163 q166_g2 q166_g3 TB184.1 TB184.2.1 (by decide) hf3 hu3) hZ (own_w hw 29 rfl) (own_w hw 4 rfl) (by decide) (by decide)) q186a q186c (g := (mkF m 167 #[.val (.long q1), .second, .val (.long q2), .second, .val (.long q3), .second, .val (.long q4), .second, .val (.long q5), .second, .val (.int p6), .val (.long k0), .second, .val (.long k1), .second, .val (.long k2), .second, .val (.long k3), .second, .val (.long k4), .second, .val (.int r), .val (.ref b163), .unset, .unset, .unset, .unset, .unset, .unset] [(.int (3 : Int32)), (.long k3), (.ref b163)])) rfl (by rw [hml]; rfl) (Steps.refl _) (argsL := [(.long k3), (.int (3 : Int32))]) (rest := []) (lenOf pd5 rfl) rfl (by show 2 * 0 + _ ≤ _; exact Nat.le_of_eq rfl) (hb hby at_167) (fun _ _ => ⟨rfl, rfl, (by decide : 3 + 0 ≤ _), (by decide : 35 + 0 ≤ _)⟩)
                      dsimp only [Pt.U, Pt.locs, Pt.cells, Pt.slots] at X186 l186 y186 z186 st186 hQ186
                      subst l186 y186 z186
                      obtain ⟨rfl, N186q, q186_K, q186_k, q186_p, q186_s, q186_E, q186_vk, q186_vp⟩ := hQ186
                      have N186 := Fr.app N182 N186q
                      have K187 : Keep h0 T186.heap [] := K183.trans q186_K (allS (Or.inr sz_b163) (allS (Or.inr (Nat.le_trans K164.1 q166_z2)) (allS (Or.inr (Nat.le_trans K164.1 q166_z3)) all0)))
                      obtain ⟨ks188, ps188, vk188, vp188, TB188⟩ : ∃ (ks : List Int64) (ps : List Int32), Arv Z T186.heap x167 x168 .long (16 : Int32) (ks.map Value.long) (.long (0 : Int64)) ∧ Arv Z T186.heap x169 x170 .int (16 : Int32) (ps.map Value.int) (.int (0 : Int32)) ∧ own_Tb own_home ks ps [(k3, (3 : Int32)), (k2, (2 : Int32)), (k1, (1 : Int32)), (k0, (0 : Int32))] (((own_home k3 + t3) % 16) :: (((own_home k2 + t2) % 16) :: (((own_home k1 + t1) % 16) :: (((own_home k0 + t0) % 16) :: [])))) := ⟨_, _, q186_vk, q186_vp, TP3⟩
                      rcases hr5 with ro | ro | ro | ro | ro
                      · have p189 : Go p.tables e below (s₁.setTop (entryFrame m #[(.long q1), (.long q2), (.long q3), (.long q4), (.long q5), (.int p6)] maxLocals)) (T186.setTop (mkF m 170 #[.val (.long q1), .second, .val (.long q2), .second, .val (.long q3), .second, .val (.long q4), .second, .val (.long q5), .second, .val (.int p6), .val (.long k0), .second, .val (.long k1), .second, .val (.long k2), .second, .val (.long k3), .second, .val (.long k4), .second, .val (.int (0 : Int32)), .val (.ref b163), .unset, .unset, .unset, .unset, .unset, .unset] [])) := by rw [← ro]; exact (gcT p185 st186)
                        obtain ⟨t, ht, hK, hP, hu⟩ := own_Tb.get own_home_lt TB188 n0' (p := (0 : Int32)) (by simp)
                        obtain ⟨n, hok, TR⟩ := own_Tb.remove own_home_lt TB188 (by simp) n0' hK
                        have p190 : Go p.tables e below _ (T186.setTop (mkF m 221 #[.val (.long q1), .second, .val (.long q2), .second, .val (.long q3), .second, .val (.long q4), .second, .val (.long q5), .second, .val (.int p6), .val (.long k0), .second, .val (.long k1), .second, .val (.long k2), .second, .val (.long k3), .second, .val (.long k4), .second, .val (.int (0 : Int32)), .val (.ref b163), .val (.long k0), .second, .unset, .unset, .unset, .unset] [(.long k0), (.ref b163)])) := fun t_ k_ => p189 t_ (by
                          refine XS.iload X186.here hx rfl (hb hby at_170) rfl ?_
                          refine XS.ifNo X186.here hx rfl (hb hby at_172) rfl ((if0 _ _).trans (teq (by decide : ((0 : Int32) = (0 : Int32)))).2) ?_
                          refine XS.lload X186.here hx rfl (hb hby at_175) rfl ?_
                          refine XS.goto X186.here hx rfl (pc0 := 177) (pc' := 215) rfl (hb hby at_177) (by decide) (by decide) ?_
                          refine XS.lstore X186.here hx rfl (hb hby at_215) rfl (l' := #[.val (.long q1), .second, .val (.long q2), .second, .val (.long q3), .second, .val (.long q4), .second, .val (.long q5), .second, .val (.int p6), .val (.long k0), .second, .val (.long k1), .second, .val (.long k2), .second, .val (.long k3), .second, .val (.long k4), .second, .val (.int (0 : Int32)), .val (.ref b163), .val (.long k0), .second, .unset, .unset, .unset, .unset]) rfl ?_
                          refine XS.aload X186.here hx rfl (hb hby at_217) rfl rfl ?_
                          refine XS.lload X186.here hx rfl (hb hby at_219) rfl ?_
                          exact k_)
                        obtain ⟨cq191, kq191, q191a, q191b, q191c⟩ := isOf hZ rfl q186_E
                        obtain ⟨_, _, ⟨T191, L191, k191, n191⟩, -, X191, ⟨Lc191, hQ191, l191, y191, z191⟩, st191⟩ := X186.virtualBack hx (y := (⟨"com/example/subsume/subsume/reasoner/Positions", "remove", "(J)V"⟩ : MethodName)) (z := (⟨"com/example/subsume/subsume/reasoner/Positions", "remove", "(J)V"⟩ : MethodName)) hown (mvT hZ (own_w hw 42 rfl)) (mvT hZ (own_w hw 43 rfl)) (notFace_of_selects (args := #[]) (mvT hZ (own_w hw 45 rfl))) (mvT hZ (own_w hw 45 rfl)) (mvT hZ (own_w hw 44 rfl)) (by decide) (backOf (W := 0) (rm8f l Z a0 hw [] b163 k0 (((((0 : Int32) + (1 : Int32)) + (1 : Int32)) + (1 : Int32)) + (1 : Int32)) x167 x168 ks188 x169 x170 ps188 t n T186.heap n0 (Nat.le_trans Z0 K187.1) q186_k q186_p q186_E vk188 vp188 q186_s ne_b163_x167 ne_b163_x169 q166_n3 ge_b163 q166_g2 q166_g3 TB188.1 TB188.2.1 hu hK hok) hZ (own_w hw 46 rfl) (own_w hw 4 rfl) (by decide) (by decide)) q191a q191c (g := (mkF m 221 #[.val (.long q1), .second, .val (.long q2), .second, .val (.long q3), .second, .val (.long q4), .second, .val (.long q5), .second, .val (.int p6), .val (.long k0), .second, .val (.long k1), .second, .val (.long k2), .second, .val (.long k3), .second, .val (.long k4), .second, .val (.int (0 : Int32)), .val (.ref b163), .val (.long k0), .second, .unset, .unset, .unset, .unset] [(.long k0), (.ref b163)])) rfl (by rw [hml]; rfl) (Steps.refl _) (argsL := [(.long k0)]) (rest := []) (lenOf pd6 rfl) rfl (by show 2 * 0 + _ ≤ _; exact Nat.le_of_eq rfl) (hb hby at_221) (fun _ _ => ⟨rfl, rfl, (by decide : 3 + 0 ≤ _), (by decide : 35 + 0 ≤ _)⟩)
                        dsimp only [Pt.U, Pt.locs, Pt.cells, Pt.slots] at X191 l191 y191 z191 st191 hQ191
                        subst l191 y191 z191
                        obtain ⟨rfl, N191q, q191_K, q191_k, q191_p, q191_E, q191_vk, q191_vp⟩ := hQ191
                        have N191 := Fr.app N186 N191q
                        have K192 : Keep h0 T191.heap [] := K187.trans q191_K (allS (Or.inr sz_b163) (allS (Or.inr (Nat.le_trans K164.1 q166_z2)) (allS (Or.inr (Nat.le_trans K164.1 q166_z3)) all0)))
                        obtain ⟨ks193, ps193, vk193, vp193, TB193⟩ : ∃ (ks : List Int64) (ps : List Int32), Arv Z T191.heap x167 x168 .long (16 : Int32) (ks.map Value.long) (.long (0 : Int64)) ∧ Arv Z T191.heap x169 x170 .int (16 : Int32) (ps.map Value.int) (.int (0 : Int32)) ∧ own_Tb own_home ks ps (([(k3, (3 : Int32)), (k2, (2 : Int32)), (k1, (1 : Int32)), (k0, (0 : Int32))] : List (Int64 × Int32)).filter fun z => z.1 ≠ k0) (((own_home k3 + t3) % 16) :: (((own_home k2 + t2) % 16) :: (((own_home k1 + t1) % 16) :: (((own_home k0 + t0) % 16) :: [])))) := ⟨_, _, q191_vk, q191_vp, TR⟩
                        obtain ⟨u0, hu0a, hK0, hu0b⟩ := own_Tb.getn own_home_lt TB193 (by simp) n0' (by intro p; simp)
                        have gv0 : own_gv ks193 ps193 k0 u0 = (-1 : Int32) := by simp [own_gv, hK0, Ne.symm n0']
                        have p194 : Go p.tables e below _ (T191.setTop (mkF m 228 #[.val (.long q1), .second, .val (.long q2), .second, .val (.long q3), .second, .val (.long q4), .second, .val (.long q5), .second, .val (.int p6), .val (.long k0), .second, .val (.long k1), .second, .val (.long k2), .second, .val (.long k3), .second, .val (.long k4), .second, .val (.int (0 : Int32)), .val (.ref b163), .val (.long k0), .second, .unset, .unset, .unset, .unset] [(.long k0), (.ref b163)])) := fun t_ k_ => (gcT p190 st191) t_ (by
                          refine XS.aload X191.here hx rfl (hb hby at_224) rfl rfl ?_
                          refine XS.lload X191.here hx rfl (hb hby at_226) rfl ?_
                          exact k_)
                        obtain ⟨cq195, kq195, q195a, q195b, q195c⟩ := isOf hZ rfl q191_E
                        obtain ⟨_, _, ⟨T195, L195, k195, n195⟩, -, X195, ⟨Lc195, hQ195, l195, y195, z195⟩, st195⟩ := X191.virtualBack hx (y := (⟨"com/example/subsume/subsume/reasoner/Positions", "get", "(J)I"⟩ : MethodName)) (z := (⟨"com/example/subsume/subsume/reasoner/Positions", "get", "(J)I"⟩ : MethodName)) hown (mvT hZ (own_w hw 47 rfl)) (mvT hZ (own_w hw 48 rfl)) (notFace_of_selects (args := #[]) (mvT hZ (own_w hw 50 rfl))) (mvT hZ (own_w hw 50 rfl)) (mvT hZ (own_w hw 49 rfl)) (by decide) (backOf (W := 0) (rm9 l Z a0 hw [] b163 k0 x167 x168 ks193 x169 x170 ps193 u0 T191.heap n0 (Nat.le_trans Z0 K192.1) q191_k q191_p q191_E vk193 vp193 hu0b (Or.inr hK0)) hZ (own_w hw 51 rfl) (own_w hw 4 rfl) (by decide) (by decide)) q195a q195c (g := (mkF m 228 #[.val (.long q1), .second, .val (.long q2), .second, .val (.long q3), .second, .val (.long q4), .second, .val (.long q5), .second, .val (.int p6), .val (.long k0), .second, .val (.long k1), .second, .val (.long k2), .second, .val (.long k3), .second, .val (.long k4), .second, .val (.int (0 : Int32)), .val (.ref b163), .val (.long k0), .second, .unset, .unset, .unset, .unset] [(.long k0), (.ref b163)])) rfl (by rw [hml]; rfl) (Steps.refl _) (argsL := [(.long k0)]) (rest := []) (lenOf pd1 rfl) rfl (by show 2 * 0 + _ ≤ _; exact Nat.le_of_eq rfl) (hb hby at_228) (fun _ _ => ⟨rfl, rfl, (by decide : 3 + 0 ≤ _), (by decide : 35 + 0 ≤ _)⟩)
                        dsimp only [Pt.U, Pt.locs, Pt.cells, Pt.slots] at X195 l195 y195 z195 st195 hQ195
                        subst l195 y195 z195
                        obtain ⟨rfl, N195q, q195_hh⟩ := hQ195
                        have N195 := Fr.app N191 N195q
                        have p196 : Go p.tables e below (s₁.setTop (entryFrame m #[(.long q1), (.long q2), (.long q3), (.long q4), (.long q5), (.int p6)] maxLocals)) (T195.setTop (mkF m 231 #[.val (.long q1), .second, .val (.long q2), .second, .val (.long q3), .second, .val (.long q4), .second, .val (.long q5), .second, .val (.int p6), .val (.long k0), .second, .val (.long k1), .second, .val (.long k2), .second, .val (.long k3), .second, .val (.long k4), .second, .val (.int (0 : Int32)), .val (.ref b163), .val (.long k0), .second, .unset, .unset, .unset, .unset] [(.int (-1 : Int32))])) := by have z := (gcT p194 st195); rw [gv0] at z; exact z
                        obtain ⟨u1, hu1a, hK1, hP1, hu1b⟩ := own_Tb.get own_home_lt TB193 n1' (p := (1 : Int32)) (by simp [d01, (Ne.symm d01), d02, (Ne.symm d02), d03, (Ne.symm d03), d04, (Ne.symm d04), d12, (Ne.symm d12), d13, (Ne.symm d13), d14, (Ne.symm d14), d23, (Ne.symm d23), d24, (Ne.symm d24), d34, (Ne.symm d34)])
                        have gv1 : own_gv ks193 ps193 k1 u1 = (1 : Int32) := by simp [own_gv, hK1, hP1]
                        have p197 : Go p.tables e below _ (T195.setTop (mkF m 237 #[.val (.long q1), .second, .val (.long q2), .second, .val (.long q3), .second, .val (.long q4), .second, .val (.long q5), .second, .val (.int p6), .val (.long k0), .second, .val (.long k1), .second, .val (.long k2), .second, .val (.long k3), .second, .val (.long k4), .second, .val (.int (0 : Int32)), .val (.ref b163), .val (.long k0), .second, .val (.int (-1 : Int32)), .unset, .unset, .unset] [(.long k1), (.ref b163)])) := fun t_ k_ => p196 t_ (by
                          refine XS.istore X195.here hx rfl (hb hby at_231) rfl (l' := #[.val (.long q1), .second, .val (.long q2), .second, .val (.long q3), .second, .val (.long q4), .second, .val (.long q5), .second, .val (.int p6), .val (.long k0), .second, .val (.long k1), .second, .val (.long k2), .second, .val (.long k3), .second, .val (.long k4), .second, .val (.int (0 : Int32)), .val (.ref b163), .val (.long k0), .second, .val (.int (-1 : Int32)), .unset, .unset, .unset]) rfl ?_
                          refine XS.aload X195.here hx rfl (hb hby at_233) rfl rfl ?_
                          refine XS.lload X195.here hx rfl (hb hby at_235) rfl ?_
                          exact k_)
                        obtain ⟨cq198, kq198, q198a, q198b, q198c⟩ := isOf hZ q195_hh q191_E
                        obtain ⟨_, _, ⟨T198, L198, k198, n198⟩, -, X198, ⟨Lc198, hQ198, l198, y198, z198⟩, st198⟩ := X195.virtualBack hx (y := (⟨"com/example/subsume/subsume/reasoner/Positions", "get", "(J)I"⟩ : MethodName)) (z := (⟨"com/example/subsume/subsume/reasoner/Positions", "get", "(J)I"⟩ : MethodName)) hown (mvT hZ (own_w hw 47 rfl)) (mvT hZ (own_w hw 48 rfl)) (notFace_of_selects (args := #[]) (mvT hZ (own_w hw 50 rfl))) (mvT hZ (own_w hw 50 rfl)) (mvT hZ (own_w hw 49 rfl)) (by decide) (backOf (W := 0) (rm9 l Z a0 hw [] b163 k1 x167 x168 ks193 x169 x170 ps193 u1 T191.heap n0 (Nat.le_trans Z0 K192.1) q191_k q191_p q191_E vk193 vp193 hu1b (Or.inl hK1)) hZ (own_w hw 51 rfl) (own_w hw 4 rfl) (by decide) (by decide)) q198a q198c (g := (mkF m 237 #[.val (.long q1), .second, .val (.long q2), .second, .val (.long q3), .second, .val (.long q4), .second, .val (.long q5), .second, .val (.int p6), .val (.long k0), .second, .val (.long k1), .second, .val (.long k2), .second, .val (.long k3), .second, .val (.long k4), .second, .val (.int (0 : Int32)), .val (.ref b163), .val (.long k0), .second, .val (.int (-1 : Int32)), .unset, .unset, .unset] [(.long k1), (.ref b163)])) rfl (by rw [hml]; rfl) (Steps.refl _) (argsL := [(.long k1)]) (rest := []) (lenOf pd1 rfl) rfl (by show 2 * 0 + _ ≤ _; exact Nat.le_of_eq rfl) (hb hby at_237) (fun _ _ => ⟨rfl, q195_hh, (by decide : 3 + 0 ≤ _), (by decide : 35 + 0 ≤ _)⟩)
                        dsimp only [Pt.U, Pt.locs, Pt.cells, Pt.slots] at X198 l198 y198 z198 st198 hQ198
                        subst l198 y198 z198
                        obtain ⟨rfl, N198q, q198_hh⟩ := hQ198
                        have N198 := Fr.app N195 N198q
                        have p199 : Go p.tables e below (s₁.setTop (entryFrame m #[(.long q1), (.long q2), (.long q3), (.long q4), (.long q5), (.int p6)] maxLocals)) (T198.setTop (mkF m 240 #[.val (.long q1), .second, .val (.long q2), .second, .val (.long q3), .second, .val (.long q4), .second, .val (.long q5), .second, .val (.int p6), .val (.long k0), .second, .val (.long k1), .second, .val (.long k2), .second, .val (.long k3), .second, .val (.long k4), .second, .val (.int (0 : Int32)), .val (.ref b163), .val (.long k0), .second, .val (.int (-1 : Int32)), .unset, .unset, .unset] [(.int (1 : Int32))])) := by have z := (gcT p197 st198); rw [gv1] at z; exact z
                        obtain ⟨u2, hu2a, hK2, hP2, hu2b⟩ := own_Tb.get own_home_lt TB193 n2' (p := (2 : Int32)) (by simp [d01, (Ne.symm d01), d02, (Ne.symm d02), d03, (Ne.symm d03), d04, (Ne.symm d04), d12, (Ne.symm d12), d13, (Ne.symm d13), d14, (Ne.symm d14), d23, (Ne.symm d23), d24, (Ne.symm d24), d34, (Ne.symm d34)])
                        have gv2 : own_gv ks193 ps193 k2 u2 = (2 : Int32) := by simp [own_gv, hK2, hP2]
                        have p200 : Go p.tables e below _ (T198.setTop (mkF m 246 #[.val (.long q1), .second, .val (.long q2), .second, .val (.long q3), .second, .val (.long q4), .second, .val (.long q5), .second, .val (.int p6), .val (.long k0), .second, .val (.long k1), .second, .val (.long k2), .second, .val (.long k3), .second, .val (.long k4), .second, .val (.int (0 : Int32)), .val (.ref b163), .val (.long k0), .second, .val (.int (-1 : Int32)), .val (.int (1 : Int32)), .unset, .unset] [(.long k2), (.ref b163)])) := fun t_ k_ => p199 t_ (by
                          refine XS.istore X198.here hx rfl (hb hby at_240) rfl (l' := #[.val (.long q1), .second, .val (.long q2), .second, .val (.long q3), .second, .val (.long q4), .second, .val (.long q5), .second, .val (.int p6), .val (.long k0), .second, .val (.long k1), .second, .val (.long k2), .second, .val (.long k3), .second, .val (.long k4), .second, .val (.int (0 : Int32)), .val (.ref b163), .val (.long k0), .second, .val (.int (-1 : Int32)), .val (.int (1 : Int32)), .unset, .unset]) rfl ?_
                          refine XS.aload X198.here hx rfl (hb hby at_242) rfl rfl ?_
                          refine XS.lload X198.here hx rfl (hb hby at_244) rfl ?_
                          exact k_)
                        obtain ⟨cq201, kq201, q201a, q201b, q201c⟩ := isOf hZ q198_hh q191_E
                        obtain ⟨_, _, ⟨T201, L201, k201, n201⟩, -, X201, ⟨Lc201, hQ201, l201, y201, z201⟩, st201⟩ := X198.virtualBack hx (y := (⟨"com/example/subsume/subsume/reasoner/Positions", "get", "(J)I"⟩ : MethodName)) (z := (⟨"com/example/subsume/subsume/reasoner/Positions", "get", "(J)I"⟩ : MethodName)) hown (mvT hZ (own_w hw 47 rfl)) (mvT hZ (own_w hw 48 rfl)) (notFace_of_selects (args := #[]) (mvT hZ (own_w hw 50 rfl))) (mvT hZ (own_w hw 50 rfl)) (mvT hZ (own_w hw 49 rfl)) (by decide) (backOf (W := 0) (rm9 l Z a0 hw [] b163 k2 x167 x168 ks193 x169 x170 ps193 u2 T191.heap n0 (Nat.le_trans Z0 K192.1) q191_k q191_p q191_E vk193 vp193 hu2b (Or.inl hK2)) hZ (own_w hw 51 rfl) (own_w hw 4 rfl) (by decide) (by decide)) q201a q201c (g := (mkF m 246 #[.val (.long q1), .second, .val (.long q2), .second, .val (.long q3), .second, .val (.long q4), .second, .val (.long q5), .second, .val (.int p6), .val (.long k0), .second, .val (.long k1), .second, .val (.long k2), .second, .val (.long k3), .second, .val (.long k4), .second, .val (.int (0 : Int32)), .val (.ref b163), .val (.long k0), .second, .val (.int (-1 : Int32)), .val (.int (1 : Int32)), .unset, .unset] [(.long k2), (.ref b163)])) rfl (by rw [hml]; rfl) (Steps.refl _) (argsL := [(.long k2)]) (rest := []) (lenOf pd1 rfl) rfl (by show 2 * 0 + _ ≤ _; exact Nat.le_of_eq rfl) (hb hby at_246) (fun _ _ => ⟨rfl, q198_hh, (by decide : 3 + 0 ≤ _), (by decide : 35 + 0 ≤ _)⟩)
                        dsimp only [Pt.U, Pt.locs, Pt.cells, Pt.slots] at X201 l201 y201 z201 st201 hQ201
                        subst l201 y201 z201
                        obtain ⟨rfl, N201q, q201_hh⟩ := hQ201
                        have N201 := Fr.app N198 N201q
                        have p202 : Go p.tables e below (s₁.setTop (entryFrame m #[(.long q1), (.long q2), (.long q3), (.long q4), (.long q5), (.int p6)] maxLocals)) (T201.setTop (mkF m 249 #[.val (.long q1), .second, .val (.long q2), .second, .val (.long q3), .second, .val (.long q4), .second, .val (.long q5), .second, .val (.int p6), .val (.long k0), .second, .val (.long k1), .second, .val (.long k2), .second, .val (.long k3), .second, .val (.long k4), .second, .val (.int (0 : Int32)), .val (.ref b163), .val (.long k0), .second, .val (.int (-1 : Int32)), .val (.int (1 : Int32)), .unset, .unset] [(.int (2 : Int32))])) := by have z := (gcT p200 st201); rw [gv2] at z; exact z
                        obtain ⟨u3, hu3a, hK3, hP3, hu3b⟩ := own_Tb.get own_home_lt TB193 n3' (p := (3 : Int32)) (by simp [d01, (Ne.symm d01), d02, (Ne.symm d02), d03, (Ne.symm d03), d04, (Ne.symm d04), d12, (Ne.symm d12), d13, (Ne.symm d13), d14, (Ne.symm d14), d23, (Ne.symm d23), d24, (Ne.symm d24), d34, (Ne.symm d34)])
                        have gv3 : own_gv ks193 ps193 k3 u3 = (3 : Int32) := by simp [own_gv, hK3, hP3]
                        have p203 : Go p.tables e below _ (T201.setTop (mkF m 255 #[.val (.long q1), .second, .val (.long q2), .second, .val (.long q3), .second, .val (.long q4), .second, .val (.long q5), .second, .val (.int p6), .val (.long k0), .second, .val (.long k1), .second, .val (.long k2), .second, .val (.long k3), .second, .val (.long k4), .second, .val (.int (0 : Int32)), .val (.ref b163), .val (.long k0), .second, .val (.int (-1 : Int32)), .val (.int (1 : Int32)), .val (.int (2 : Int32)), .unset] [(.long k3), (.ref b163)])) := fun t_ k_ => p202 t_ (by
                          refine XS.istore X201.here hx rfl (hb hby at_249) rfl (l' := #[.val (.long q1), .second, .val (.long q2), .second, .val (.long q3), .second, .val (.long q4), .second, .val (.long q5), .second, .val (.int p6), .val (.long k0), .second, .val (.long k1), .second, .val (.long k2), .second, .val (.long k3), .second, .val (.long k4), .second, .val (.int (0 : Int32)), .val (.ref b163), .val (.long k0), .second, .val (.int (-1 : Int32)), .val (.int (1 : Int32)), .val (.int (2 : Int32)), .unset]) rfl ?_
                          refine XS.aload X201.here hx rfl (hb hby at_251) rfl rfl ?_
                          refine XS.lload X201.here hx rfl (hb hby at_253) rfl ?_
                          exact k_)
                        obtain ⟨cq204, kq204, q204a, q204b, q204c⟩ := isOf hZ q201_hh q191_E
                        obtain ⟨_, _, ⟨T204, L204, k204, n204⟩, -, X204, ⟨Lc204, hQ204, l204, y204, z204⟩, st204⟩ := X201.virtualBack hx (y := (⟨"com/example/subsume/subsume/reasoner/Positions", "get", "(J)I"⟩ : MethodName)) (z := (⟨"com/example/subsume/subsume/reasoner/Positions", "get", "(J)I"⟩ : MethodName)) hown (mvT hZ (own_w hw 47 rfl)) (mvT hZ (own_w hw 48 rfl)) (notFace_of_selects (args := #[]) (mvT hZ (own_w hw 50 rfl))) (mvT hZ (own_w hw 50 rfl)) (mvT hZ (own_w hw 49 rfl)) (by decide) (backOf (W := 0) (rm9 l Z a0 hw [] b163 k3 x167 x168 ks193 x169 x170 ps193 u3 T191.heap n0 (Nat.le_trans Z0 K192.1) q191_k q191_p q191_E vk193 vp193 hu3b (Or.inl hK3)) hZ (own_w hw 51 rfl) (own_w hw 4 rfl) (by decide) (by decide)) q204a q204c (g := (mkF m 255 #[.val (.long q1), .second, .val (.long q2), .second, .val (.long q3), .second, .val (.long q4), .second, .val (.long q5), .second, .val (.int p6), .val (.long k0), .second, .val (.long k1), .second, .val (.long k2), .second, .val (.long k3), .second, .val (.long k4), .second, .val (.int (0 : Int32)), .val (.ref b163), .val (.long k0), .second, .val (.int (-1 : Int32)), .val (.int (1 : Int32)), .val (.int (2 : Int32)), .unset] [(.long k3), (.ref b163)])) rfl (by rw [hml]; rfl) (Steps.refl _) (argsL := [(.long k3)]) (rest := []) (lenOf pd1 rfl) rfl (by show 2 * 0 + _ ≤ _; exact Nat.le_of_eq rfl) (hb hby at_255) (fun _ _ => ⟨rfl, q201_hh, (by decide : 3 + 0 ≤ _), (by decide : 35 + 0 ≤ _)⟩)
                        dsimp only [Pt.U, Pt.locs, Pt.cells, Pt.slots] at X204 l204 y204 z204 st204 hQ204
                        subst l204 y204 z204
                        obtain ⟨rfl, N204q, q204_hh⟩ := hQ204
                        have N204 := Fr.app N201 N204q
                        have p205 : Go p.tables e below (s₁.setTop (entryFrame m #[(.long q1), (.long q2), (.long q3), (.long q4), (.long q5), (.int p6)] maxLocals)) (T204.setTop (mkF m 258 #[.val (.long q1), .second, .val (.long q2), .second, .val (.long q3), .second, .val (.long q4), .second, .val (.long q5), .second, .val (.int p6), .val (.long k0), .second, .val (.long k1), .second, .val (.long k2), .second, .val (.long k3), .second, .val (.long k4), .second, .val (.int (0 : Int32)), .val (.ref b163), .val (.long k0), .second, .val (.int (-1 : Int32)), .val (.int (1 : Int32)), .val (.int (2 : Int32)), .unset] [(.int (3 : Int32))])) := by have z := (gcT p203 st204); rw [gv3] at z; exact z
                        have p206 : Go p.tables e below _ (T204.setTop (mkF m 265 #[.val (.long q1), .second, .val (.long q2), .second, .val (.long q3), .second, .val (.long q4), .second, .val (.long q5), .second, .val (.int p6), .val (.long k0), .second, .val (.long k1), .second, .val (.long k2), .second, .val (.long k3), .second, .val (.long k4), .second, .val (.int (0 : Int32)), .val (.ref b163), .val (.long k0), .second, .val (.int (-1 : Int32)), .val (.int (1 : Int32)), .val (.int (2 : Int32)), .val (.int (3 : Int32))] [(.int (0 : Int32)), (.int (0 : Int32)), (.int (-1 : Int32))])) := fun t_ k_ => p205 t_ (by
                          refine XS.istore X204.here hx rfl (hb hby at_258) rfl (l' := #[.val (.long q1), .second, .val (.long q2), .second, .val (.long q3), .second, .val (.long q4), .second, .val (.long q5), .second, .val (.int p6), .val (.long k0), .second, .val (.long k1), .second, .val (.long k2), .second, .val (.long k3), .second, .val (.long k4), .second, .val (.int (0 : Int32)), .val (.ref b163), .val (.long k0), .second, .val (.int (-1 : Int32)), .val (.int (1 : Int32)), .val (.int (2 : Int32)), .val (.int (3 : Int32))]) rfl ?_
                          refine XS.iload X204.here hx rfl (hb hby at_260) rfl ?_
                          refine XS.iconst X204.here hx rfl (hb hby at_262) ?_
                          refine XS.iload X204.here hx rfl (hb hby at_263) rfl ?_
                          exact k_)
                        obtain ⟨_, _, ⟨T207, L207, k207, n207⟩, -, X207, ⟨Lc207, hQ207, l207, y207, z207⟩, st207⟩ := Jvm.LawKit.callS X204 hx (y := (⟨"com/example/subsume/subsume/reasoner/PositionsRemovePinLaw", "ok", "(III)Z"⟩ : MethodName)) hown (mvT hZ (own_w hw 52 rfl)) (mvT hZ (own_w hw 53 rfl)) (mvT hZ (own_w hw 54 rfl)) (mvT hZ (own_w hw 55 rfl)) (by decide) (backOf (W := 0) (rm10 l Z a0 hw [] (-1 : Int32) (0 : Int32) (0 : Int32) T191.heap n0 (Nat.le_trans Z0 K192.1) ) hZ (own_w hw 55 rfl) (own_w hw 54 rfl) (by decide) (by decide)) (g := (mkF m 265 #[.val (.long q1), .second, .val (.long q2), .second, .val (.long q3), .second, .val (.long q4), .second, .val (.long q5), .second, .val (.int p6), .val (.long k0), .second, .val (.long k1), .second, .val (.long k2), .second, .val (.long k3), .second, .val (.long k4), .second, .val (.int (0 : Int32)), .val (.ref b163), .val (.long k0), .second, .val (.int (-1 : Int32)), .val (.int (1 : Int32)), .val (.int (2 : Int32)), .val (.int (3 : Int32))] [(.int (0 : Int32)), (.int (0 : Int32)), (.int (-1 : Int32))])) rfl (by rw [hml]; rfl) (argsL := [(.int (-1 : Int32)), (.int (0 : Int32)), (.int (0 : Int32))]) (rest := []) (lenOf pd7 rfl) rfl (by show 2 * 0 + _ ≤ _; exact Nat.le_of_eq rfl) (hb hby at_265) (fun _ _ => ⟨rfl, q204_hh, (by decide : 3 + 0 ≤ _), (by decide : 35 + 0 ≤ _)⟩)
                        dsimp only [Pt.U, Pt.locs, Pt.cells, Pt.slots] at X207 l207 y207 z207 st207 hQ207
                        subst l207 y207 z207
                        obtain ⟨rfl, N207q, q207_hh⟩ := hQ207
                        have N207 := Fr.app N204 N207q
                        have c208 : ¬ ((own_okv (-1 : Int32) (0 : Int32) (0 : Int32)) = (0 : Int32)) := by decide
                        have p209 : Go p.tables e below _ (T207.setTop (mkF m 276 #[.val (.long q1), .second, .val (.long q2), .second, .val (.long q3), .second, .val (.long q4), .second, .val (.long q5), .second, .val (.int p6), .val (.long k0), .second, .val (.long k1), .second, .val (.long k2), .second, .val (.long k3), .second, .val (.long k4), .second, .val (.int (0 : Int32)), .val (.ref b163), .val (.long k0), .second, .val (.int (-1 : Int32)), .val (.int (1 : Int32)), .val (.int (2 : Int32)), .val (.int (3 : Int32))] [(.int (0 : Int32)), (.int (1 : Int32)), (.int (1 : Int32))])) := fun t_ k_ => (gc p206 st207) t_ (by
                          refine XS.ifNo X207.here hx rfl (hb hby at_268) rfl ((if0 _ _).trans (feq c208).1) ?_
                          refine XS.iload X207.here hx rfl (hb hby at_271) rfl ?_
                          refine XS.iconst X207.here hx rfl (hb hby at_273) ?_
                          refine XS.iload X207.here hx rfl (hb hby at_274) rfl ?_
                          exact k_)
                        obtain ⟨_, _, ⟨T210, L210, k210, n210⟩, -, X210, ⟨Lc210, hQ210, l210, y210, z210⟩, st210⟩ := Jvm.LawKit.callS X207 hx (y := (⟨"com/example/subsume/subsume/reasoner/PositionsRemovePinLaw", "ok", "(III)Z"⟩ : MethodName)) hown (mvT hZ (own_w hw 52 rfl)) (mvT hZ (own_w hw 53 rfl)) (mvT hZ (own_w hw 54 rfl)) (mvT hZ (own_w hw 55 rfl)) (by decide) (backOf (W := 0) (rm10 l Z a0 hw [] (1 : Int32) (1 : Int32) (0 : Int32) T191.heap n0 (Nat.le_trans Z0 K192.1) ) hZ (own_w hw 55 rfl) (own_w hw 54 rfl) (by decide) (by decide)) (g := (mkF m 276 #[.val (.long q1), .second, .val (.long q2), .second, .val (.long q3), .second, .val (.long q4), .second, .val (.long q5), .second, .val (.int p6), .val (.long k0), .second, .val (.long k1), .second, .val (.long k2), .second, .val (.long k3), .second, .val (.long k4), .second, .val (.int (0 : Int32)), .val (.ref b163), .val (.long k0), .second, .val (.int (-1 : Int32)), .val (.int (1 : Int32)), .val (.int (2 : Int32)), .val (.int (3 : Int32))] [(.int (0 : Int32)), (.int (1 : Int32)), (.int (1 : Int32))])) rfl (by rw [hml]; rfl) (argsL := [(.int (1 : Int32)), (.int (1 : Int32)), (.int (0 : Int32))]) (rest := []) (lenOf pd7 rfl) rfl (by show 2 * 0 + _ ≤ _; exact Nat.le_of_eq rfl) (hb hby at_276) (fun _ _ => ⟨rfl, q207_hh, (by decide : 3 + 0 ≤ _), (by decide : 35 + 0 ≤ _)⟩)
                        dsimp only [Pt.U, Pt.locs, Pt.cells, Pt.slots] at X210 l210 y210 z210 st210 hQ210
                        subst l210 y210 z210
                        obtain ⟨rfl, N210q, q210_hh⟩ := hQ210
                        have N210 := Fr.app N207 N210q
                        have c211 : ¬ ((own_okv (1 : Int32) (1 : Int32) (0 : Int32)) = (0 : Int32)) := by decide
                        have p212 : Go p.tables e below _ (T210.setTop (mkF m 287 #[.val (.long q1), .second, .val (.long q2), .second, .val (.long q3), .second, .val (.long q4), .second, .val (.long q5), .second, .val (.int p6), .val (.long k0), .second, .val (.long k1), .second, .val (.long k2), .second, .val (.long k3), .second, .val (.long k4), .second, .val (.int (0 : Int32)), .val (.ref b163), .val (.long k0), .second, .val (.int (-1 : Int32)), .val (.int (1 : Int32)), .val (.int (2 : Int32)), .val (.int (3 : Int32))] [(.int (0 : Int32)), (.int (2 : Int32)), (.int (2 : Int32))])) := fun t_ k_ => (gc p209 st210) t_ (by
                          refine XS.ifNo X210.here hx rfl (hb hby at_279) rfl ((if0 _ _).trans (feq c211).1) ?_
                          refine XS.iload X210.here hx rfl (hb hby at_282) rfl ?_
                          refine XS.iconst X210.here hx rfl (hb hby at_284) ?_
                          refine XS.iload X210.here hx rfl (hb hby at_285) rfl ?_
                          exact k_)
                        obtain ⟨_, _, ⟨T213, L213, k213, n213⟩, -, X213, ⟨Lc213, hQ213, l213, y213, z213⟩, st213⟩ := Jvm.LawKit.callS X210 hx (y := (⟨"com/example/subsume/subsume/reasoner/PositionsRemovePinLaw", "ok", "(III)Z"⟩ : MethodName)) hown (mvT hZ (own_w hw 52 rfl)) (mvT hZ (own_w hw 53 rfl)) (mvT hZ (own_w hw 54 rfl)) (mvT hZ (own_w hw 55 rfl)) (by decide) (backOf (W := 0) (rm10 l Z a0 hw [] (2 : Int32) (2 : Int32) (0 : Int32) T191.heap n0 (Nat.le_trans Z0 K192.1) ) hZ (own_w hw 55 rfl) (own_w hw 54 rfl) (by decide) (by decide)) (g := (mkF m 287 #[.val (.long q1), .second, .val (.long q2), .second, .val (.long q3), .second, .val (.long q4), .second, .val (.long q5), .second, .val (.int p6), .val (.long k0), .second, .val (.long k1), .second, .val (.long k2), .second, .val (.long k3), .second, .val (.long k4), .second, .val (.int (0 : Int32)), .val (.ref b163), .val (.long k0), .second, .val (.int (-1 : Int32)), .val (.int (1 : Int32)), .val (.int (2 : Int32)), .val (.int (3 : Int32))] [(.int (0 : Int32)), (.int (2 : Int32)), (.int (2 : Int32))])) rfl (by rw [hml]; rfl) (argsL := [(.int (2 : Int32)), (.int (2 : Int32)), (.int (0 : Int32))]) (rest := []) (lenOf pd7 rfl) rfl (by show 2 * 0 + _ ≤ _; exact Nat.le_of_eq rfl) (hb hby at_287) (fun _ _ => ⟨rfl, q210_hh, (by decide : 3 + 0 ≤ _), (by decide : 35 + 0 ≤ _)⟩)
                        dsimp only [Pt.U, Pt.locs, Pt.cells, Pt.slots] at X213 l213 y213 z213 st213 hQ213
                        subst l213 y213 z213
                        obtain ⟨rfl, N213q, q213_hh⟩ := hQ213
                        have N213 := Fr.app N210 N213q
                        have c214 : ¬ ((own_okv (2 : Int32) (2 : Int32) (0 : Int32)) = (0 : Int32)) := by decide
                        have p215 : Go p.tables e below _ (T213.setTop (mkF m 298 #[.val (.long q1), .second, .val (.long q2), .second, .val (.long q3), .second, .val (.long q4), .second, .val (.long q5), .second, .val (.int p6), .val (.long k0), .second, .val (.long k1), .second, .val (.long k2), .second, .val (.long k3), .second, .val (.long k4), .second, .val (.int (0 : Int32)), .val (.ref b163), .val (.long k0), .second, .val (.int (-1 : Int32)), .val (.int (1 : Int32)), .val (.int (2 : Int32)), .val (.int (3 : Int32))] [(.int (0 : Int32)), (.int (3 : Int32)), (.int (3 : Int32))])) := fun t_ k_ => (gc p212 st213) t_ (by
                          refine XS.ifNo X213.here hx rfl (hb hby at_290) rfl ((if0 _ _).trans (feq c214).1) ?_
                          refine XS.iload X213.here hx rfl (hb hby at_293) rfl ?_
                          refine XS.iconst X213.here hx rfl (hb hby at_295) ?_
                          refine XS.iload X213.here hx rfl (hb hby at_296) rfl ?_
                          exact k_)
                        obtain ⟨_, _, ⟨T216, L216, k216, n216⟩, -, X216, ⟨Lc216, hQ216, l216, y216, z216⟩, st216⟩ := Jvm.LawKit.callS X213 hx (y := (⟨"com/example/subsume/subsume/reasoner/PositionsRemovePinLaw", "ok", "(III)Z"⟩ : MethodName)) hown (mvT hZ (own_w hw 52 rfl)) (mvT hZ (own_w hw 53 rfl)) (mvT hZ (own_w hw 54 rfl)) (mvT hZ (own_w hw 55 rfl)) (by decide) (backOf (W := 0) (rm10 l Z a0 hw [] (3 : Int32) (3 : Int32) (0 : Int32) T191.heap n0 (Nat.le_trans Z0 K192.1) ) hZ (own_w hw 55 rfl) (own_w hw 54 rfl) (by decide) (by decide)) (g := (mkF m 298 #[.val (.long q1), .second, .val (.long q2), .second, .val (.long q3), .second, .val (.long q4), .second, .val (.long q5), .second, .val (.int p6), .val (.long k0), .second, .val (.long k1), .second, .val (.long k2), .second, .val (.long k3), .second, .val (.long k4), .second, .val (.int (0 : Int32)), .val (.ref b163), .val (.long k0), .second, .val (.int (-1 : Int32)), .val (.int (1 : Int32)), .val (.int (2 : Int32)), .val (.int (3 : Int32))] [(.int (0 : Int32)), (.int (3 : Int32)), (.int (3 : Int32))])) rfl (by rw [hml]; rfl) (argsL := [(.int (3 : Int32)), (.int (3 : Int32)), (.int (0 : Int32))]) (rest := []) (lenOf pd7 rfl) rfl (by show 2 * 0 + _ ≤ _; exact Nat.le_of_eq rfl) (hb hby at_298) (fun _ _ => ⟨rfl, q213_hh, (by decide : 3 + 0 ≤ _), (by decide : 35 + 0 ≤ _)⟩)
                        dsimp only [Pt.U, Pt.locs, Pt.cells, Pt.slots] at X216 l216 y216 z216 st216 hQ216
                        subst l216 y216 z216
                        obtain ⟨rfl, N216q, q216_hh⟩ := hQ216
                        have N216 := Fr.app N213 N216q
                        have c217 : ¬ ((own_okv (3 : Int32) (3 : Int32) (0 : Int32)) = (0 : Int32)) := by decide
                        have p218 : Go p.tables e below _ (T216.setTop (mkF m 309 #[.val (.long q1), .second, .val (.long q2), .second, .val (.long q3), .second, .val (.long q4), .second, .val (.long q5), .second, .val (.int p6), .val (.long k0), .second, .val (.long k1), .second, .val (.long k2), .second, .val (.long k3), .second, .val (.long k4), .second, .val (.int (0 : Int32)), .val (.ref b163), .val (.long k0), .second, .val (.int (-1 : Int32)), .val (.int (1 : Int32)), .val (.int (2 : Int32)), .val (.int (3 : Int32))] [(.int (1 : Int32))])) := fun t_ k_ => (gc p215 st216) t_ (by
                          refine XS.ifNo X216.here hx rfl (hb hby at_301) rfl ((if0 _ _).trans (feq c217).1) ?_
                          refine XS.iconst X216.here hx rfl (hb hby at_304) ?_
                          refine XS.goto X216.here hx rfl (pc0 := 305) (pc' := 309) rfl (hb hby at_305) (by decide) (by decide) ?_
                          exact k_)
                        obtain ⟨fs, hr, hrun, hended, hW, hsame⟩ := X216.leave (v := some (.int (1 : Int32))) (fun h => by rw [Bd.returns] at h; cases h)
                        refine ⟨_, _, p218 _ (retN X216 hx (t := .boolean) Bd.returns (by simp) (hb hby at_309) hr), hrun, hended, _, _, rfl, ?_, ⟨_, rfl⟩, hW, hsame.mono (by decide) (by decide)⟩
                        show Q0 Z q1 q2 q3 q4 q5 p6 h0 n0 _ T216.heap _
                        rw [q216_hh]
                        exact ⟨rfl, N216⟩
                      · have p219 : Go p.tables e below (s₁.setTop (entryFrame m #[(.long q1), (.long q2), (.long q3), (.long q4), (.long q5), (.int p6)] maxLocals)) (T186.setTop (mkF m 170 #[.val (.long q1), .second, .val (.long q2), .second, .val (.long q3), .second, .val (.long q4), .second, .val (.long q5), .second, .val (.int p6), .val (.long k0), .second, .val (.long k1), .second, .val (.long k2), .second, .val (.long k3), .second, .val (.long k4), .second, .val (.int (1 : Int32)), .val (.ref b163), .unset, .unset, .unset, .unset, .unset, .unset] [])) := by rw [← ro]; exact (gcT p185 st186)
                        obtain ⟨t, ht, hK, hP, hu⟩ := own_Tb.get own_home_lt TB188 n1' (p := (1 : Int32)) (by simp)
                        obtain ⟨n, hok, TR⟩ := own_Tb.remove own_home_lt TB188 (by simp) n1' hK
                        have p220 : Go p.tables e below _ (T186.setTop (mkF m 221 #[.val (.long q1), .second, .val (.long q2), .second, .val (.long q3), .second, .val (.long q4), .second, .val (.long q5), .second, .val (.int p6), .val (.long k0), .second, .val (.long k1), .second, .val (.long k2), .second, .val (.long k3), .second, .val (.long k4), .second, .val (.int (1 : Int32)), .val (.ref b163), .val (.long k1), .second, .unset, .unset, .unset, .unset] [(.long k1), (.ref b163)])) := fun t_ k_ => p219 t_ (by
                          refine XS.iload X186.here hx rfl (hb hby at_170) rfl ?_
                          refine XS.ifYes X186.here hx rfl (pc0 := 172) (pc' := 180) rfl (hb hby at_172) rfl ((if0 _ _).trans (feq (by decide : ¬ ((1 : Int32) = (0 : Int32)))).2) (by decide) (by decide) ?_
                          refine XS.iload X186.here hx rfl (hb hby at_180) rfl ?_
                          refine XS.iconst X186.here hx rfl (hb hby at_182) ?_
                          refine XS.icmpNo X186.here hx rfl (hb hby at_183) rfl (teq (by decide : ((1 : Int32) = (1 : Int32)))).2 ?_
                          refine XS.lload X186.here hx rfl (hb hby at_186) rfl ?_
                          refine XS.goto X186.here hx rfl (pc0 := 188) (pc' := 215) rfl (hb hby at_188) (by decide) (by decide) ?_
                          refine XS.lstore X186.here hx rfl (hb hby at_215) rfl (l' := #[.val (.long q1), .second, .val (.long q2), .second, .val (.long q3), .second, .val (.long q4), .second, .val (.long q5), .second, .val (.int p6), .val (.long k0), .second, .val (.long k1), .second, .val (.long k2), .second, .val (.long k3), .second, .val (.long k4), .second, .val (.int (1 : Int32)), .val (.ref b163), .val (.long k1), .second, .unset, .unset, .unset, .unset]) rfl ?_
                          refine XS.aload X186.here hx rfl (hb hby at_217) rfl rfl ?_
                          refine XS.lload X186.here hx rfl (hb hby at_219) rfl ?_
                          exact k_)
                        obtain ⟨cq221, kq221, q221a, q221b, q221c⟩ := isOf hZ rfl q186_E
                        obtain ⟨_, _, ⟨T221, L221, k221, n221⟩, -, X221, ⟨Lc221, hQ221, l221, y221, z221⟩, st221⟩ := X186.virtualBack hx (y := (⟨"com/example/subsume/subsume/reasoner/Positions", "remove", "(J)V"⟩ : MethodName)) (z := (⟨"com/example/subsume/subsume/reasoner/Positions", "remove", "(J)V"⟩ : MethodName)) hown (mvT hZ (own_w hw 42 rfl)) (mvT hZ (own_w hw 43 rfl)) (notFace_of_selects (args := #[]) (mvT hZ (own_w hw 45 rfl))) (mvT hZ (own_w hw 45 rfl)) (mvT hZ (own_w hw 44 rfl)) (by decide) (backOf (W := 0) (rm8f l Z a0 hw [] b163 k1 (((((0 : Int32) + (1 : Int32)) + (1 : Int32)) + (1 : Int32)) + (1 : Int32)) x167 x168 ks188 x169 x170 ps188 t n T186.heap n0 (Nat.le_trans Z0 K187.1) q186_k q186_p q186_E vk188 vp188 q186_s ne_b163_x167 ne_b163_x169 q166_n3 ge_b163 q166_g2 q166_g3 TB188.1 TB188.2.1 hu hK hok) hZ (own_w hw 46 rfl) (own_w hw 4 rfl) (by decide) (by decide)) q221a q221c (g := (mkF m 221 #[.val (.long q1), .second, .val (.long q2), .second, .val (.long q3), .second, .val (.long q4), .second, .val (.long q5), .second, .val (.int p6), .val (.long k0), .second, .val (.long k1), .second, .val (.long k2), .second, .val (.long k3), .second, .val (.long k4), .second, .val (.int (1 : Int32)), .val (.ref b163), .val (.long k1), .second, .unset, .unset, .unset, .unset] [(.long k1), (.ref b163)])) rfl (by rw [hml]; rfl) (Steps.refl _) (argsL := [(.long k1)]) (rest := []) (lenOf pd6 rfl) rfl (by show 2 * 0 + _ ≤ _; exact Nat.le_of_eq rfl) (hb hby at_221) (fun _ _ => ⟨rfl, rfl, (by decide : 3 + 0 ≤ _), (by decide : 35 + 0 ≤ _)⟩)
                        dsimp only [Pt.U, Pt.locs, Pt.cells, Pt.slots] at X221 l221 y221 z221 st221 hQ221
                        subst l221 y221 z221
                        obtain ⟨rfl, N221q, q221_K, q221_k, q221_p, q221_E, q221_vk, q221_vp⟩ := hQ221
                        have N221 := Fr.app N186 N221q
                        have K222 : Keep h0 T221.heap [] := K187.trans q221_K (allS (Or.inr sz_b163) (allS (Or.inr (Nat.le_trans K164.1 q166_z2)) (allS (Or.inr (Nat.le_trans K164.1 q166_z3)) all0)))
                        obtain ⟨ks223, ps223, vk223, vp223, TB223⟩ : ∃ (ks : List Int64) (ps : List Int32), Arv Z T221.heap x167 x168 .long (16 : Int32) (ks.map Value.long) (.long (0 : Int64)) ∧ Arv Z T221.heap x169 x170 .int (16 : Int32) (ps.map Value.int) (.int (0 : Int32)) ∧ own_Tb own_home ks ps (([(k3, (3 : Int32)), (k2, (2 : Int32)), (k1, (1 : Int32)), (k0, (0 : Int32))] : List (Int64 × Int32)).filter fun z => z.1 ≠ k1) (((own_home k3 + t3) % 16) :: (((own_home k2 + t2) % 16) :: (((own_home k1 + t1) % 16) :: (((own_home k0 + t0) % 16) :: [])))) := ⟨_, _, q221_vk, q221_vp, TR⟩
                        obtain ⟨u0, hu0a, hK0, hP0, hu0b⟩ := own_Tb.get own_home_lt TB223 n0' (p := (0 : Int32)) (by simp [d01, (Ne.symm d01), d02, (Ne.symm d02), d03, (Ne.symm d03), d04, (Ne.symm d04), d12, (Ne.symm d12), d13, (Ne.symm d13), d14, (Ne.symm d14), d23, (Ne.symm d23), d24, (Ne.symm d24), d34, (Ne.symm d34)])
                        have gv0 : own_gv ks223 ps223 k0 u0 = (0 : Int32) := by simp [own_gv, hK0, hP0]
                        have p224 : Go p.tables e below _ (T221.setTop (mkF m 228 #[.val (.long q1), .second, .val (.long q2), .second, .val (.long q3), .second, .val (.long q4), .second, .val (.long q5), .second, .val (.int p6), .val (.long k0), .second, .val (.long k1), .second, .val (.long k2), .second, .val (.long k3), .second, .val (.long k4), .second, .val (.int (1 : Int32)), .val (.ref b163), .val (.long k1), .second, .unset, .unset, .unset, .unset] [(.long k0), (.ref b163)])) := fun t_ k_ => (gcT p220 st221) t_ (by
                          refine XS.aload X221.here hx rfl (hb hby at_224) rfl rfl ?_
                          refine XS.lload X221.here hx rfl (hb hby at_226) rfl ?_
                          exact k_)
                        obtain ⟨cq225, kq225, q225a, q225b, q225c⟩ := isOf hZ rfl q221_E
                        obtain ⟨_, _, ⟨T225, L225, k225, n225⟩, -, X225, ⟨Lc225, hQ225, l225, y225, z225⟩, st225⟩ := X221.virtualBack hx (y := (⟨"com/example/subsume/subsume/reasoner/Positions", "get", "(J)I"⟩ : MethodName)) (z := (⟨"com/example/subsume/subsume/reasoner/Positions", "get", "(J)I"⟩ : MethodName)) hown (mvT hZ (own_w hw 47 rfl)) (mvT hZ (own_w hw 48 rfl)) (notFace_of_selects (args := #[]) (mvT hZ (own_w hw 50 rfl))) (mvT hZ (own_w hw 50 rfl)) (mvT hZ (own_w hw 49 rfl)) (by decide) (backOf (W := 0) (rm9 l Z a0 hw [] b163 k0 x167 x168 ks223 x169 x170 ps223 u0 T221.heap n0 (Nat.le_trans Z0 K222.1) q221_k q221_p q221_E vk223 vp223 hu0b (Or.inl hK0)) hZ (own_w hw 51 rfl) (own_w hw 4 rfl) (by decide) (by decide)) q225a q225c (g := (mkF m 228 #[.val (.long q1), .second, .val (.long q2), .second, .val (.long q3), .second, .val (.long q4), .second, .val (.long q5), .second, .val (.int p6), .val (.long k0), .second, .val (.long k1), .second, .val (.long k2), .second, .val (.long k3), .second, .val (.long k4), .second, .val (.int (1 : Int32)), .val (.ref b163), .val (.long k1), .second, .unset, .unset, .unset, .unset] [(.long k0), (.ref b163)])) rfl (by rw [hml]; rfl) (Steps.refl _) (argsL := [(.long k0)]) (rest := []) (lenOf pd1 rfl) rfl (by show 2 * 0 + _ ≤ _; exact Nat.le_of_eq rfl) (hb hby at_228) (fun _ _ => ⟨rfl, rfl, (by decide : 3 + 0 ≤ _), (by decide : 35 + 0 ≤ _)⟩)
                        dsimp only [Pt.U, Pt.locs, Pt.cells, Pt.slots] at X225 l225 y225 z225 st225 hQ225
                        subst l225 y225 z225
                        obtain ⟨rfl, N225q, q225_hh⟩ := hQ225
                        have N225 := Fr.app N221 N225q
                        have p226 : Go p.tables e below (s₁.setTop (entryFrame m #[(.long q1), (.long q2), (.long q3), (.long q4), (.long q5), (.int p6)] maxLocals)) (T225.setTop (mkF m 231 #[.val (.long q1), .second, .val (.long q2), .second, .val (.long q3), .second, .val (.long q4), .second, .val (.long q5), .second, .val (.int p6), .val (.long k0), .second, .val (.long k1), .second, .val (.long k2), .second, .val (.long k3), .second, .val (.long k4), .second, .val (.int (1 : Int32)), .val (.ref b163), .val (.long k1), .second, .unset, .unset, .unset, .unset] [(.int (0 : Int32))])) := by have z := (gcT p224 st225); rw [gv0] at z; exact z
                        obtain ⟨u1, hu1a, hK1, hu1b⟩ := own_Tb.getn own_home_lt TB223 (by simp) n1' (by intro p; simp)
                        have gv1 : own_gv ks223 ps223 k1 u1 = (-1 : Int32) := by simp [own_gv, hK1, Ne.symm n1']
                        have p227 : Go p.tables e below _ (T225.setTop (mkF m 237 #[.val (.long q1), .second, .val (.long q2), .second, .val (.long q3), .second, .val (.long q4), .second, .val (.long q5), .second, .val (.int p6), .val (.long k0), .second, .val (.long k1), .second, .val (.long k2), .second, .val (.long k3), .second, .val (.long k4), .second, .val (.int (1 : Int32)), .val (.ref b163), .val (.long k1), .second, .val (.int (0 : Int32)), .unset, .unset, .unset] [(.long k1), (.ref b163)])) := fun t_ k_ => p226 t_ (by
                          refine XS.istore X225.here hx rfl (hb hby at_231) rfl (l' := #[.val (.long q1), .second, .val (.long q2), .second, .val (.long q3), .second, .val (.long q4), .second, .val (.long q5), .second, .val (.int p6), .val (.long k0), .second, .val (.long k1), .second, .val (.long k2), .second, .val (.long k3), .second, .val (.long k4), .second, .val (.int (1 : Int32)), .val (.ref b163), .val (.long k1), .second, .val (.int (0 : Int32)), .unset, .unset, .unset]) rfl ?_
                          refine XS.aload X225.here hx rfl (hb hby at_233) rfl rfl ?_
                          refine XS.lload X225.here hx rfl (hb hby at_235) rfl ?_
                          exact k_)
                        obtain ⟨cq228, kq228, q228a, q228b, q228c⟩ := isOf hZ q225_hh q221_E
                        obtain ⟨_, _, ⟨T228, L228, k228, n228⟩, -, X228, ⟨Lc228, hQ228, l228, y228, z228⟩, st228⟩ := X225.virtualBack hx (y := (⟨"com/example/subsume/subsume/reasoner/Positions", "get", "(J)I"⟩ : MethodName)) (z := (⟨"com/example/subsume/subsume/reasoner/Positions", "get", "(J)I"⟩ : MethodName)) hown (mvT hZ (own_w hw 47 rfl)) (mvT hZ (own_w hw 48 rfl)) (notFace_of_selects (args := #[]) (mvT hZ (own_w hw 50 rfl))) (mvT hZ (own_w hw 50 rfl)) (mvT hZ (own_w hw 49 rfl)) (by decide) (backOf (W := 0) (rm9 l Z a0 hw [] b163 k1 x167 x168 ks223 x169 x170 ps223 u1 T221.heap n0 (Nat.le_trans Z0 K222.1) q221_k q221_p q221_E vk223 vp223 hu1b (Or.inr hK1)) hZ (own_w hw 51 rfl) (own_w hw 4 rfl) (by decide) (by decide)) q228a q228c (g := (mkF m 237 #[.val (.long q1), .second, .val (.long q2), .second, .val (.long q3), .second, .val (.long q4), .second, .val (.long q5), .second, .val (.int p6), .val (.long k0), .second, .val (.long k1), .second, .val (.long k2), .second, .val (.long k3), .second, .val (.long k4), .second, .val (.int (1 : Int32)), .val (.ref b163), .val (.long k1), .second, .val (.int (0 : Int32)), .unset, .unset, .unset] [(.long k1), (.ref b163)])) rfl (by rw [hml]; rfl) (Steps.refl _) (argsL := [(.long k1)]) (rest := []) (lenOf pd1 rfl) rfl (by show 2 * 0 + _ ≤ _; exact Nat.le_of_eq rfl) (hb hby at_237) (fun _ _ => ⟨rfl, q225_hh, (by decide : 3 + 0 ≤ _), (by decide : 35 + 0 ≤ _)⟩)
                        dsimp only [Pt.U, Pt.locs, Pt.cells, Pt.slots] at X228 l228 y228 z228 st228 hQ228
                        subst l228 y228 z228
                        obtain ⟨rfl, N228q, q228_hh⟩ := hQ228
                        have N228 := Fr.app N225 N228q
                        have p229 : Go p.tables e below (s₁.setTop (entryFrame m #[(.long q1), (.long q2), (.long q3), (.long q4), (.long q5), (.int p6)] maxLocals)) (T228.setTop (mkF m 240 #[.val (.long q1), .second, .val (.long q2), .second, .val (.long q3), .second, .val (.long q4), .second, .val (.long q5), .second, .val (.int p6), .val (.long k0), .second, .val (.long k1), .second, .val (.long k2), .second, .val (.long k3), .second, .val (.long k4), .second, .val (.int (1 : Int32)), .val (.ref b163), .val (.long k1), .second, .val (.int (0 : Int32)), .unset, .unset, .unset] [(.int (-1 : Int32))])) := by have z := (gcT p227 st228); rw [gv1] at z; exact z
                        obtain ⟨u2, hu2a, hK2, hP2, hu2b⟩ := own_Tb.get own_home_lt TB223 n2' (p := (2 : Int32)) (by simp [d01, (Ne.symm d01), d02, (Ne.symm d02), d03, (Ne.symm d03), d04, (Ne.symm d04), d12, (Ne.symm d12), d13, (Ne.symm d13), d14, (Ne.symm d14), d23, (Ne.symm d23), d24, (Ne.symm d24), d34, (Ne.symm d34)])
                        have gv2 : own_gv ks223 ps223 k2 u2 = (2 : Int32) := by simp [own_gv, hK2, hP2]
                        have p230 : Go p.tables e below _ (T228.setTop (mkF m 246 #[.val (.long q1), .second, .val (.long q2), .second, .val (.long q3), .second, .val (.long q4), .second, .val (.long q5), .second, .val (.int p6), .val (.long k0), .second, .val (.long k1), .second, .val (.long k2), .second, .val (.long k3), .second, .val (.long k4), .second, .val (.int (1 : Int32)), .val (.ref b163), .val (.long k1), .second, .val (.int (0 : Int32)), .val (.int (-1 : Int32)), .unset, .unset] [(.long k2), (.ref b163)])) := fun t_ k_ => p229 t_ (by
                          refine XS.istore X228.here hx rfl (hb hby at_240) rfl (l' := #[.val (.long q1), .second, .val (.long q2), .second, .val (.long q3), .second, .val (.long q4), .second, .val (.long q5), .second, .val (.int p6), .val (.long k0), .second, .val (.long k1), .second, .val (.long k2), .second, .val (.long k3), .second, .val (.long k4), .second, .val (.int (1 : Int32)), .val (.ref b163), .val (.long k1), .second, .val (.int (0 : Int32)), .val (.int (-1 : Int32)), .unset, .unset]) rfl ?_
                          refine XS.aload X228.here hx rfl (hb hby at_242) rfl rfl ?_
                          refine XS.lload X228.here hx rfl (hb hby at_244) rfl ?_
                          exact k_)
                        obtain ⟨cq231, kq231, q231a, q231b, q231c⟩ := isOf hZ q228_hh q221_E
                        obtain ⟨_, _, ⟨T231, L231, k231, n231⟩, -, X231, ⟨Lc231, hQ231, l231, y231, z231⟩, st231⟩ := X228.virtualBack hx (y := (⟨"com/example/subsume/subsume/reasoner/Positions", "get", "(J)I"⟩ : MethodName)) (z := (⟨"com/example/subsume/subsume/reasoner/Positions", "get", "(J)I"⟩ : MethodName)) hown (mvT hZ (own_w hw 47 rfl)) (mvT hZ (own_w hw 48 rfl)) (notFace_of_selects (args := #[]) (mvT hZ (own_w hw 50 rfl))) (mvT hZ (own_w hw 50 rfl)) (mvT hZ (own_w hw 49 rfl)) (by decide) (backOf (W := 0) (rm9 l Z a0 hw [] b163 k2 x167 x168 ks223 x169 x170 ps223 u2 T221.heap n0 (Nat.le_trans Z0 K222.1) q221_k q221_p q221_E vk223 vp223 hu2b (Or.inl hK2)) hZ (own_w hw 51 rfl) (own_w hw 4 rfl) (by decide) (by decide)) q231a q231c (g := (mkF m 246 #[.val (.long q1), .second, .val (.long q2), .second, .val (.long q3), .second, .val (.long q4), .second, .val (.long q5), .second, .val (.int p6), .val (.long k0), .second, .val (.long k1), .second, .val (.long k2), .second, .val (.long k3), .second, .val (.long k4), .second, .val (.int (1 : Int32)), .val (.ref b163), .val (.long k1), .second, .val (.int (0 : Int32)), .val (.int (-1 : Int32)), .unset, .unset] [(.long k2), (.ref b163)])) rfl (by rw [hml]; rfl) (Steps.refl _) (argsL := [(.long k2)]) (rest := []) (lenOf pd1 rfl) rfl (by show 2 * 0 + _ ≤ _; exact Nat.le_of_eq rfl) (hb hby at_246) (fun _ _ => ⟨rfl, q228_hh, (by decide : 3 + 0 ≤ _), (by decide : 35 + 0 ≤ _)⟩)
                        dsimp only [Pt.U, Pt.locs, Pt.cells, Pt.slots] at X231 l231 y231 z231 st231 hQ231
                        subst l231 y231 z231
                        obtain ⟨rfl, N231q, q231_hh⟩ := hQ231
                        have N231 := Fr.app N228 N231q
                        have p232 : Go p.tables e below (s₁.setTop (entryFrame m #[(.long q1), (.long q2), (.long q3), (.long q4), (.long q5), (.int p6)] maxLocals)) (T231.setTop (mkF m 249 #[.val (.long q1), .second, .val (.long q2), .second, .val (.long q3), .second, .val (.long q4), .second, .val (.long q5), .second, .val (.int p6), .val (.long k0), .second, .val (.long k1), .second, .val (.long k2), .second, .val (.long k3), .second, .val (.long k4), .second, .val (.int (1 : Int32)), .val (.ref b163), .val (.long k1), .second, .val (.int (0 : Int32)), .val (.int (-1 : Int32)), .unset, .unset] [(.int (2 : Int32))])) := by have z := (gcT p230 st231); rw [gv2] at z; exact z
                        obtain ⟨u3, hu3a, hK3, hP3, hu3b⟩ := own_Tb.get own_home_lt TB223 n3' (p := (3 : Int32)) (by simp [d01, (Ne.symm d01), d02, (Ne.symm d02), d03, (Ne.symm d03), d04, (Ne.symm d04), d12, (Ne.symm d12), d13, (Ne.symm d13), d14, (Ne.symm d14), d23, (Ne.symm d23), d24, (Ne.symm d24), d34, (Ne.symm d34)])
                        have gv3 : own_gv ks223 ps223 k3 u3 = (3 : Int32) := by simp [own_gv, hK3, hP3]
                        have p233 : Go p.tables e below _ (T231.setTop (mkF m 255 #[.val (.long q1), .second, .val (.long q2), .second, .val (.long q3), .second, .val (.long q4), .second, .val (.long q5), .second, .val (.int p6), .val (.long k0), .second, .val (.long k1), .second, .val (.long k2), .second, .val (.long k3), .second, .val (.long k4), .second, .val (.int (1 : Int32)), .val (.ref b163), .val (.long k1), .second, .val (.int (0 : Int32)), .val (.int (-1 : Int32)), .val (.int (2 : Int32)), .unset] [(.long k3), (.ref b163)])) := fun t_ k_ => p232 t_ (by
                          refine XS.istore X231.here hx rfl (hb hby at_249) rfl (l' := #[.val (.long q1), .second, .val (.long q2), .second, .val (.long q3), .second, .val (.long q4), .second, .val (.long q5), .second, .val (.int p6), .val (.long k0), .second, .val (.long k1), .second, .val (.long k2), .second, .val (.long k3), .second, .val (.long k4), .second, .val (.int (1 : Int32)), .val (.ref b163), .val (.long k1), .second, .val (.int (0 : Int32)), .val (.int (-1 : Int32)), .val (.int (2 : Int32)), .unset]) rfl ?_
                          refine XS.aload X231.here hx rfl (hb hby at_251) rfl rfl ?_
                          refine XS.lload X231.here hx rfl (hb hby at_253) rfl ?_
                          exact k_)
                        obtain ⟨cq234, kq234, q234a, q234b, q234c⟩ := isOf hZ q231_hh q221_E
                        obtain ⟨_, _, ⟨T234, L234, k234, n234⟩, -, X234, ⟨Lc234, hQ234, l234, y234, z234⟩, st234⟩ := X231.virtualBack hx (y := (⟨"com/example/subsume/subsume/reasoner/Positions", "get", "(J)I"⟩ : MethodName)) (z := (⟨"com/example/subsume/subsume/reasoner/Positions", "get", "(J)I"⟩ : MethodName)) hown (mvT hZ (own_w hw 47 rfl)) (mvT hZ (own_w hw 48 rfl)) (notFace_of_selects (args := #[]) (mvT hZ (own_w hw 50 rfl))) (mvT hZ (own_w hw 50 rfl)) (mvT hZ (own_w hw 49 rfl)) (by decide) (backOf (W := 0) (rm9 l Z a0 hw [] b163 k3 x167 x168 ks223 x169 x170 ps223 u3 T221.heap n0 (Nat.le_trans Z0 K222.1) q221_k q221_p q221_E vk223 vp223 hu3b (Or.inl hK3)) hZ (own_w hw 51 rfl) (own_w hw 4 rfl) (by decide) (by decide)) q234a q234c (g := (mkF m 255 #[.val (.long q1), .second, .val (.long q2), .second, .val (.long q3), .second, .val (.long q4), .second, .val (.long q5), .second, .val (.int p6), .val (.long k0), .second, .val (.long k1), .second, .val (.long k2), .second, .val (.long k3), .second, .val (.long k4), .second, .val (.int (1 : Int32)), .val (.ref b163), .val (.long k1), .second, .val (.int (0 : Int32)), .val (.int (-1 : Int32)), .val (.int (2 : Int32)), .unset] [(.long k3), (.ref b163)])) rfl (by rw [hml]; rfl) (Steps.refl _) (argsL := [(.long k3)]) (rest := []) (lenOf pd1 rfl) rfl (by show 2 * 0 + _ ≤ _; exact Nat.le_of_eq rfl) (hb hby at_255) (fun _ _ => ⟨rfl, q231_hh, (by decide : 3 + 0 ≤ _), (by decide : 35 + 0 ≤ _)⟩)
                        dsimp only [Pt.U, Pt.locs, Pt.cells, Pt.slots] at X234 l234 y234 z234 st234 hQ234
                        subst l234 y234 z234
                        obtain ⟨rfl, N234q, q234_hh⟩ := hQ234
                        have N234 := Fr.app N231 N234q
                        have p235 : Go p.tables e below (s₁.setTop (entryFrame m #[(.long q1), (.long q2), (.long q3), (.long q4), (.long q5), (.int p6)] maxLocals)) (T234.setTop (mkF m 258 #[.val (.long q1), .second, .val (.long q2), .second, .val (.long q3), .second, .val (.long q4), .second, .val (.long q5), .second, .val (.int p6), .val (.long k0), .second, .val (.long k1), .second, .val (.long k2), .second, .val (.long k3), .second, .val (.long k4), .second, .val (.int (1 : Int32)), .val (.ref b163), .val (.long k1), .second, .val (.int (0 : Int32)), .val (.int (-1 : Int32)), .val (.int (2 : Int32)), .unset] [(.int (3 : Int32))])) := by have z := (gcT p233 st234); rw [gv3] at z; exact z
                        have p236 : Go p.tables e below _ (T234.setTop (mkF m 265 #[.val (.long q1), .second, .val (.long q2), .second, .val (.long q3), .second, .val (.long q4), .second, .val (.long q5), .second, .val (.int p6), .val (.long k0), .second, .val (.long k1), .second, .val (.long k2), .second, .val (.long k3), .second, .val (.long k4), .second, .val (.int (1 : Int32)), .val (.ref b163), .val (.long k1), .second, .val (.int (0 : Int32)), .val (.int (-1 : Int32)), .val (.int (2 : Int32)), .val (.int (3 : Int32))] [(.int (1 : Int32)), (.int (0 : Int32)), (.int (0 : Int32))])) := fun t_ k_ => p235 t_ (by
                          refine XS.istore X234.here hx rfl (hb hby at_258) rfl (l' := #[.val (.long q1), .second, .val (.long q2), .second, .val (.long q3), .second, .val (.long q4), .second, .val (.long q5), .second, .val (.int p6), .val (.long k0), .second, .val (.long k1), .second, .val (.long k2), .second, .val (.long k3), .second, .val (.long k4), .second, .val (.int (1 : Int32)), .val (.ref b163), .val (.long k1), .second, .val (.int (0 : Int32)), .val (.int (-1 : Int32)), .val (.int (2 : Int32)), .val (.int (3 : Int32))]) rfl ?_
                          refine XS.iload X234.here hx rfl (hb hby at_260) rfl ?_
                          refine XS.iconst X234.here hx rfl (hb hby at_262) ?_
                          refine XS.iload X234.here hx rfl (hb hby at_263) rfl ?_
                          exact k_)
                        obtain ⟨_, _, ⟨T237, L237, k237, n237⟩, -, X237, ⟨Lc237, hQ237, l237, y237, z237⟩, st237⟩ := Jvm.LawKit.callS X234 hx (y := (⟨"com/example/subsume/subsume/reasoner/PositionsRemovePinLaw", "ok", "(III)Z"⟩ : MethodName)) hown (mvT hZ (own_w hw 52 rfl)) (mvT hZ (own_w hw 53 rfl)) (mvT hZ (own_w hw 54 rfl)) (mvT hZ (own_w hw 55 rfl)) (by decide) (backOf (W := 0) (rm10 l Z a0 hw [] (0 : Int32) (0 : Int32) (1 : Int32) T221.heap n0 (Nat.le_trans Z0 K222.1) ) hZ (own_w hw 55 rfl) (own_w hw 54 rfl) (by decide) (by decide)) (g := (mkF m 265 #[.val (.long q1), .second, .val (.long q2), .second, .val (.long q3), .second, .val (.long q4), .second, .val (.long q5), .second, .val (.int p6), .val (.long k0), .second, .val (.long k1), .second, .val (.long k2), .second, .val (.long k3), .second, .val (.long k4), .second, .val (.int (1 : Int32)), .val (.ref b163), .val (.long k1), .second, .val (.int (0 : Int32)), .val (.int (-1 : Int32)), .val (.int (2 : Int32)), .val (.int (3 : Int32))] [(.int (1 : Int32)), (.int (0 : Int32)), (.int (0 : Int32))])) rfl (by rw [hml]; rfl) (argsL := [(.int (0 : Int32)), (.int (0 : Int32)), (.int (1 : Int32))]) (rest := []) (lenOf pd7 rfl) rfl (by show 2 * 0 + _ ≤ _; exact Nat.le_of_eq rfl) (hb hby at_265) (fun _ _ => ⟨rfl, q234_hh, (by decide : 3 + 0 ≤ _), (by decide : 35 + 0 ≤ _)⟩)
                        dsimp only [Pt.U, Pt.locs, Pt.cells, Pt.slots] at X237 l237 y237 z237 st237 hQ237
                        subst l237 y237 z237
                        obtain ⟨rfl, N237q, q237_hh⟩ := hQ237
                        have N237 := Fr.app N234 N237q
                        have c238 : ¬ ((own_okv (0 : Int32) (0 : Int32) (1 : Int32)) = (0 : Int32)) := by decide
                        have p239 : Go p.tables e below _ (T237.setTop (mkF m 276 #[.val (.long q1), .second, .val (.long q2), .second, .val (.long q3), .second, .val (.long q4), .second, .val (.long q5), .second, .val (.int p6), .val (.long k0), .second, .val (.long k1), .second, .val (.long k2), .second, .val (.long k3), .second, .val (.long k4), .second, .val (.int (1 : Int32)), .val (.ref b163), .val (.long k1), .second, .val (.int (0 : Int32)), .val (.int (-1 : Int32)), .val (.int (2 : Int32)), .val (.int (3 : Int32))] [(.int (1 : Int32)), (.int (1 : Int32)), (.int (-1 : Int32))])) := fun t_ k_ => (gc p236 st237) t_ (by
                          refine XS.ifNo X237.here hx rfl (hb hby at_268) rfl ((if0 _ _).trans (feq c238).1) ?_
                          refine XS.iload X237.here hx rfl (hb hby at_271) rfl ?_
                          refine XS.iconst X237.here hx rfl (hb hby at_273) ?_
                          refine XS.iload X237.here hx rfl (hb hby at_274) rfl ?_
                          exact k_)
                        obtain ⟨_, _, ⟨T240, L240, k240, n240⟩, -, X240, ⟨Lc240, hQ240, l240, y240, z240⟩, st240⟩ := Jvm.LawKit.callS X237 hx (y := (⟨"com/example/subsume/subsume/reasoner/PositionsRemovePinLaw", "ok", "(III)Z"⟩ : MethodName)) hown (mvT hZ (own_w hw 52 rfl)) (mvT hZ (own_w hw 53 rfl)) (mvT hZ (own_w hw 54 rfl)) (mvT hZ (own_w hw 55 rfl)) (by decide) (backOf (W := 0) (rm10 l Z a0 hw [] (-1 : Int32) (1 : Int32) (1 : Int32) T221.heap n0 (Nat.le_trans Z0 K222.1) ) hZ (own_w hw 55 rfl) (own_w hw 54 rfl) (by decide) (by decide)) (g := (mkF m 276 #[.val (.long q1), .second, .val (.long q2), .second, .val (.long q3), .second, .val (.long q4), .second, .val (.long q5), .second, .val (.int p6), .val (.long k0), .second, .val (.long k1), .second, .val (.long k2), .second, .val (.long k3), .second, .val (.long k4), .second, .val (.int (1 : Int32)), .val (.ref b163), .val (.long k1), .second, .val (.int (0 : Int32)), .val (.int (-1 : Int32)), .val (.int (2 : Int32)), .val (.int (3 : Int32))] [(.int (1 : Int32)), (.int (1 : Int32)), (.int (-1 : Int32))])) rfl (by rw [hml]; rfl) (argsL := [(.int (-1 : Int32)), (.int (1 : Int32)), (.int (1 : Int32))]) (rest := []) (lenOf pd7 rfl) rfl (by show 2 * 0 + _ ≤ _; exact Nat.le_of_eq rfl) (hb hby at_276) (fun _ _ => ⟨rfl, q237_hh, (by decide : 3 + 0 ≤ _), (by decide : 35 + 0 ≤ _)⟩)
                        dsimp only [Pt.U, Pt.locs, Pt.cells, Pt.slots] at X240 l240 y240 z240 st240 hQ240
                        subst l240 y240 z240
                        obtain ⟨rfl, N240q, q240_hh⟩ := hQ240
                        have N240 := Fr.app N237 N240q
                        have c241 : ¬ ((own_okv (-1 : Int32) (1 : Int32) (1 : Int32)) = (0 : Int32)) := by decide
                        have p242 : Go p.tables e below _ (T240.setTop (mkF m 287 #[.val (.long q1), .second, .val (.long q2), .second, .val (.long q3), .second, .val (.long q4), .second, .val (.long q5), .second, .val (.int p6), .val (.long k0), .second, .val (.long k1), .second, .val (.long k2), .second, .val (.long k3), .second, .val (.long k4), .second, .val (.int (1 : Int32)), .val (.ref b163), .val (.long k1), .second, .val (.int (0 : Int32)), .val (.int (-1 : Int32)), .val (.int (2 : Int32)), .val (.int (3 : Int32))] [(.int (1 : Int32)), (.int (2 : Int32)), (.int (2 : Int32))])) := fun t_ k_ => (gc p239 st240) t_ (by
                          refine XS.ifNo X240.here hx rfl (hb hby at_279) rfl ((if0 _ _).trans (feq c241).1) ?_
                          refine XS.iload X240.here hx rfl (hb hby at_282) rfl ?_
                          refine XS.iconst X240.here hx rfl (hb hby at_284) ?_
                          refine XS.iload X240.here hx rfl (hb hby at_285) rfl ?_
                          exact k_)
                        obtain ⟨_, _, ⟨T243, L243, k243, n243⟩, -, X243, ⟨Lc243, hQ243, l243, y243, z243⟩, st243⟩ := Jvm.LawKit.callS X240 hx (y := (⟨"com/example/subsume/subsume/reasoner/PositionsRemovePinLaw", "ok", "(III)Z"⟩ : MethodName)) hown (mvT hZ (own_w hw 52 rfl)) (mvT hZ (own_w hw 53 rfl)) (mvT hZ (own_w hw 54 rfl)) (mvT hZ (own_w hw 55 rfl)) (by decide) (backOf (W := 0) (rm10 l Z a0 hw [] (2 : Int32) (2 : Int32) (1 : Int32) T221.heap n0 (Nat.le_trans Z0 K222.1) ) hZ (own_w hw 55 rfl) (own_w hw 54 rfl) (by decide) (by decide)) (g := (mkF m 287 #[.val (.long q1), .second, .val (.long q2), .second, .val (.long q3), .second, .val (.long q4), .second, .val (.long q5), .second, .val (.int p6), .val (.long k0), .second, .val (.long k1), .second, .val (.long k2), .second, .val (.long k3), .second, .val (.long k4), .second, .val (.int (1 : Int32)), .val (.ref b163), .val (.long k1), .second, .val (.int (0 : Int32)), .val (.int (-1 : Int32)), .val (.int (2 : Int32)), .val (.int (3 : Int32))] [(.int (1 : Int32)), (.int (2 : Int32)), (.int (2 : Int32))])) rfl (by rw [hml]; rfl) (argsL := [(.int (2 : Int32)), (.int (2 : Int32)), (.int (1 : Int32))]) (rest := []) (lenOf pd7 rfl) rfl (by show 2 * 0 + _ ≤ _; exact Nat.le_of_eq rfl) (hb hby at_287) (fun _ _ => ⟨rfl, q240_hh, (by decide : 3 + 0 ≤ _), (by decide : 35 + 0 ≤ _)⟩)
                        dsimp only [Pt.U, Pt.locs, Pt.cells, Pt.slots] at X243 l243 y243 z243 st243 hQ243
                        subst l243 y243 z243
                        obtain ⟨rfl, N243q, q243_hh⟩ := hQ243
                        have N243 := Fr.app N240 N243q
                        have c244 : ¬ ((own_okv (2 : Int32) (2 : Int32) (1 : Int32)) = (0 : Int32)) := by decide
                        have p245 : Go p.tables e below _ (T243.setTop (mkF m 298 #[.val (.long q1), .second, .val (.long q2), .second, .val (.long q3), .second, .val (.long q4), .second, .val (.long q5), .second, .val (.int p6), .val (.long k0), .second, .val (.long k1), .second, .val (.long k2), .second, .val (.long k3), .second, .val (.long k4), .second, .val (.int (1 : Int32)), .val (.ref b163), .val (.long k1), .second, .val (.int (0 : Int32)), .val (.int (-1 : Int32)), .val (.int (2 : Int32)), .val (.int (3 : Int32))] [(.int (1 : Int32)), (.int (3 : Int32)), (.int (3 : Int32))])) := fun t_ k_ => (gc p242 st243) t_ (by
                          refine XS.ifNo X243.here hx rfl (hb hby at_290) rfl ((if0 _ _).trans (feq c244).1) ?_
                          refine XS.iload X243.here hx rfl (hb hby at_293) rfl ?_
                          refine XS.iconst X243.here hx rfl (hb hby at_295) ?_
                          refine XS.iload X243.here hx rfl (hb hby at_296) rfl ?_
                          exact k_)
                        obtain ⟨_, _, ⟨T246, L246, k246, n246⟩, -, X246, ⟨Lc246, hQ246, l246, y246, z246⟩, st246⟩ := Jvm.LawKit.callS X243 hx (y := (⟨"com/example/subsume/subsume/reasoner/PositionsRemovePinLaw", "ok", "(III)Z"⟩ : MethodName)) hown (mvT hZ (own_w hw 52 rfl)) (mvT hZ (own_w hw 53 rfl)) (mvT hZ (own_w hw 54 rfl)) (mvT hZ (own_w hw 55 rfl)) (by decide) (backOf (W := 0) (rm10 l Z a0 hw [] (3 : Int32) (3 : Int32) (1 : Int32) T221.heap n0 (Nat.le_trans Z0 K222.1) ) hZ (own_w hw 55 rfl) (own_w hw 54 rfl) (by decide) (by decide)) (g := (mkF m 298 #[.val (.long q1), .second, .val (.long q2), .second, .val (.long q3), .second, .val (.long q4), .second, .val (.long q5), .second, .val (.int p6), .val (.long k0), .second, .val (.long k1), .second, .val (.long k2), .second, .val (.long k3), .second, .val (.long k4), .second, .val (.int (1 : Int32)), .val (.ref b163), .val (.long k1), .second, .val (.int (0 : Int32)), .val (.int (-1 : Int32)), .val (.int (2 : Int32)), .val (.int (3 : Int32))] [(.int (1 : Int32)), (.int (3 : Int32)), (.int (3 : Int32))])) rfl (by rw [hml]; rfl) (argsL := [(.int (3 : Int32)), (.int (3 : Int32)), (.int (1 : Int32))]) (rest := []) (lenOf pd7 rfl) rfl (by show 2 * 0 + _ ≤ _; exact Nat.le_of_eq rfl) (hb hby at_298) (fun _ _ => ⟨rfl, q243_hh, (by decide : 3 + 0 ≤ _), (by decide : 35 + 0 ≤ _)⟩)
                        dsimp only [Pt.U, Pt.locs, Pt.cells, Pt.slots] at X246 l246 y246 z246 st246 hQ246
                        subst l246 y246 z246
                        obtain ⟨rfl, N246q, q246_hh⟩ := hQ246
                        have N246 := Fr.app N243 N246q
                        have c247 : ¬ ((own_okv (3 : Int32) (3 : Int32) (1 : Int32)) = (0 : Int32)) := by decide
                        have p248 : Go p.tables e below _ (T246.setTop (mkF m 309 #[.val (.long q1), .second, .val (.long q2), .second, .val (.long q3), .second, .val (.long q4), .second, .val (.long q5), .second, .val (.int p6), .val (.long k0), .second, .val (.long k1), .second, .val (.long k2), .second, .val (.long k3), .second, .val (.long k4), .second, .val (.int (1 : Int32)), .val (.ref b163), .val (.long k1), .second, .val (.int (0 : Int32)), .val (.int (-1 : Int32)), .val (.int (2 : Int32)), .val (.int (3 : Int32))] [(.int (1 : Int32))])) := fun t_ k_ => (gc p245 st246) t_ (by
                          refine XS.ifNo X246.here hx rfl (hb hby at_301) rfl ((if0 _ _).trans (feq c247).1) ?_
                          refine XS.iconst X246.here hx rfl (hb hby at_304) ?_
                          refine XS.goto X246.here hx rfl (pc0 := 305) (pc' := 309) rfl (hb hby at_305) (by decide) (by decide) ?_
                          exact k_)
                        obtain ⟨fs, hr, hrun, hended, hW, hsame⟩ := X246.leave (v := some (.int (1 : Int32))) (fun h => by rw [Bd.returns] at h; cases h)
                        refine ⟨_, _, p248 _ (retN X246 hx (t := .boolean) Bd.returns (by simp) (hb hby at_309) hr), hrun, hended, _, _, rfl, ?_, ⟨_, rfl⟩, hW, hsame.mono (by decide) (by decide)⟩
                        show Q0 Z q1 q2 q3 q4 q5 p6 h0 n0 _ T246.heap _
                        rw [q246_hh]
                        exact ⟨rfl, N246⟩
                      · have p249 : Go p.tables e below (s₁.setTop (entryFrame m #[(.long q1), (.long q2), (.long q3), (.long q4), (.long q5), (.int p6)] maxLocals)) (T186.setTop (mkF m 170 #[.val (.long q1), .second, .val (.long q2), .second, .val (.long q3), .second, .val (.long q4), .second, .val (.long q5), .second, .val (.int p6), .val (.long k0), .second, .val (.long k1), .second, .val (.long k2), .second, .val (.long k3), .second, .val (.long k4), .second, .val (.int (2 : Int32)), .val (.ref b163), .unset, .unset, .unset, .unset, .unset, .unset] [])) := by rw [← ro]; exact (gcT p185 st186)
                        obtain ⟨t, ht, hK, hP, hu⟩ := own_Tb.get own_home_lt TB188 n2' (p := (2 : Int32)) (by simp)
                        obtain ⟨n, hok, TR⟩ := own_Tb.remove own_home_lt TB188 (by simp) n2' hK
                        have p250 : Go p.tables e below _ (T186.setTop (mkF m 221 #[.val (.long q1), .second, .val (.long q2), .second, .val (.long q3), .second, .val (.long q4), .second, .val (.long q5), .second, .val (.int p6), .val (.long k0), .second, .val (.long k1), .second, .val (.long k2), .second, .val (.long k3), .second, .val (.long k4), .second, .val (.int (2 : Int32)), .val (.ref b163), .val (.long k2), .second, .unset, .unset, .unset, .unset] [(.long k2), (.ref b163)])) := fun t_ k_ => p249 t_ (by
                          refine XS.iload X186.here hx rfl (hb hby at_170) rfl ?_
                          refine XS.ifYes X186.here hx rfl (pc0 := 172) (pc' := 180) rfl (hb hby at_172) rfl ((if0 _ _).trans (feq (by decide : ¬ ((2 : Int32) = (0 : Int32)))).2) (by decide) (by decide) ?_
                          refine XS.iload X186.here hx rfl (hb hby at_180) rfl ?_
                          refine XS.iconst X186.here hx rfl (hb hby at_182) ?_
                          refine XS.icmpYes X186.here hx rfl (pc0 := 183) (pc' := 191) rfl (hb hby at_183) rfl (feq (by decide : ¬ ((2 : Int32) = (1 : Int32)))).2 (by decide) (by decide) ?_
                          refine XS.iload X186.here hx rfl (hb hby at_191) rfl ?_
                          refine XS.iconst X186.here hx rfl (hb hby at_193) ?_
                          refine XS.icmpNo X186.here hx rfl (hb hby at_194) rfl (teq (by decide : ((2 : Int32) = (2 : Int32)))).2 ?_
                          refine XS.lload X186.here hx rfl (hb hby at_197) rfl ?_
                          refine XS.goto X186.here hx rfl (pc0 := 199) (pc' := 215) rfl (hb hby at_199) (by decide) (by decide) ?_
                          refine XS.lstore X186.here hx rfl (hb hby at_215) rfl (l' := #[.val (.long q1), .second, .val (.long q2), .second, .val (.long q3), .second, .val (.long q4), .second, .val (.long q5), .second, .val (.int p6), .val (.long k0), .second, .val (.long k1), .second, .val (.long k2), .second, .val (.long k3), .second, .val (.long k4), .second, .val (.int (2 : Int32)), .val (.ref b163), .val (.long k2), .second, .unset, .unset, .unset, .unset]) rfl ?_
                          refine XS.aload X186.here hx rfl (hb hby at_217) rfl rfl ?_
                          refine XS.lload X186.here hx rfl (hb hby at_219) rfl ?_
                          exact k_)
                        obtain ⟨cq251, kq251, q251a, q251b, q251c⟩ := isOf hZ rfl q186_E
                        obtain ⟨_, _, ⟨T251, L251, k251, n251⟩, -, X251, ⟨Lc251, hQ251, l251, y251, z251⟩, st251⟩ := X186.virtualBack hx (y := (⟨"com/example/subsume/subsume/reasoner/Positions", "remove", "(J)V"⟩ : MethodName)) (z := (⟨"com/example/subsume/subsume/reasoner/Positions", "remove", "(J)V"⟩ : MethodName)) hown (mvT hZ (own_w hw 42 rfl)) (mvT hZ (own_w hw 43 rfl)) (notFace_of_selects (args := #[]) (mvT hZ (own_w hw 45 rfl))) (mvT hZ (own_w hw 45 rfl)) (mvT hZ (own_w hw 44 rfl)) (by decide) (backOf (W := 0) (rm8f l Z a0 hw [] b163 k2 (((((0 : Int32) + (1 : Int32)) + (1 : Int32)) + (1 : Int32)) + (1 : Int32)) x167 x168 ks188 x169 x170 ps188 t n T186.heap n0 (Nat.le_trans Z0 K187.1) q186_k q186_p q186_E vk188 vp188 q186_s ne_b163_x167 ne_b163_x169 q166_n3 ge_b163 q166_g2 q166_g3 TB188.1 TB188.2.1 hu hK hok) hZ (own_w hw 46 rfl) (own_w hw 4 rfl) (by decide) (by decide)) q251a q251c (g := (mkF m 221 #[.val (.long q1), .second, .val (.long q2), .second, .val (.long q3), .second, .val (.long q4), .second, .val (.long q5), .second, .val (.int p6), .val (.long k0), .second, .val (.long k1), .second, .val (.long k2), .second, .val (.long k3), .second, .val (.long k4), .second, .val (.int (2 : Int32)), .val (.ref b163), .val (.long k2), .second, .unset, .unset, .unset, .unset] [(.long k2), (.ref b163)])) rfl (by rw [hml]; rfl) (Steps.refl _) (argsL := [(.long k2)]) (rest := []) (lenOf pd6 rfl) rfl (by show 2 * 0 + _ ≤ _; exact Nat.le_of_eq rfl) (hb hby at_221) (fun _ _ => ⟨rfl, rfl, (by decide : 3 + 0 ≤ _), (by decide : 35 + 0 ≤ _)⟩)
                        dsimp only [Pt.U, Pt.locs, Pt.cells, Pt.slots] at X251 l251 y251 z251 st251 hQ251
                        subst l251 y251 z251
                        obtain ⟨rfl, N251q, q251_K, q251_k, q251_p, q251_E, q251_vk, q251_vp⟩ := hQ251
                        have N251 := Fr.app N186 N251q
                        have K252 : Keep h0 T251.heap [] := K187.trans q251_K (allS (Or.inr sz_b163) (allS (Or.inr (Nat.le_trans K164.1 q166_z2)) (allS (Or.inr (Nat.le_trans K164.1 q166_z3)) all0)))
                        obtain ⟨ks253, ps253, vk253, vp253, TB253⟩ : ∃ (ks : List Int64) (ps : List Int32), Arv Z T251.heap x167 x168 .long (16 : Int32) (ks.map Value.long) (.long (0 : Int64)) ∧ Arv Z T251.heap x169 x170 .int (16 : Int32) (ps.map Value.int) (.int (0 : Int32)) ∧ own_Tb own_home ks ps (([(k3, (3 : Int32)), (k2, (2 : Int32)), (k1, (1 : Int32)), (k0, (0 : Int32))] : List (Int64 × Int32)).filter fun z => z.1 ≠ k2) (((own_home k3 + t3) % 16) :: (((own_home k2 + t2) % 16) :: (((own_home k1 + t1) % 16) :: (((own_home k0 + t0) % 16) :: [])))) := ⟨_, _, q251_vk, q251_vp, TR⟩
                        obtain ⟨u0, hu0a, hK0, hP0, hu0b⟩ := own_Tb.get own_home_lt TB253 n0' (p := (0 : Int32)) (by simp [d01, (Ne.symm d01), d02, (Ne.symm d02), d03, (Ne.symm d03), d04, (Ne.symm d04), d12, (Ne.symm d12), d13, (Ne.symm d13), d14, (Ne.symm d14), d23, (Ne.symm d23), d24, (Ne.symm d24), d34, (Ne.symm d34)])
                        have gv0 : own_gv ks253 ps253 k0 u0 = (0 : Int32) := by simp [own_gv, hK0, hP0]
                        have p254 : Go p.tables e below _ (T251.setTop (mkF m 228 #[.val (.long q1), .second, .val (.long q2), .second, .val (.long q3), .second, .val (.long q4), .second, .val (.long q5), .second, .val (.int p6), .val (.long k0), .second, .val (.long k1), .second, .val (.long k2), .second, .val (.long k3), .second, .val (.long k4), .second, .val (.int (2 : Int32)), .val (.ref b163), .val (.long k2), .second, .unset, .unset, .unset, .unset] [(.long k0), (.ref b163)])) := fun t_ k_ => (gcT p250 st251) t_ (by
                          refine XS.aload X251.here hx rfl (hb hby at_224) rfl rfl ?_
                          refine XS.lload X251.here hx rfl (hb hby at_226) rfl ?_
                          exact k_)
                        obtain ⟨cq255, kq255, q255a, q255b, q255c⟩ := isOf hZ rfl q251_E
                        obtain ⟨_, _, ⟨T255, L255, k255, n255⟩, -, X255, ⟨Lc255, hQ255, l255, y255, z255⟩, st255⟩ := X251.virtualBack hx (y := (⟨"com/example/subsume/subsume/reasoner/Positions", "get", "(J)I"⟩ : MethodName)) (z := (⟨"com/example/subsume/subsume/reasoner/Positions", "get", "(J)I"⟩ : MethodName)) hown (mvT hZ (own_w hw 47 rfl)) (mvT hZ (own_w hw 48 rfl)) (notFace_of_selects (args := #[]) (mvT hZ (own_w hw 50 rfl))) (mvT hZ (own_w hw 50 rfl)) (mvT hZ (own_w hw 49 rfl)) (by decide) (backOf (W := 0) (rm9 l Z a0 hw [] b163 k0 x167 x168 ks253 x169 x170 ps253 u0 T251.heap n0 (Nat.le_trans Z0 K252.1) q251_k q251_p q251_E vk253 vp253 hu0b (Or.inl hK0)) hZ (own_w hw 51 rfl) (own_w hw 4 rfl) (by decide) (by decide)) q255a q255c (g := (mkF m 228 #[.val (.long q1), .second, .val (.long q2), .second, .val (.long q3), .second, .val (.long q4), .second, .val (.long q5), .second, .val (.int p6), .val (.long k0), .second, .val (.long k1), .second, .val (.long k2), .second, .val (.long k3), .second, .val (.long k4), .second, .val (.int (2 : Int32)), .val (.ref b163), .val (.long k2), .second, .unset, .unset, .unset, .unset] [(.long k0), (.ref b163)])) rfl (by rw [hml]; rfl) (Steps.refl _) (argsL := [(.long k0)]) (rest := []) (lenOf pd1 rfl) rfl (by show 2 * 0 + _ ≤ _; exact Nat.le_of_eq rfl) (hb hby at_228) (fun _ _ => ⟨rfl, rfl, (by decide : 3 + 0 ≤ _), (by decide : 35 + 0 ≤ _)⟩)
                        dsimp only [Pt.U, Pt.locs, Pt.cells, Pt.slots] at X255 l255 y255 z255 st255 hQ255
                        subst l255 y255 z255
                        obtain ⟨rfl, N255q, q255_hh⟩ := hQ255
                        have N255 := Fr.app N251 N255q
                        have p256 : Go p.tables e below (s₁.setTop (entryFrame m #[(.long q1), (.long q2), (.long q3), (.long q4), (.long q5), (.int p6)] maxLocals)) (T255.setTop (mkF m 231 #[.val (.long q1), .second, .val (.long q2), .second, .val (.long q3), .second, .val (.long q4), .second, .val (.long q5), .second, .val (.int p6), .val (.long k0), .second, .val (.long k1), .second, .val (.long k2), .second, .val (.long k3), .second, .val (.long k4), .second, .val (.int (2 : Int32)), .val (.ref b163), .val (.long k2), .second, .unset, .unset, .unset, .unset] [(.int (0 : Int32))])) := by have z := (gcT p254 st255); rw [gv0] at z; exact z
                        obtain ⟨u1, hu1a, hK1, hP1, hu1b⟩ := own_Tb.get own_home_lt TB253 n1' (p := (1 : Int32)) (by simp [d01, (Ne.symm d01), d02, (Ne.symm d02), d03, (Ne.symm d03), d04, (Ne.symm d04), d12, (Ne.symm d12), d13, (Ne.symm d13), d14, (Ne.symm d14), d23, (Ne.symm d23), d24, (Ne.symm d24), d34, (Ne.symm d34)])
                        have gv1 : own_gv ks253 ps253 k1 u1 = (1 : Int32) := by simp [own_gv, hK1, hP1]
                        have p257 : Go p.tables e below _ (T255.setTop (mkF m 237 #[.val (.long q1), .second, .val (.long q2), .second, .val (.long q3), .second, .val (.long q4), .second, .val (.long q5), .second, .val (.int p6), .val (.long k0), .second, .val (.long k1), .second, .val (.long k2), .second, .val (.long k3), .second, .val (.long k4), .second, .val (.int (2 : Int32)), .val (.ref b163), .val (.long k2), .second, .val (.int (0 : Int32)), .unset, .unset, .unset] [(.long k1), (.ref b163)])) := fun t_ k_ => p256 t_ (by
                          refine XS.istore X255.here hx rfl (hb hby at_231) rfl (l' := #[.val (.long q1), .second, .val (.long q2), .second, .val (.long q3), .second, .val (.long q4), .second, .val (.long q5), .second, .val (.int p6), .val (.long k0), .second, .val (.long k1), .second, .val (.long k2), .second, .val (.long k3), .second, .val (.long k4), .second, .val (.int (2 : Int32)), .val (.ref b163), .val (.long k2), .second, .val (.int (0 : Int32)), .unset, .unset, .unset]) rfl ?_
                          refine XS.aload X255.here hx rfl (hb hby at_233) rfl rfl ?_
                          refine XS.lload X255.here hx rfl (hb hby at_235) rfl ?_
                          exact k_)
                        obtain ⟨cq258, kq258, q258a, q258b, q258c⟩ := isOf hZ q255_hh q251_E
                        obtain ⟨_, _, ⟨T258, L258, k258, n258⟩, -, X258, ⟨Lc258, hQ258, l258, y258, z258⟩, st258⟩ := X255.virtualBack hx (y := (⟨"com/example/subsume/subsume/reasoner/Positions", "get", "(J)I"⟩ : MethodName)) (z := (⟨"com/example/subsume/subsume/reasoner/Positions", "get", "(J)I"⟩ : MethodName)) hown (mvT hZ (own_w hw 47 rfl)) (mvT hZ (own_w hw 48 rfl)) (notFace_of_selects (args := #[]) (mvT hZ (own_w hw 50 rfl))) (mvT hZ (own_w hw 50 rfl)) (mvT hZ (own_w hw 49 rfl)) (by decide) (backOf (W := 0) (rm9 l Z a0 hw [] b163 k1 x167 x168 ks253 x169 x170 ps253 u1 T251.heap n0 (Nat.le_trans Z0 K252.1) q251_k q251_p q251_E vk253 vp253 hu1b (Or.inl hK1)) hZ (own_w hw 51 rfl) (own_w hw 4 rfl) (by decide) (by decide)) q258a q258c (g := (mkF m 237 #[.val (.long q1), .second, .val (.long q2), .second, .val (.long q3), .second, .val (.long q4), .second, .val (.long q5), .second, .val (.int p6), .val (.long k0), .second, .val (.long k1), .second, .val (.long k2), .second, .val (.long k3), .second, .val (.long k4), .second, .val (.int (2 : Int32)), .val (.ref b163), .val (.long k2), .second, .val (.int (0 : Int32)), .unset, .unset, .unset] [(.long k1), (.ref b163)])) rfl (by rw [hml]; rfl) (Steps.refl _) (argsL := [(.long k1)]) (rest := []) (lenOf pd1 rfl) rfl (by show 2 * 0 + _ ≤ _; exact Nat.le_of_eq rfl) (hb hby at_237) (fun _ _ => ⟨rfl, q255_hh, (by decide : 3 + 0 ≤ _), (by decide : 35 + 0 ≤ _)⟩)
                        dsimp only [Pt.U, Pt.locs, Pt.cells, Pt.slots] at X258 l258 y258 z258 st258 hQ258
                        subst l258 y258 z258
                        obtain ⟨rfl, N258q, q258_hh⟩ := hQ258
                        have N258 := Fr.app N255 N258q
                        have p259 : Go p.tables e below (s₁.setTop (entryFrame m #[(.long q1), (.long q2), (.long q3), (.long q4), (.long q5), (.int p6)] maxLocals)) (T258.setTop (mkF m 240 #[.val (.long q1), .second, .val (.long q2), .second, .val (.long q3), .second, .val (.long q4), .second, .val (.long q5), .second, .val (.int p6), .val (.long k0), .second, .val (.long k1), .second, .val (.long k2), .second, .val (.long k3), .second, .val (.long k4), .second, .val (.int (2 : Int32)), .val (.ref b163), .val (.long k2), .second, .val (.int (0 : Int32)), .unset, .unset, .unset] [(.int (1 : Int32))])) := by have z := (gcT p257 st258); rw [gv1] at z; exact z
                        obtain ⟨u2, hu2a, hK2, hu2b⟩ := own_Tb.getn own_home_lt TB253 (by simp) n2' (by intro p; simp)
                        have gv2 : own_gv ks253 ps253 k2 u2 = (-1 : Int32) := by simp [own_gv, hK2, Ne.symm n2']
                        have p260 : Go p.tables e below _ (T258.setTop (mkF m 246 #[.val (.long q1), .second, .val (.long q2), .second, .val (.long q3), .second, .val (.long q4), .second, .val (.long q5), .second, .val (.int p6), .val (.long k0), .second, .val (.long k1), .second, .val (.long k2), .second, .val (.long k3), .second, .val (.long k4), .second, .val (.int (2 : Int32)), .val (.ref b163), .val (.long k2), .second, .val (.int (0 : Int32)), .val (.int (1 : Int32)), .unset, .unset] [(.long k2), (.ref b163)])) := fun t_ k_ => p259 t_ (by
                          refine XS.istore X258.here hx rfl (hb hby at_240) rfl (l' := #[.val (.long q1), .second, .val (.long q2), .second, .val (.long q3), .second, .val (.long q4), .second, .val (.long q5), .second, .val (.int p6), .val (.long k0), .second, .val (.long k1), .second, .val (.long k2), .second, .val (.long k3), .second, .val (.long k4), .second, .val (.int (2 : Int32)), .val (.ref b163), .val (.long k2), .second, .val (.int (0 : Int32)), .val (.int (1 : Int32)), .unset, .unset]) rfl ?_
                          refine XS.aload X258.here hx rfl (hb hby at_242) rfl rfl ?_
                          refine XS.lload X258.here hx rfl (hb hby at_244) rfl ?_
                          exact k_)
                        obtain ⟨cq261, kq261, q261a, q261b, q261c⟩ := isOf hZ q258_hh q251_E
                        obtain ⟨_, _, ⟨T261, L261, k261, n261⟩, -, X261, ⟨Lc261, hQ261, l261, y261, z261⟩, st261⟩ := X258.virtualBack hx (y := (⟨"com/example/subsume/subsume/reasoner/Positions", "get", "(J)I"⟩ : MethodName)) (z := (⟨"com/example/subsume/subsume/reasoner/Positions", "get", "(J)I"⟩ : MethodName)) hown (mvT hZ (own_w hw 47 rfl)) (mvT hZ (own_w hw 48 rfl)) (notFace_of_selects (args := #[]) (mvT hZ (own_w hw 50 rfl))) (mvT hZ (own_w hw 50 rfl)) (mvT hZ (own_w hw 49 rfl)) (by decide) (backOf (W := 0) (rm9 l Z a0 hw [] b163 k2 x167 x168 ks253 x169 x170 ps253 u2 T251.heap n0 (Nat.le_trans Z0 K252.1) q251_k q251_p q251_E vk253 vp253 hu2b (Or.inr hK2)) hZ (own_w hw 51 rfl) (own_w hw 4 rfl) (by decide) (by decide)) q261a q261c (g := (mkF m 246 #[.val (.long q1), .second, .val (.long q2), .second, .val (.long q3), .second, .val (.long q4), .second, .val (.long q5), .second, .val (.int p6), .val (.long k0), .second, .val (.long k1), .second, .val (.long k2), .second, .val (.long k3), .second, .val (.long k4), .second, .val (.int (2 : Int32)), .val (.ref b163), .val (.long k2), .second, .val (.int (0 : Int32)), .val (.int (1 : Int32)), .unset, .unset] [(.long k2), (.ref b163)])) rfl (by rw [hml]; rfl) (Steps.refl _) (argsL := [(.long k2)]) (rest := []) (lenOf pd1 rfl) rfl (by show 2 * 0 + _ ≤ _; exact Nat.le_of_eq rfl) (hb hby at_246) (fun _ _ => ⟨rfl, q258_hh, (by decide : 3 + 0 ≤ _), (by decide : 35 + 0 ≤ _)⟩)
                        dsimp only [Pt.U, Pt.locs, Pt.cells, Pt.slots] at X261 l261 y261 z261 st261 hQ261
                        subst l261 y261 z261
                        obtain ⟨rfl, N261q, q261_hh⟩ := hQ261
                        have N261 := Fr.app N258 N261q
                        have p262 : Go p.tables e below (s₁.setTop (entryFrame m #[(.long q1), (.long q2), (.long q3), (.long q4), (.long q5), (.int p6)] maxLocals)) (T261.setTop (mkF m 249 #[.val (.long q1), .second, .val (.long q2), .second, .val (.long q3), .second, .val (.long q4), .second, .val (.long q5), .second, .val (.int p6), .val (.long k0), .second, .val (.long k1), .second, .val (.long k2), .second, .val (.long k3), .second, .val (.long k4), .second, .val (.int (2 : Int32)), .val (.ref b163), .val (.long k2), .second, .val (.int (0 : Int32)), .val (.int (1 : Int32)), .unset, .unset] [(.int (-1 : Int32))])) := by have z := (gcT p260 st261); rw [gv2] at z; exact z
                        obtain ⟨u3, hu3a, hK3, hP3, hu3b⟩ := own_Tb.get own_home_lt TB253 n3' (p := (3 : Int32)) (by simp [d01, (Ne.symm d01), d02, (Ne.symm d02), d03, (Ne.symm d03), d04, (Ne.symm d04), d12, (Ne.symm d12), d13, (Ne.symm d13), d14, (Ne.symm d14), d23, (Ne.symm d23), d24, (Ne.symm d24), d34, (Ne.symm d34)])
                        have gv3 : own_gv ks253 ps253 k3 u3 = (3 : Int32) := by simp [own_gv, hK3, hP3]
                        have p263 : Go p.tables e below _ (T261.setTop (mkF m 255 #[.val (.long q1), .second, .val (.long q2), .second, .val (.long q3), .second, .val (.long q4), .second, .val (.long q5), .second, .val (.int p6), .val (.long k0), .second, .val (.long k1), .second, .val (.long k2), .second, .val (.long k3), .second, .val (.long k4), .second, .val (.int (2 : Int32)), .val (.ref b163), .val (.long k2), .second, .val (.int (0 : Int32)), .val (.int (1 : Int32)), .val (.int (-1 : Int32)), .unset] [(.long k3), (.ref b163)])) := fun t_ k_ => p262 t_ (by
                          refine XS.istore X261.here hx rfl (hb hby at_249) rfl (l' := #[.val (.long q1), .second, .val (.long q2), .second, .val (.long q3), .second, .val (.long q4), .second, .val (.long q5), .second, .val (.int p6), .val (.long k0), .second, .val (.long k1), .second, .val (.long k2), .second, .val (.long k3), .second, .val (.long k4), .second, .val (.int (2 : Int32)), .val (.ref b163), .val (.long k2), .second, .val (.int (0 : Int32)), .val (.int (1 : Int32)), .val (.int (-1 : Int32)), .unset]) rfl ?_
                          refine XS.aload X261.here hx rfl (hb hby at_251) rfl rfl ?_
                          refine XS.lload X261.here hx rfl (hb hby at_253) rfl ?_
                          exact k_)
                        obtain ⟨cq264, kq264, q264a, q264b, q264c⟩ := isOf hZ q261_hh q251_E
                        obtain ⟨_, _, ⟨T264, L264, k264, n264⟩, -, X264, ⟨Lc264, hQ264, l264, y264, z264⟩, st264⟩ := X261.virtualBack hx (y := (⟨"com/example/subsume/subsume/reasoner/Positions", "get", "(J)I"⟩ : MethodName)) (z := (⟨"com/example/subsume/subsume/reasoner/Positions", "get", "(J)I"⟩ : MethodName)) hown (mvT hZ (own_w hw 47 rfl)) (mvT hZ (own_w hw 48 rfl)) (notFace_of_selects (args := #[]) (mvT hZ (own_w hw 50 rfl))) (mvT hZ (own_w hw 50 rfl)) (mvT hZ (own_w hw 49 rfl)) (by decide) (backOf (W := 0) (rm9 l Z a0 hw [] b163 k3 x167 x168 ks253 x169 x170 ps253 u3 T251.heap n0 (Nat.le_trans Z0 K252.1) q251_k q251_p q251_E vk253 vp253 hu3b (Or.inl hK3)) hZ (own_w hw 51 rfl) (own_w hw 4 rfl) (by decide) (by decide)) q264a q264c (g := (mkF m 255 #[.val (.long q1), .second, .val (.long q2), .second, .val (.long q3), .second, .val (.long q4), .second, .val (.long q5), .second, .val (.int p6), .val (.long k0), .second, .val (.long k1), .second, .val (.long k2), .second, .val (.long k3), .second, .val (.long k4), .second, .val (.int (2 : Int32)), .val (.ref b163), .val (.long k2), .second, .val (.int (0 : Int32)), .val (.int (1 : Int32)), .val (.int (-1 : Int32)), .unset] [(.long k3), (.ref b163)])) rfl (by rw [hml]; rfl) (Steps.refl _) (argsL := [(.long k3)]) (rest := []) (lenOf pd1 rfl) rfl (by show 2 * 0 + _ ≤ _; exact Nat.le_of_eq rfl) (hb hby at_255) (fun _ _ => ⟨rfl, q261_hh, (by decide : 3 + 0 ≤ _), (by decide : 35 + 0 ≤ _)⟩)
                        dsimp only [Pt.U, Pt.locs, Pt.cells, Pt.slots] at X264 l264 y264 z264 st264 hQ264
                        subst l264 y264 z264
                        obtain ⟨rfl, N264q, q264_hh⟩ := hQ264
                        have N264 := Fr.app N261 N264q
                        have p265 : Go p.tables e below (s₁.setTop (entryFrame m #[(.long q1), (.long q2), (.long q3), (.long q4), (.long q5), (.int p6)] maxLocals)) (T264.setTop (mkF m 258 #[.val (.long q1), .second, .val (.long q2), .second, .val (.long q3), .second, .val (.long q4), .second, .val (.long q5), .second, .val (.int p6), .val (.long k0), .second, .val (.long k1), .second, .val (.long k2), .second, .val (.long k3), .second, .val (.long k4), .second, .val (.int (2 : Int32)), .val (.ref b163), .val (.long k2), .second, .val (.int (0 : Int32)), .val (.int (1 : Int32)), .val (.int (-1 : Int32)), .unset] [(.int (3 : Int32))])) := by have z := (gcT p263 st264); rw [gv3] at z; exact z
                        have p266 : Go p.tables e below _ (T264.setTop (mkF m 265 #[.val (.long q1), .second, .val (.long q2), .second, .val (.long q3), .second, .val (.long q4), .second, .val (.long q5), .second, .val (.int p6), .val (.long k0), .second, .val (.long k1), .second, .val (.long k2), .second, .val (.long k3), .second, .val (.long k4), .second, .val (.int (2 : Int32)), .val (.ref b163), .val (.long k2), .second, .val (.int (0 : Int32)), .val (.int (1 : Int32)), .val (.int (-1 : Int32)), .val (.int (3 : Int32))] [(.int (2 : Int32)), (.int (0 : Int32)), (.int (0 : Int32))])) := fun t_ k_ => p265 t_ (by
                          refine XS.istore X264.here hx rfl (hb hby at_258) rfl (l' := #[.val (.long q1), .second, .val (.long q2), .second, .val (.long q3), .second, .val (.long q4), .second, .val (.long q5), .second, .val (.int p6), .val (.long k0), .second, .val (.long k1), .second, .val (.long k2), .second, .val (.long k3), .second, .val (.long k4), .second, .val (.int (2 : Int32)), .val (.ref b163), .val (.long k2), .second, .val (.int (0 : Int32)), .val (.int (1 : Int32)), .val (.int (-1 : Int32)), .val (.int (3 : Int32))]) rfl ?_
                          refine XS.iload X264.here hx rfl (hb hby at_260) rfl ?_
                          refine XS.iconst X264.here hx rfl (hb hby at_262) ?_
                          refine XS.iload X264.here hx rfl (hb hby at_263) rfl ?_
                          exact k_)
                        obtain ⟨_, _, ⟨T267, L267, k267, n267⟩, -, X267, ⟨Lc267, hQ267, l267, y267, z267⟩, st267⟩ := Jvm.LawKit.callS X264 hx (y := (⟨"com/example/subsume/subsume/reasoner/PositionsRemovePinLaw", "ok", "(III)Z"⟩ : MethodName)) hown (mvT hZ (own_w hw 52 rfl)) (mvT hZ (own_w hw 53 rfl)) (mvT hZ (own_w hw 54 rfl)) (mvT hZ (own_w hw 55 rfl)) (by decide) (backOf (W := 0) (rm10 l Z a0 hw [] (0 : Int32) (0 : Int32) (2 : Int32) T251.heap n0 (Nat.le_trans Z0 K252.1) ) hZ (own_w hw 55 rfl) (own_w hw 54 rfl) (by decide) (by decide)) (g := (mkF m 265 #[.val (.long q1), .second, .val (.long q2), .second, .val (.long q3), .second, .val (.long q4), .second, .val (.long q5), .second, .val (.int p6), .val (.long k0), .second, .val (.long k1), .second, .val (.long k2), .second, .val (.long k3), .second, .val (.long k4), .second, .val (.int (2 : Int32)), .val (.ref b163), .val (.long k2), .second, .val (.int (0 : Int32)), .val (.int (1 : Int32)), .val (.int (-1 : Int32)), .val (.int (3 : Int32))] [(.int (2 : Int32)), (.int (0 : Int32)), (.int (0 : Int32))])) rfl (by rw [hml]; rfl) (argsL := [(.int (0 : Int32)), (.int (0 : Int32)), (.int (2 : Int32))]) (rest := []) (lenOf pd7 rfl) rfl (by show 2 * 0 + _ ≤ _; exact Nat.le_of_eq rfl) (hb hby at_265) (fun _ _ => ⟨rfl, q264_hh, (by decide : 3 + 0 ≤ _), (by decide : 35 + 0 ≤ _)⟩)
                        dsimp only [Pt.U, Pt.locs, Pt.cells, Pt.slots] at X267 l267 y267 z267 st267 hQ267
                        subst l267 y267 z267
                        obtain ⟨rfl, N267q, q267_hh⟩ := hQ267
                        have N267 := Fr.app N264 N267q
                        have c268 : ¬ ((own_okv (0 : Int32) (0 : Int32) (2 : Int32)) = (0 : Int32)) := by decide
                        have p269 : Go p.tables e below _ (T267.setTop (mkF m 276 #[.val (.long q1), .second, .val (.long q2), .second, .val (.long q3), .second, .val (.long q4), .second, .val (.long q5), .second, .val (.int p6), .val (.long k0), .second, .val (.long k1), .second, .val (.long k2), .second, .val (.long k3), .second, .val (.long k4), .second, .val (.int (2 : Int32)), .val (.ref b163), .val (.long k2), .second, .val (.int (0 : Int32)), .val (.int (1 : Int32)), .val (.int (-1 : Int32)), .val (.int (3 : Int32))] [(.int (2 : Int32)), (.int (1 : Int32)), (.int (1 : Int32))])) := fun t_ k_ => (gc p266 st267) t_ (by
                          refine XS.ifNo X267.here hx rfl (hb hby at_268) rfl ((if0 _ _).trans (feq c268).1) ?_
                          refine XS.iload X267.here hx rfl (hb hby at_271) rfl ?_
                          refine XS.iconst X267.here hx rfl (hb hby at_273) ?_
                          refine XS.iload X267.here hx rfl (hb hby at_274) rfl ?_
                          exact k_)
                        obtain ⟨_, _, ⟨T270, L270, k270, n270⟩, -, X270, ⟨Lc270, hQ270, l270, y270, z270⟩, st270⟩ := Jvm.LawKit.callS X267 hx (y := (⟨"com/example/subsume/subsume/reasoner/PositionsRemovePinLaw", "ok", "(III)Z"⟩ : MethodName)) hown (mvT hZ (own_w hw 52 rfl)) (mvT hZ (own_w hw 53 rfl)) (mvT hZ (own_w hw 54 rfl)) (mvT hZ (own_w hw 55 rfl)) (by decide) (backOf (W := 0) (rm10 l Z a0 hw [] (1 : Int32) (1 : Int32) (2 : Int32) T251.heap n0 (Nat.le_trans Z0 K252.1) ) hZ (own_w hw 55 rfl) (own_w hw 54 rfl) (by decide) (by decide)) (g := (mkF m 276 #[.val (.long q1), .second, .val (.long q2), .second, .val (.long q3), .second, .val (.long q4), .second, .val (.long q5), .second, .val (.int p6), .val (.long k0), .second, .val (.long k1), .second, .val (.long k2), .second, .val (.long k3), .second, .val (.long k4), .second, .val (.int (2 : Int32)), .val (.ref b163), .val (.long k2), .second, .val (.int (0 : Int32)), .val (.int (1 : Int32)), .val (.int (-1 : Int32)), .val (.int (3 : Int32))] [(.int (2 : Int32)), (.int (1 : Int32)), (.int (1 : Int32))])) rfl (by rw [hml]; rfl) (argsL := [(.int (1 : Int32)), (.int (1 : Int32)), (.int (2 : Int32))]) (rest := []) (lenOf pd7 rfl) rfl (by show 2 * 0 + _ ≤ _; exact Nat.le_of_eq rfl) (hb hby at_276) (fun _ _ => ⟨rfl, q267_hh, (by decide : 3 + 0 ≤ _), (by decide : 35 + 0 ≤ _)⟩)
                        dsimp only [Pt.U, Pt.locs, Pt.cells, Pt.slots] at X270 l270 y270 z270 st270 hQ270
                        subst l270 y270 z270
                        obtain ⟨rfl, N270q, q270_hh⟩ := hQ270
                        have N270 := Fr.app N267 N270q
                        have c271 : ¬ ((own_okv (1 : Int32) (1 : Int32) (2 : Int32)) = (0 : Int32)) := by decide
                        have p272 : Go p.tables e below _ (T270.setTop (mkF m 287 #[.val (.long q1), .second, .val (.long q2), .second, .val (.long q3), .second, .val (.long q4), .second, .val (.long q5), .second, .val (.int p6), .val (.long k0), .second, .val (.long k1), .second, .val (.long k2), .second, .val (.long k3), .second, .val (.long k4), .second, .val (.int (2 : Int32)), .val (.ref b163), .val (.long k2), .second, .val (.int (0 : Int32)), .val (.int (1 : Int32)), .val (.int (-1 : Int32)), .val (.int (3 : Int32))] [(.int (2 : Int32)), (.int (2 : Int32)), (.int (-1 : Int32))])) := fun t_ k_ => (gc p269 st270) t_ (by
                          refine XS.ifNo X270.here hx rfl (hb hby at_279) rfl ((if0 _ _).trans (feq c271).1) ?_
                          refine XS.iload X270.here hx rfl (hb hby at_282) rfl ?_
                          refine XS.iconst X270.here hx rfl (hb hby at_284) ?_
                          refine XS.iload X270.here hx rfl (hb hby at_285) rfl ?_
                          exact k_)
                        obtain ⟨_, _, ⟨T273, L273, k273, n273⟩, -, X273, ⟨Lc273, hQ273, l273, y273, z273⟩, st273⟩ := Jvm.LawKit.callS X270 hx (y := (⟨"com/example/subsume/subsume/reasoner/PositionsRemovePinLaw", "ok", "(III)Z"⟩ : MethodName)) hown (mvT hZ (own_w hw 52 rfl)) (mvT hZ (own_w hw 53 rfl)) (mvT hZ (own_w hw 54 rfl)) (mvT hZ (own_w hw 55 rfl)) (by decide) (backOf (W := 0) (rm10 l Z a0 hw [] (-1 : Int32) (2 : Int32) (2 : Int32) T251.heap n0 (Nat.le_trans Z0 K252.1) ) hZ (own_w hw 55 rfl) (own_w hw 54 rfl) (by decide) (by decide)) (g := (mkF m 287 #[.val (.long q1), .second, .val (.long q2), .second, .val (.long q3), .second, .val (.long q4), .second, .val (.long q5), .second, .val (.int p6), .val (.long k0), .second, .val (.long k1), .second, .val (.long k2), .second, .val (.long k3), .second, .val (.long k4), .second, .val (.int (2 : Int32)), .val (.ref b163), .val (.long k2), .second, .val (.int (0 : Int32)), .val (.int (1 : Int32)), .val (.int (-1 : Int32)), .val (.int (3 : Int32))] [(.int (2 : Int32)), (.int (2 : Int32)), (.int (-1 : Int32))])) rfl (by rw [hml]; rfl) (argsL := [(.int (-1 : Int32)), (.int (2 : Int32)), (.int (2 : Int32))]) (rest := []) (lenOf pd7 rfl) rfl (by show 2 * 0 + _ ≤ _; exact Nat.le_of_eq rfl) (hb hby at_287) (fun _ _ => ⟨rfl, q270_hh, (by decide : 3 + 0 ≤ _), (by decide : 35 + 0 ≤ _)⟩)
                        dsimp only [Pt.U, Pt.locs, Pt.cells, Pt.slots] at X273 l273 y273 z273 st273 hQ273
                        subst l273 y273 z273
                        obtain ⟨rfl, N273q, q273_hh⟩ := hQ273
                        have N273 := Fr.app N270 N273q
                        have c274 : ¬ ((own_okv (-1 : Int32) (2 : Int32) (2 : Int32)) = (0 : Int32)) := by decide
                        have p275 : Go p.tables e below _ (T273.setTop (mkF m 298 #[.val (.long q1), .second, .val (.long q2), .second, .val (.long q3), .second, .val (.long q4), .second, .val (.long q5), .second, .val (.int p6), .val (.long k0), .second, .val (.long k1), .second, .val (.long k2), .second, .val (.long k3), .second, .val (.long k4), .second, .val (.int (2 : Int32)), .val (.ref b163), .val (.long k2), .second, .val (.int (0 : Int32)), .val (.int (1 : Int32)), .val (.int (-1 : Int32)), .val (.int (3 : Int32))] [(.int (2 : Int32)), (.int (3 : Int32)), (.int (3 : Int32))])) := fun t_ k_ => (gc p272 st273) t_ (by
                          refine XS.ifNo X273.here hx rfl (hb hby at_290) rfl ((if0 _ _).trans (feq c274).1) ?_
                          refine XS.iload X273.here hx rfl (hb hby at_293) rfl ?_
                          refine XS.iconst X273.here hx rfl (hb hby at_295) ?_
                          refine XS.iload X273.here hx rfl (hb hby at_296) rfl ?_
                          exact k_)
                        obtain ⟨_, _, ⟨T276, L276, k276, n276⟩, -, X276, ⟨Lc276, hQ276, l276, y276, z276⟩, st276⟩ := Jvm.LawKit.callS X273 hx (y := (⟨"com/example/subsume/subsume/reasoner/PositionsRemovePinLaw", "ok", "(III)Z"⟩ : MethodName)) hown (mvT hZ (own_w hw 52 rfl)) (mvT hZ (own_w hw 53 rfl)) (mvT hZ (own_w hw 54 rfl)) (mvT hZ (own_w hw 55 rfl)) (by decide) (backOf (W := 0) (rm10 l Z a0 hw [] (3 : Int32) (3 : Int32) (2 : Int32) T251.heap n0 (Nat.le_trans Z0 K252.1) ) hZ (own_w hw 55 rfl) (own_w hw 54 rfl) (by decide) (by decide)) (g := (mkF m 298 #[.val (.long q1), .second, .val (.long q2), .second, .val (.long q3), .second, .val (.long q4), .second, .val (.long q5), .second, .val (.int p6), .val (.long k0), .second, .val (.long k1), .second, .val (.long k2), .second, .val (.long k3), .second, .val (.long k4), .second, .val (.int (2 : Int32)), .val (.ref b163), .val (.long k2), .second, .val (.int (0 : Int32)), .val (.int (1 : Int32)), .val (.int (-1 : Int32)), .val (.int (3 : Int32))] [(.int (2 : Int32)), (.int (3 : Int32)), (.int (3 : Int32))])) rfl (by rw [hml]; rfl) (argsL := [(.int (3 : Int32)), (.int (3 : Int32)), (.int (2 : Int32))]) (rest := []) (lenOf pd7 rfl) rfl (by show 2 * 0 + _ ≤ _; exact Nat.le_of_eq rfl) (hb hby at_298) (fun _ _ => ⟨rfl, q273_hh, (by decide : 3 + 0 ≤ _), (by decide : 35 + 0 ≤ _)⟩)
                        dsimp only [Pt.U, Pt.locs, Pt.cells, Pt.slots] at X276 l276 y276 z276 st276 hQ276
                        subst l276 y276 z276
                        obtain ⟨rfl, N276q, q276_hh⟩ := hQ276
                        have N276 := Fr.app N273 N276q
                        have c277 : ¬ ((own_okv (3 : Int32) (3 : Int32) (2 : Int32)) = (0 : Int32)) := by decide
                        have p278 : Go p.tables e below _ (T276.setTop (mkF m 309 #[.val (.long q1), .second, .val (.long q2), .second, .val (.long q3), .second, .val (.long q4), .second, .val (.long q5), .second, .val (.int p6), .val (.long k0), .second, .val (.long k1), .second, .val (.long k2), .second, .val (.long k3), .second, .val (.long k4), .second, .val (.int (2 : Int32)), .val (.ref b163), .val (.long k2), .second, .val (.int (0 : Int32)), .val (.int (1 : Int32)), .val (.int (-1 : Int32)), .val (.int (3 : Int32))] [(.int (1 : Int32))])) := fun t_ k_ => (gc p275 st276) t_ (by
                          refine XS.ifNo X276.here hx rfl (hb hby at_301) rfl ((if0 _ _).trans (feq c277).1) ?_
                          refine XS.iconst X276.here hx rfl (hb hby at_304) ?_
                          refine XS.goto X276.here hx rfl (pc0 := 305) (pc' := 309) rfl (hb hby at_305) (by decide) (by decide) ?_
                          exact k_)
                        obtain ⟨fs, hr, hrun, hended, hW, hsame⟩ := X276.leave (v := some (.int (1 : Int32))) (fun h => by rw [Bd.returns] at h; cases h)
                        refine ⟨_, _, p278 _ (retN X276 hx (t := .boolean) Bd.returns (by simp) (hb hby at_309) hr), hrun, hended, _, _, rfl, ?_, ⟨_, rfl⟩, hW, hsame.mono (by decide) (by decide)⟩
                        show Q0 Z q1 q2 q3 q4 q5 p6 h0 n0 _ T276.heap _
                        rw [q276_hh]
                        exact ⟨rfl, N276⟩
                      · have p279 : Go p.tables e below (s₁.setTop (entryFrame m #[(.long q1), (.long q2), (.long q3), (.long q4), (.long q5), (.int p6)] maxLocals)) (T186.setTop (mkF m 170 #[.val (.long q1), .second, .val (.long q2), .second, .val (.long q3), .second, .val (.long q4), .second, .val (.long q5), .second, .val (.int p6), .val (.long k0), .second, .val (.long k1), .second, .val (.long k2), .second, .val (.long k3), .second, .val (.long k4), .second, .val (.int (3 : Int32)), .val (.ref b163), .unset, .unset, .unset, .unset, .unset, .unset] [])) := by rw [← ro]; exact (gcT p185 st186)
                        obtain ⟨t, ht, hK, hP, hu⟩ := own_Tb.get own_home_lt TB188 n3' (p := (3 : Int32)) (by simp)
                        obtain ⟨n, hok, TR⟩ := own_Tb.remove own_home_lt TB188 (by simp) n3' hK
                        have p280 : Go p.tables e below _ (T186.setTop (mkF m 221 #[.val (.long q1), .second, .val (.long q2), .second, .val (.long q3), .second, .val (.long q4), .second, .val (.long q5), .second, .val (.int p6), .val (.long k0), .second, .val (.long k1), .second, .val (.long k2), .second, .val (.long k3), .second, .val (.long k4), .second, .val (.int (3 : Int32)), .val (.ref b163), .val (.long k3), .second, .unset, .unset, .unset, .unset] [(.long k3), (.ref b163)])) := fun t_ k_ => p279 t_ (by
                          refine XS.iload X186.here hx rfl (hb hby at_170) rfl ?_
                          refine XS.ifYes X186.here hx rfl (pc0 := 172) (pc' := 180) rfl (hb hby at_172) rfl ((if0 _ _).trans (feq (by decide : ¬ ((3 : Int32) = (0 : Int32)))).2) (by decide) (by decide) ?_
                          refine XS.iload X186.here hx rfl (hb hby at_180) rfl ?_
                          refine XS.iconst X186.here hx rfl (hb hby at_182) ?_
                          refine XS.icmpYes X186.here hx rfl (pc0 := 183) (pc' := 191) rfl (hb hby at_183) rfl (feq (by decide : ¬ ((3 : Int32) = (1 : Int32)))).2 (by decide) (by decide) ?_
                          refine XS.iload X186.here hx rfl (hb hby at_191) rfl ?_
                          refine XS.iconst X186.here hx rfl (hb hby at_193) ?_
                          refine XS.icmpYes X186.here hx rfl (pc0 := 194) (pc' := 202) rfl (hb hby at_194) rfl (feq (by decide : ¬ ((3 : Int32) = (2 : Int32)))).2 (by decide) (by decide) ?_
                          refine XS.iload X186.here hx rfl (hb hby at_202) rfl ?_
                          refine XS.iconst X186.here hx rfl (hb hby at_204) ?_
                          refine XS.icmpNo X186.here hx rfl (hb hby at_205) rfl (teq (by decide : ((3 : Int32) = (3 : Int32)))).2 ?_
                          refine XS.lload X186.here hx rfl (hb hby at_208) rfl ?_
                          refine XS.goto X186.here hx rfl (pc0 := 210) (pc' := 215) rfl (hb hby at_210) (by decide) (by decide) ?_
                          refine XS.lstore X186.here hx rfl (hb hby at_215) rfl (l' := #[.val (.long q1), .second, .val (.long q2), .second, .val (.long q3), .second, .val (.long q4), .second, .val (.long q5), .second, .val (.int p6), .val (.long k0), .second, .val (.long k1), .second, .val (.long k2), .second, .val (.long k3), .second, .val (.long k4), .second, .val (.int (3 : Int32)), .val (.ref b163), .val (.long k3), .second, .unset, .unset, .unset, .unset]) rfl ?_
                          refine XS.aload X186.here hx rfl (hb hby at_217) rfl rfl ?_
                          refine XS.lload X186.here hx rfl (hb hby at_219) rfl ?_
                          exact k_)
                        obtain ⟨cq281, kq281, q281a, q281b, q281c⟩ := isOf hZ rfl q186_E
                        obtain ⟨_, _, ⟨T281, L281, k281, n281⟩, -, X281, ⟨Lc281, hQ281, l281, y281, z281⟩, st281⟩ := X186.virtualBack hx (y := (⟨"com/example/subsume/subsume/reasoner/Positions", "remove", "(J)V"⟩ : MethodName)) (z := (⟨"com/example/subsume/subsume/reasoner/Positions", "remove", "(J)V"⟩ : MethodName)) hown (mvT hZ (own_w hw 42 rfl)) (mvT hZ (own_w hw 43 rfl)) (notFace_of_selects (args := #[]) (mvT hZ (own_w hw 45 rfl))) (mvT hZ (own_w hw 45 rfl)) (mvT hZ (own_w hw 44 rfl)) (by decide) (backOf (W := 0) (rm8f l Z a0 hw [] b163 k3 (((((0 : Int32) + (1 : Int32)) + (1 : Int32)) + (1 : Int32)) + (1 : Int32)) x167 x168 ks188 x169 x170 ps188 t n T186.heap n0 (Nat.le_trans Z0 K187.1) q186_k q186_p q186_E vk188 vp188 q186_s ne_b163_x167 ne_b163_x169 q166_n3 ge_b163 q166_g2 q166_g3 TB188.1 TB188.2.1 hu hK hok) hZ (own_w hw 46 rfl) (own_w hw 4 rfl) (by decide) (by decide)) q281a q281c (g := (mkF m 221 #[.val (.long q1), .second, .val (.long q2), .second, .val (.long q3), .second, .val (.long q4), .second, .val (.long q5), .second, .val (.int p6), .val (.long k0), .second, .val (.long k1), .second, .val (.long k2), .second, .val (.long k3), .second, .val (.long k4), .second, .val (.int (3 : Int32)), .val (.ref b163), .val (.long k3), .second, .unset, .unset, .unset, .unset] [(.long k3), (.ref b163)])) rfl (by rw [hml]; rfl) (Steps.refl _) (argsL := [(.long k3)]) (rest := []) (lenOf pd6 rfl) rfl (by show 2 * 0 + _ ≤ _; exact Nat.le_of_eq rfl) (hb hby at_221) (fun _ _ => ⟨rfl, rfl, (by decide : 3 + 0 ≤ _), (by decide : 35 + 0 ≤ _)⟩)
                        dsimp only [Pt.U, Pt.locs, Pt.cells, Pt.slots] at X281 l281 y281 z281 st281 hQ281
                        subst l281 y281 z281
                        obtain ⟨rfl, N281q, q281_K, q281_k, q281_p, q281_E, q281_vk, q281_vp⟩ := hQ281
                        have N281 := Fr.app N186 N281q
                        have K282 : Keep h0 T281.heap [] := K187.trans q281_K (allS (Or.inr sz_b163) (allS (Or.inr (Nat.le_trans K164.1 q166_z2)) (allS (Or.inr (Nat.le_trans K164.1 q166_z3)) all0)))
                        obtain ⟨ks283, ps283, vk283, vp283, TB283⟩ : ∃ (ks : List Int64) (ps : List Int32), Arv Z T281.heap x167 x168 .long (16 : Int32) (ks.map Value.long) (.long (0 : Int64)) ∧ Arv Z T281.heap x169 x170 .int (16 : Int32) (ps.map Value.int) (.int (0 : Int32)) ∧ own_Tb own_home ks ps (([(k3, (3 : Int32)), (k2, (2 : Int32)), (k1, (1 : Int32)), (k0, (0 : Int32))] : List (Int64 × Int32)).filter fun z => z.1 ≠ k3) (((own_home k3 + t3) % 16) :: (((own_home k2 + t2) % 16) :: (((own_home k1 + t1) % 16) :: (((own_home k0 + t0) % 16) :: [])))) := ⟨_, _, q281_vk, q281_vp, TR⟩
                        obtain ⟨u0, hu0a, hK0, hP0, hu0b⟩ := own_Tb.get own_home_lt TB283 n0' (p := (0 : Int32)) (by simp [d01, (Ne.symm d01), d02, (Ne.symm d02), d03, (Ne.symm d03), d04, (Ne.symm d04), d12, (Ne.symm d12), d13, (Ne.symm d13), d14, (Ne.symm d14), d23, (Ne.symm d23), d24, (Ne.symm d24), d34, (Ne.symm d34)])
                        have gv0 : own_gv ks283 ps283 k0 u0 = (0 : Int32) := by simp [own_gv, hK0, hP0]
                        have p284 : Go p.tables e below _ (T281.setTop (mkF m 228 #[.val (.long q1), .second, .val (.long q2), .second, .val (.long q3), .second, .val (.long q4), .second, .val (.long q5), .second, .val (.int p6), .val (.long k0), .second, .val (.long k1), .second, .val (.long k2), .second, .val (.long k3), .second, .val (.long k4), .second, .val (.int (3 : Int32)), .val (.ref b163), .val (.long k3), .second, .unset, .unset, .unset, .unset] [(.long k0), (.ref b163)])) := fun t_ k_ => (gcT p280 st281) t_ (by
                          refine XS.aload X281.here hx rfl (hb hby at_224) rfl rfl ?_
                          refine XS.lload X281.here hx rfl (hb hby at_226) rfl ?_
                          exact k_)
                        obtain ⟨cq285, kq285, q285a, q285b, q285c⟩ := isOf hZ rfl q281_E
                        obtain ⟨_, _, ⟨T285, L285, k285, n285⟩, -, X285, ⟨Lc285, hQ285, l285, y285, z285⟩, st285⟩ := X281.virtualBack hx (y := (⟨"com/example/subsume/subsume/reasoner/Positions", "get", "(J)I"⟩ : MethodName)) (z := (⟨"com/example/subsume/subsume/reasoner/Positions", "get", "(J)I"⟩ : MethodName)) hown (mvT hZ (own_w hw 47 rfl)) (mvT hZ (own_w hw 48 rfl)) (notFace_of_selects (args := #[]) (mvT hZ (own_w hw 50 rfl))) (mvT hZ (own_w hw 50 rfl)) (mvT hZ (own_w hw 49 rfl)) (by decide) (backOf (W := 0) (rm9 l Z a0 hw [] b163 k0 x167 x168 ks283 x169 x170 ps283 u0 T281.heap n0 (Nat.le_trans Z0 K282.1) q281_k q281_p q281_E vk283 vp283 hu0b (Or.inl hK0)) hZ (own_w hw 51 rfl) (own_w hw 4 rfl) (by decide) (by decide)) q285a q285c (g := (mkF m 228 #[.val (.long q1), .second, .val (.long q2), .second, .val (.long q3), .second, .val (.long q4), .second, .val (.long q5), .second, .val (.int p6), .val (.long k0), .second, .val (.long k1), .second, .val (.long k2), .second, .val (.long k3), .second, .val (.long k4), .second, .val (.int (3 : Int32)), .val (.ref b163), .val (.long k3), .second, .unset, .unset, .unset, .unset] [(.long k0), (.ref b163)])) rfl (by rw [hml]; rfl) (Steps.refl _) (argsL := [(.long k0)]) (rest := []) (lenOf pd1 rfl) rfl (by show 2 * 0 + _ ≤ _; exact Nat.le_of_eq rfl) (hb hby at_228) (fun _ _ => ⟨rfl, rfl, (by decide : 3 + 0 ≤ _), (by decide : 35 + 0 ≤ _)⟩)
                        dsimp only [Pt.U, Pt.locs, Pt.cells, Pt.slots] at X285 l285 y285 z285 st285 hQ285
                        subst l285 y285 z285
                        obtain ⟨rfl, N285q, q285_hh⟩ := hQ285
                        have N285 := Fr.app N281 N285q
                        have p286 : Go p.tables e below (s₁.setTop (entryFrame m #[(.long q1), (.long q2), (.long q3), (.long q4), (.long q5), (.int p6)] maxLocals)) (T285.setTop (mkF m 231 #[.val (.long q1), .second, .val (.long q2), .second, .val (.long q3), .second, .val (.long q4), .second, .val (.long q5), .second, .val (.int p6), .val (.long k0), .second, .val (.long k1), .second, .val (.long k2), .second, .val (.long k3), .second, .val (.long k4), .second, .val (.int (3 : Int32)), .val (.ref b163), .val (.long k3), .second, .unset, .unset, .unset, .unset] [(.int (0 : Int32))])) := by have z := (gcT p284 st285); rw [gv0] at z; exact z
                        obtain ⟨u1, hu1a, hK1, hP1, hu1b⟩ := own_Tb.get own_home_lt TB283 n1' (p := (1 : Int32)) (by simp [d01, (Ne.symm d01), d02, (Ne.symm d02), d03, (Ne.symm d03), d04, (Ne.symm d04), d12, (Ne.symm d12), d13, (Ne.symm d13), d14, (Ne.symm d14), d23, (Ne.symm d23), d24, (Ne.symm d24), d34, (Ne.symm d34)])
                        have gv1 : own_gv ks283 ps283 k1 u1 = (1 : Int32) := by simp [own_gv, hK1, hP1]
                        have p287 : Go p.tables e below _ (T285.setTop (mkF m 237 #[.val (.long q1), .second, .val (.long q2), .second, .val (.long q3), .second, .val (.long q4), .second, .val (.long q5), .second, .val (.int p6), .val (.long k0), .second, .val (.long k1), .second, .val (.long k2), .second, .val (.long k3), .second, .val (.long k4), .second, .val (.int (3 : Int32)), .val (.ref b163), .val (.long k3), .second, .val (.int (0 : Int32)), .unset, .unset, .unset] [(.long k1), (.ref b163)])) := fun t_ k_ => p286 t_ (by
                          refine XS.istore X285.here hx rfl (hb hby at_231) rfl (l' := #[.val (.long q1), .second, .val (.long q2), .second, .val (.long q3), .second, .val (.long q4), .second, .val (.long q5), .second, .val (.int p6), .val (.long k0), .second, .val (.long k1), .second, .val (.long k2), .second, .val (.long k3), .second, .val (.long k4), .second, .val (.int (3 : Int32)), .val (.ref b163), .val (.long k3), .second, .val (.int (0 : Int32)), .unset, .unset, .unset]) rfl ?_
                          refine XS.aload X285.here hx rfl (hb hby at_233) rfl rfl ?_
                          refine XS.lload X285.here hx rfl (hb hby at_235) rfl ?_
                          exact k_)
                        obtain ⟨cq288, kq288, q288a, q288b, q288c⟩ := isOf hZ q285_hh q281_E
                        obtain ⟨_, _, ⟨T288, L288, k288, n288⟩, -, X288, ⟨Lc288, hQ288, l288, y288, z288⟩, st288⟩ := X285.virtualBack hx (y := (⟨"com/example/subsume/subsume/reasoner/Positions", "get", "(J)I"⟩ : MethodName)) (z := (⟨"com/example/subsume/subsume/reasoner/Positions", "get", "(J)I"⟩ : MethodName)) hown (mvT hZ (own_w hw 47 rfl)) (mvT hZ (own_w hw 48 rfl)) (notFace_of_selects (args := #[]) (mvT hZ (own_w hw 50 rfl))) (mvT hZ (own_w hw 50 rfl)) (mvT hZ (own_w hw 49 rfl)) (by decide) (backOf (W := 0) (rm9 l Z a0 hw [] b163 k1 x167 x168 ks283 x169 x170 ps283 u1 T281.heap n0 (Nat.le_trans Z0 K282.1) q281_k q281_p q281_E vk283 vp283 hu1b (Or.inl hK1)) hZ (own_w hw 51 rfl) (own_w hw 4 rfl) (by decide) (by decide)) q288a q288c (g := (mkF m 237 #[.val (.long q1), .second, .val (.long q2), .second, .val (.long q3), .second, .val (.long q4), .second, .val (.long q5), .second, .val (.int p6), .val (.long k0), .second, .val (.long k1), .second, .val (.long k2), .second, .val (.long k3), .second, .val (.long k4), .second, .val (.int (3 : Int32)), .val (.ref b163), .val (.long k3), .second, .val (.int (0 : Int32)), .unset, .unset, .unset] [(.long k1), (.ref b163)])) rfl (by rw [hml]; rfl) (Steps.refl _) (argsL := [(.long k1)]) (rest := []) (lenOf pd1 rfl) rfl (by show 2 * 0 + _ ≤ _; exact Nat.le_of_eq rfl) (hb hby at_237) (fun _ _ => ⟨rfl, q285_hh, (by decide : 3 + 0 ≤ _), (by decide : 35 + 0 ≤ _)⟩)
                        dsimp only [Pt.U, Pt.locs, Pt.cells, Pt.slots] at X288 l288 y288 z288 st288 hQ288
                        subst l288 y288 z288
                        obtain ⟨rfl, N288q, q288_hh⟩ := hQ288
                        have N288 := Fr.app N285 N288q
                        have p289 : Go p.tables e below (s₁.setTop (entryFrame m #[(.long q1), (.long q2), (.long q3), (.long q4), (.long q5), (.int p6)] maxLocals)) (T288.setTop (mkF m 240 #[.val (.long q1), .second, .val (.long q2), .second, .val (.long q3), .second, .val (.long q4), .second, .val (.long q5), .second, .val (.int p6), .val (.long k0), .second, .val (.long k1), .second, .val (.long k2), .second, .val (.long k3), .second, .val (.long k4), .second, .val (.int (3 : Int32)), .val (.ref b163), .val (.long k3), .second, .val (.int (0 : Int32)), .unset, .unset, .unset] [(.int (1 : Int32))])) := by have z := (gcT p287 st288); rw [gv1] at z; exact z
                        obtain ⟨u2, hu2a, hK2, hP2, hu2b⟩ := own_Tb.get own_home_lt TB283 n2' (p := (2 : Int32)) (by simp [d01, (Ne.symm d01), d02, (Ne.symm d02), d03, (Ne.symm d03), d04, (Ne.symm d04), d12, (Ne.symm d12), d13, (Ne.symm d13), d14, (Ne.symm d14), d23, (Ne.symm d23), d24, (Ne.symm d24), d34, (Ne.symm d34)])
                        have gv2 : own_gv ks283 ps283 k2 u2 = (2 : Int32) := by simp [own_gv, hK2, hP2]
                        have p290 : Go p.tables e below _ (T288.setTop (mkF m 246 #[.val (.long q1), .second, .val (.long q2), .second, .val (.long q3), .second, .val (.long q4), .second, .val (.long q5), .second, .val (.int p6), .val (.long k0), .second, .val (.long k1), .second, .val (.long k2), .second, .val (.long k3), .second, .val (.long k4), .second, .val (.int (3 : Int32)), .val (.ref b163), .val (.long k3), .second, .val (.int (0 : Int32)), .val (.int (1 : Int32)), .unset, .unset] [(.long k2), (.ref b163)])) := fun t_ k_ => p289 t_ (by
                          refine XS.istore X288.here hx rfl (hb hby at_240) rfl (l' := #[.val (.long q1), .second, .val (.long q2), .second, .val (.long q3), .second, .val (.long q4), .second, .val (.long q5), .second, .val (.int p6), .val (.long k0), .second, .val (.long k1), .second, .val (.long k2), .second, .val (.long k3), .second, .val (.long k4), .second, .val (.int (3 : Int32)), .val (.ref b163), .val (.long k3), .second, .val (.int (0 : Int32)), .val (.int (1 : Int32)), .unset, .unset]) rfl ?_
                          refine XS.aload X288.here hx rfl (hb hby at_242) rfl rfl ?_
                          refine XS.lload X288.here hx rfl (hb hby at_244) rfl ?_
                          exact k_)
                        obtain ⟨cq291, kq291, q291a, q291b, q291c⟩ := isOf hZ q288_hh q281_E
                        obtain ⟨_, _, ⟨T291, L291, k291, n291⟩, -, X291, ⟨Lc291, hQ291, l291, y291, z291⟩, st291⟩ := X288.virtualBack hx (y := (⟨"com/example/subsume/subsume/reasoner/Positions", "get", "(J)I"⟩ : MethodName)) (z := (⟨"com/example/subsume/subsume/reasoner/Positions", "get", "(J)I"⟩ : MethodName)) hown (mvT hZ (own_w hw 47 rfl)) (mvT hZ (own_w hw 48 rfl)) (notFace_of_selects (args := #[]) (mvT hZ (own_w hw 50 rfl))) (mvT hZ (own_w hw 50 rfl)) (mvT hZ (own_w hw 49 rfl)) (by decide) (backOf (W := 0) (rm9 l Z a0 hw [] b163 k2 x167 x168 ks283 x169 x170 ps283 u2 T281.heap n0 (Nat.le_trans Z0 K282.1) q281_k q281_p q281_E vk283 vp283 hu2b (Or.inl hK2)) hZ (own_w hw 51 rfl) (own_w hw 4 rfl) (by decide) (by decide)) q291a q291c (g := (mkF m 246 #[.val (.long q1), .second, .val (.long q2), .second, .val (.long q3), .second, .val (.long q4), .second, .val (.long q5), .second, .val (.int p6), .val (.long k0), .second, .val (.long k1), .second, .val (.long k2), .second, .val (.long k3), .second, .val (.long k4), .second, .val (.int (3 : Int32)), .val (.ref b163), .val (.long k3), .second, .val (.int (0 : Int32)), .val (.int (1 : Int32)), .unset, .unset] [(.long k2), (.ref b163)])) rfl (by rw [hml]; rfl) (Steps.refl _) (argsL := [(.long k2)]) (rest := []) (lenOf pd1 rfl) rfl (by show 2 * 0 + _ ≤ _; exact Nat.le_of_eq rfl) (hb hby at_246) (fun _ _ => ⟨rfl, q288_hh, (by decide : 3 + 0 ≤ _), (by decide : 35 + 0 ≤ _)⟩)
                        dsimp only [Pt.U, Pt.locs, Pt.cells, Pt.slots] at X291 l291 y291 z291 st291 hQ291
                        subst l291 y291 z291
                        obtain ⟨rfl, N291q, q291_hh⟩ := hQ291
                        have N291 := Fr.app N288 N291q
                        have p292 : Go p.tables e below (s₁.setTop (entryFrame m #[(.long q1), (.long q2), (.long q3), (.long q4), (.long q5), (.int p6)] maxLocals)) (T291.setTop (mkF m 249 #[.val (.long q1), .second, .val (.long q2), .second, .val (.long q3), .second, .val (.long q4), .second, .val (.long q5), .second, .val (.int p6), .val (.long k0), .second, .val (.long k1), .second, .val (.long k2), .second, .val (.long k3), .second, .val (.long k4), .second, .val (.int (3 : Int32)), .val (.ref b163), .val (.long k3), .second, .val (.int (0 : Int32)), .val (.int (1 : Int32)), .unset, .unset] [(.int (2 : Int32))])) := by have z := (gcT p290 st291); rw [gv2] at z; exact z
                        obtain ⟨u3, hu3a, hK3, hu3b⟩ := own_Tb.getn own_home_lt TB283 (by simp) n3' (by intro p; simp)
                        have gv3 : own_gv ks283 ps283 k3 u3 = (-1 : Int32) := by simp [own_gv, hK3, Ne.symm n3']
                        have p293 : Go p.tables e below _ (T291.setTop (mkF m 255 #[.val (.long q1), .second, .val (.long q2), .second, .val (.long q3), .second, .val (.long q4), .second, .val (.long q5), .second, .val (.int p6), .val (.long k0), .second, .val (.long k1), .second, .val (.long k2), .second, .val (.long k3), .second, .val (.long k4), .second, .val (.int (3 : Int32)), .val (.ref b163), .val (.long k3), .second, .val (.int (0 : Int32)), .val (.int (1 : Int32)), .val (.int (2 : Int32)), .unset] [(.long k3), (.ref b163)])) := fun t_ k_ => p292 t_ (by
                          refine XS.istore X291.here hx rfl (hb hby at_249) rfl (l' := #[.val (.long q1), .second, .val (.long q2), .second, .val (.long q3), .second, .val (.long q4), .second, .val (.long q5), .second, .val (.int p6), .val (.long k0), .second, .val (.long k1), .second, .val (.long k2), .second, .val (.long k3), .second, .val (.long k4), .second, .val (.int (3 : Int32)), .val (.ref b163), .val (.long k3), .second, .val (.int (0 : Int32)), .val (.int (1 : Int32)), .val (.int (2 : Int32)), .unset]) rfl ?_
                          refine XS.aload X291.here hx rfl (hb hby at_251) rfl rfl ?_
                          refine XS.lload X291.here hx rfl (hb hby at_253) rfl ?_
                          exact k_)
                        obtain ⟨cq294, kq294, q294a, q294b, q294c⟩ := isOf hZ q291_hh q281_E
                        obtain ⟨_, _, ⟨T294, L294, k294, n294⟩, -, X294, ⟨Lc294, hQ294, l294, y294, z294⟩, st294⟩ := X291.virtualBack hx (y := (⟨"com/example/subsume/subsume/reasoner/Positions", "get", "(J)I"⟩ : MethodName)) (z := (⟨"com/example/subsume/subsume/reasoner/Positions", "get", "(J)I"⟩ : MethodName)) hown (mvT hZ (own_w hw 47 rfl)) (mvT hZ (own_w hw 48 rfl)) (notFace_of_selects (args := #[]) (mvT hZ (own_w hw 50 rfl))) (mvT hZ (own_w hw 50 rfl)) (mvT hZ (own_w hw 49 rfl)) (by decide) (backOf (W := 0) (rm9 l Z a0 hw [] b163 k3 x167 x168 ks283 x169 x170 ps283 u3 T281.heap n0 (Nat.le_trans Z0 K282.1) q281_k q281_p q281_E vk283 vp283 hu3b (Or.inr hK3)) hZ (own_w hw 51 rfl) (own_w hw 4 rfl) (by decide) (by decide)) q294a q294c (g := (mkF m 255 #[.val (.long q1), .second, .val (.long q2), .second, .val (.long q3), .second, .val (.long q4), .second, .val (.long q5), .second, .val (.int p6), .val (.long k0), .second, .val (.long k1), .second, .val (.long k2), .second, .val (.long k3), .second, .val (.long k4), .second, .val (.int (3 : Int32)), .val (.ref b163), .val (.long k3), .second, .val (.int (0 : Int32)), .val (.int (1 : Int32)), .val (.int (2 : Int32)), .unset] [(.long k3), (.ref b163)])) rfl (by rw [hml]; rfl) (Steps.refl _) (argsL := [(.long k3)]) (rest := []) (lenOf pd1 rfl) rfl (by show 2 * 0 + _ ≤ _; exact Nat.le_of_eq rfl) (hb hby at_255) (fun _ _ => ⟨rfl, q291_hh, (by decide : 3 + 0 ≤ _), (by decide : 35 + 0 ≤ _)⟩)
                        dsimp only [Pt.U, Pt.locs, Pt.cells, Pt.slots] at X294 l294 y294 z294 st294 hQ294
                        subst l294 y294 z294
                        obtain ⟨rfl, N294q, q294_hh⟩ := hQ294
                        have N294 := Fr.app N291 N294q
                        have p295 : Go p.tables e below (s₁.setTop (entryFrame m #[(.long q1), (.long q2), (.long q3), (.long q4), (.long q5), (.int p6)] maxLocals)) (T294.setTop (mkF m 258 #[.val (.long q1), .second, .val (.long q2), .second, .val (.long q3), .second, .val (.long q4), .second, .val (.long q5), .second, .val (.int p6), .val (.long k0), .second, .val (.long k1), .second, .val (.long k2), .second, .val (.long k3), .second, .val (.long k4), .second, .val (.int (3 : Int32)), .val (.ref b163), .val (.long k3), .second, .val (.int (0 : Int32)), .val (.int (1 : Int32)), .val (.int (2 : Int32)), .unset] [(.int (-1 : Int32))])) := by have z := (gcT p293 st294); rw [gv3] at z; exact z
                        have p296 : Go p.tables e below _ (T294.setTop (mkF m 265 #[.val (.long q1), .second, .val (.long q2), .second, .val (.long q3), .second, .val (.long q4), .second, .val (.long q5), .second, .val (.int p6), .val (.long k0), .second, .val (.long k1), .second, .val (.long k2), .second, .val (.long k3), .second, .val (.long k4), .second, .val (.int (3 : Int32)), .val (.ref b163), .val (.long k3), .second, .val (.int (0 : Int32)), .val (.int (1 : Int32)), .val (.int (2 : Int32)), .val (.int (-1 : Int32))] [(.int (3 : Int32)), (.int (0 : Int32)), (.int (0 : Int32))])) := fun t_ k_ => p295 t_ (by
                          refine XS.istore X294.here hx rfl (hb hby at_258) rfl (l' := #[.val (.long q1), .second, .val (.long q2), .second, .val (.long q3), .second, .val (.long q4), .second, .val (.long q5), .second, .val (.int p6), .val (.long k0), .second, .val (.long k1), .second, .val (.long k2), .second, .val (.long k3), .second, .val (.long k4), .second, .val (.int (3 : Int32)), .val (.ref b163), .val (.long k3), .second, .val (.int (0 : Int32)), .val (.int (1 : Int32)), .val (.int (2 : Int32)), .val (.int (-1 : Int32))]) rfl ?_
                          refine XS.iload X294.here hx rfl (hb hby at_260) rfl ?_
                          refine XS.iconst X294.here hx rfl (hb hby at_262) ?_
                          refine XS.iload X294.here hx rfl (hb hby at_263) rfl ?_
                          exact k_)
                        obtain ⟨_, _, ⟨T297, L297, k297, n297⟩, -, X297, ⟨Lc297, hQ297, l297, y297, z297⟩, st297⟩ := Jvm.LawKit.callS X294 hx (y := (⟨"com/example/subsume/subsume/reasoner/PositionsRemovePinLaw", "ok", "(III)Z"⟩ : MethodName)) hown (mvT hZ (own_w hw 52 rfl)) (mvT hZ (own_w hw 53 rfl)) (mvT hZ (own_w hw 54 rfl)) (mvT hZ (own_w hw 55 rfl)) (by decide) (backOf (W := 0) (rm10 l Z a0 hw [] (0 : Int32) (0 : Int32) (3 : Int32) T281.heap n0 (Nat.le_trans Z0 K282.1) ) hZ (own_w hw 55 rfl) (own_w hw 54 rfl) (by decide) (by decide)) (g := (mkF m 265 #[.val (.long q1), .second, .val (.long q2), .second, .val (.long q3), .second, .val (.long q4), .second, .val (.long q5), .second, .val (.int p6), .val (.long k0), .second, .val (.long k1), .second, .val (.long k2), .second, .val (.long k3), .second, .val (.long k4), .second, .val (.int (3 : Int32)), .val (.ref b163), .val (.long k3), .second, .val (.int (0 : Int32)), .val (.int (1 : Int32)), .val (.int (2 : Int32)), .val (.int (-1 : Int32))] [(.int (3 : Int32)), (.int (0 : Int32)), (.int (0 : Int32))])) rfl (by rw [hml]; rfl) (argsL := [(.int (0 : Int32)), (.int (0 : Int32)), (.int (3 : Int32))]) (rest := []) (lenOf pd7 rfl) rfl (by show 2 * 0 + _ ≤ _; exact Nat.le_of_eq rfl) (hb hby at_265) (fun _ _ => ⟨rfl, q294_hh, (by decide : 3 + 0 ≤ _), (by decide : 35 + 0 ≤ _)⟩)
                        dsimp only [Pt.U, Pt.locs, Pt.cells, Pt.slots] at X297 l297 y297 z297 st297 hQ297
                        subst l297 y297 z297
                        obtain ⟨rfl, N297q, q297_hh⟩ := hQ297
                        have N297 := Fr.app N294 N297q
                        have c298 : ¬ ((own_okv (0 : Int32) (0 : Int32) (3 : Int32)) = (0 : Int32)) := by decide
                        have p299 : Go p.tables e below _ (T297.setTop (mkF m 276 #[.val (.long q1), .second, .val (.long q2), .second, .val (.long q3), .second, .val (.long q4), .second, .val (.long q5), .second, .val (.int p6), .val (.long k0), .second, .val (.long k1), .second, .val (.long k2), .second, .val (.long k3), .second, .val (.long k4), .second, .val (.int (3 : Int32)), .val (.ref b163), .val (.long k3), .second, .val (.int (0 : Int32)), .val (.int (1 : Int32)), .val (.int (2 : Int32)), .val (.int (-1 : Int32))] [(.int (3 : Int32)), (.int (1 : Int32)), (.int (1 : Int32))])) := fun t_ k_ => (gc p296 st297) t_ (by
                          refine XS.ifNo X297.here hx rfl (hb hby at_268) rfl ((if0 _ _).trans (feq c298).1) ?_
                          refine XS.iload X297.here hx rfl (hb hby at_271) rfl ?_
                          refine XS.iconst X297.here hx rfl (hb hby at_273) ?_
                          refine XS.iload X297.here hx rfl (hb hby at_274) rfl ?_
                          exact k_)
                        obtain ⟨_, _, ⟨T300, L300, k300, n300⟩, -, X300, ⟨Lc300, hQ300, l300, y300, z300⟩, st300⟩ := Jvm.LawKit.callS X297 hx (y := (⟨"com/example/subsume/subsume/reasoner/PositionsRemovePinLaw", "ok", "(III)Z"⟩ : MethodName)) hown (mvT hZ (own_w hw 52 rfl)) (mvT hZ (own_w hw 53 rfl)) (mvT hZ (own_w hw 54 rfl)) (mvT hZ (own_w hw 55 rfl)) (by decide) (backOf (W := 0) (rm10 l Z a0 hw [] (1 : Int32) (1 : Int32) (3 : Int32) T281.heap n0 (Nat.le_trans Z0 K282.1) ) hZ (own_w hw 55 rfl) (own_w hw 54 rfl) (by decide) (by decide)) (g := (mkF m 276 #[.val (.long q1), .second, .val (.long q2), .second, .val (.long q3), .second, .val (.long q4), .second, .val (.long q5), .second, .val (.int p6), .val (.long k0), .second, .val (.long k1), .second, .val (.long k2), .second, .val (.long k3), .second, .val (.long k4), .second, .val (.int (3 : Int32)), .val (.ref b163), .val (.long k3), .second, .val (.int (0 : Int32)), .val (.int (1 : Int32)), .val (.int (2 : Int32)), .val (.int (-1 : Int32))] [(.int (3 : Int32)), (.int (1 : Int32)), (.int (1 : Int32))])) rfl (by rw [hml]; rfl) (argsL := [(.int (1 : Int32)), (.int (1 : Int32)), (.int (3 : Int32))]) (rest := []) (lenOf pd7 rfl) rfl (by show 2 * 0 + _ ≤ _; exact Nat.le_of_eq rfl) (hb hby at_276) (fun _ _ => ⟨rfl, q297_hh, (by decide : 3 + 0 ≤ _), (by decide : 35 + 0 ≤ _)⟩)
                        dsimp only [Pt.U, Pt.locs, Pt.cells, Pt.slots] at X300 l300 y300 z300 st300 hQ300
                        subst l300 y300 z300
                        obtain ⟨rfl, N300q, q300_hh⟩ := hQ300
                        have N300 := Fr.app N297 N300q
                        have c301 : ¬ ((own_okv (1 : Int32) (1 : Int32) (3 : Int32)) = (0 : Int32)) := by decide
                        have p302 : Go p.tables e below _ (T300.setTop (mkF m 287 #[.val (.long q1), .second, .val (.long q2), .second, .val (.long q3), .second, .val (.long q4), .second, .val (.long q5), .second, .val (.int p6), .val (.long k0), .second, .val (.long k1), .second, .val (.long k2), .second, .val (.long k3), .second, .val (.long k4), .second, .val (.int (3 : Int32)), .val (.ref b163), .val (.long k3), .second, .val (.int (0 : Int32)), .val (.int (1 : Int32)), .val (.int (2 : Int32)), .val (.int (-1 : Int32))] [(.int (3 : Int32)), (.int (2 : Int32)), (.int (2 : Int32))])) := fun t_ k_ => (gc p299 st300) t_ (by
                          refine XS.ifNo X300.here hx rfl (hb hby at_279) rfl ((if0 _ _).trans (feq c301).1) ?_
                          refine XS.iload X300.here hx rfl (hb hby at_282) rfl ?_
                          refine XS.iconst X300.here hx rfl (hb hby at_284) ?_
                          refine XS.iload X300.here hx rfl (hb hby at_285) rfl ?_
                          exact k_)
                        obtain ⟨_, _, ⟨T303, L303, k303, n303⟩, -, X303, ⟨Lc303, hQ303, l303, y303, z303⟩, st303⟩ := Jvm.LawKit.callS X300 hx (y := (⟨"com/example/subsume/subsume/reasoner/PositionsRemovePinLaw", "ok", "(III)Z"⟩ : MethodName)) hown (mvT hZ (own_w hw 52 rfl)) (mvT hZ (own_w hw 53 rfl)) (mvT hZ (own_w hw 54 rfl)) (mvT hZ (own_w hw 55 rfl)) (by decide) (backOf (W := 0) (rm10 l Z a0 hw [] (2 : Int32) (2 : Int32) (3 : Int32) T281.heap n0 (Nat.le_trans Z0 K282.1) ) hZ (own_w hw 55 rfl) (own_w hw 54 rfl) (by decide) (by decide)) (g := (mkF m 287 #[.val (.long q1), .second, .val (.long q2), .second, .val (.long q3), .second, .val (.long q4), .second, .val (.long q5), .second, .val (.int p6), .val (.long k0), .second, .val (.long k1), .second, .val (.long k2), .second, .val (.long k3), .second, .val (.long k4), .second, .val (.int (3 : Int32)), .val (.ref b163), .val (.long k3), .second, .val (.int (0 : Int32)), .val (.int (1 : Int32)), .val (.int (2 : Int32)), .val (.int (-1 : Int32))] [(.int (3 : Int32)), (.int (2 : Int32)), (.int (2 : Int32))])) rfl (by rw [hml]; rfl) (argsL := [(.int (2 : Int32)), (.int (2 : Int32)), (.int (3 : Int32))]) (rest := []) (lenOf pd7 rfl) rfl (by show 2 * 0 + _ ≤ _; exact Nat.le_of_eq rfl) (hb hby at_287) (fun _ _ => ⟨rfl, q300_hh, (by decide : 3 + 0 ≤ _), (by decide : 35 + 0 ≤ _)⟩)
                        dsimp only [Pt.U, Pt.locs, Pt.cells, Pt.slots] at X303 l303 y303 z303 st303 hQ303
                        subst l303 y303 z303
                        obtain ⟨rfl, N303q, q303_hh⟩ := hQ303
                        have N303 := Fr.app N300 N303q
                        have c304 : ¬ ((own_okv (2 : Int32) (2 : Int32) (3 : Int32)) = (0 : Int32)) := by decide
                        have p305 : Go p.tables e below _ (T303.setTop (mkF m 298 #[.val (.long q1), .second, .val (.long q2), .second, .val (.long q3), .second, .val (.long q4), .second, .val (.long q5), .second, .val (.int p6), .val (.long k0), .second, .val (.long k1), .second, .val (.long k2), .second, .val (.long k3), .second, .val (.long k4), .second, .val (.int (3 : Int32)), .val (.ref b163), .val (.long k3), .second, .val (.int (0 : Int32)), .val (.int (1 : Int32)), .val (.int (2 : Int32)), .val (.int (-1 : Int32))] [(.int (3 : Int32)), (.int (3 : Int32)), (.int (-1 : Int32))])) := fun t_ k_ => (gc p302 st303) t_ (by
                          refine XS.ifNo X303.here hx rfl (hb hby at_290) rfl ((if0 _ _).trans (feq c304).1) ?_
                          refine XS.iload X303.here hx rfl (hb hby at_293) rfl ?_
                          refine XS.iconst X303.here hx rfl (hb hby at_295) ?_
                          refine XS.iload X303.here hx rfl (hb hby at_296) rfl ?_
                          exact k_)
                        obtain ⟨_, _, ⟨T306, L306, k306, n306⟩, -, X306, ⟨Lc306, hQ306, l306, y306, z306⟩, st306⟩ := Jvm.LawKit.callS X303 hx (y := (⟨"com/example/subsume/subsume/reasoner/PositionsRemovePinLaw", "ok", "(III)Z"⟩ : MethodName)) hown (mvT hZ (own_w hw 52 rfl)) (mvT hZ (own_w hw 53 rfl)) (mvT hZ (own_w hw 54 rfl)) (mvT hZ (own_w hw 55 rfl)) (by decide) (backOf (W := 0) (rm10 l Z a0 hw [] (-1 : Int32) (3 : Int32) (3 : Int32) T281.heap n0 (Nat.le_trans Z0 K282.1) ) hZ (own_w hw 55 rfl) (own_w hw 54 rfl) (by decide) (by decide)) (g := (mkF m 298 #[.val (.long q1), .second, .val (.long q2), .second, .val (.long q3), .second, .val (.long q4), .second, .val (.long q5), .second, .val (.int p6), .val (.long k0), .second, .val (.long k1), .second, .val (.long k2), .second, .val (.long k3), .second, .val (.long k4), .second, .val (.int (3 : Int32)), .val (.ref b163), .val (.long k3), .second, .val (.int (0 : Int32)), .val (.int (1 : Int32)), .val (.int (2 : Int32)), .val (.int (-1 : Int32))] [(.int (3 : Int32)), (.int (3 : Int32)), (.int (-1 : Int32))])) rfl (by rw [hml]; rfl) (argsL := [(.int (-1 : Int32)), (.int (3 : Int32)), (.int (3 : Int32))]) (rest := []) (lenOf pd7 rfl) rfl (by show 2 * 0 + _ ≤ _; exact Nat.le_of_eq rfl) (hb hby at_298) (fun _ _ => ⟨rfl, q303_hh, (by decide : 3 + 0 ≤ _), (by decide : 35 + 0 ≤ _)⟩)
                        dsimp only [Pt.U, Pt.locs, Pt.cells, Pt.slots] at X306 l306 y306 z306 st306 hQ306
                        subst l306 y306 z306
                        obtain ⟨rfl, N306q, q306_hh⟩ := hQ306
                        have N306 := Fr.app N303 N306q
                        have c307 : ¬ ((own_okv (-1 : Int32) (3 : Int32) (3 : Int32)) = (0 : Int32)) := by decide
                        have p308 : Go p.tables e below _ (T306.setTop (mkF m 309 #[.val (.long q1), .second, .val (.long q2), .second, .val (.long q3), .second, .val (.long q4), .second, .val (.long q5), .second, .val (.int p6), .val (.long k0), .second, .val (.long k1), .second, .val (.long k2), .second, .val (.long k3), .second, .val (.long k4), .second, .val (.int (3 : Int32)), .val (.ref b163), .val (.long k3), .second, .val (.int (0 : Int32)), .val (.int (1 : Int32)), .val (.int (2 : Int32)), .val (.int (-1 : Int32))] [(.int (1 : Int32))])) := fun t_ k_ => (gc p305 st306) t_ (by
                          refine XS.ifNo X306.here hx rfl (hb hby at_301) rfl ((if0 _ _).trans (feq c307).1) ?_
                          refine XS.iconst X306.here hx rfl (hb hby at_304) ?_
                          refine XS.goto X306.here hx rfl (pc0 := 305) (pc' := 309) rfl (hb hby at_305) (by decide) (by decide) ?_
                          exact k_)
                        obtain ⟨fs, hr, hrun, hended, hW, hsame⟩ := X306.leave (v := some (.int (1 : Int32))) (fun h => by rw [Bd.returns] at h; cases h)
                        refine ⟨_, _, p308 _ (retN X306 hx (t := .boolean) Bd.returns (by simp) (hb hby at_309) hr), hrun, hended, _, _, rfl, ?_, ⟨_, rfl⟩, hW, hsame.mono (by decide) (by decide)⟩
                        show Q0 Z q1 q2 q3 q4 q5 p6 h0 n0 _ T306.heap _
                        rw [q306_hh]
                        exact ⟨rfl, N306⟩
                      · have p309 : Go p.tables e below (s₁.setTop (entryFrame m #[(.long q1), (.long q2), (.long q3), (.long q4), (.long q5), (.int p6)] maxLocals)) (T186.setTop (mkF m 170 #[.val (.long q1), .second, .val (.long q2), .second, .val (.long q3), .second, .val (.long q4), .second, .val (.long q5), .second, .val (.int p6), .val (.long k0), .second, .val (.long k1), .second, .val (.long k2), .second, .val (.long k3), .second, .val (.long k4), .second, .val (.int (4 : Int32)), .val (.ref b163), .unset, .unset, .unset, .unset, .unset, .unset] [])) := by rw [← ro]; exact (gcT p185 st186)
                        have hab : ∀ p, (k4, p) ∉ ([(k3, (3 : Int32)), (k2, (2 : Int32)), (k1, (1 : Int32)), (k0, (0 : Int32))] : List (Int64 × Int32)) := by intro p; simp [d01, (Ne.symm d01), d02, (Ne.symm d02), d03, (Ne.symm d03), d04, (Ne.symm d04), d12, (Ne.symm d12), d13, (Ne.symm d13), d14, (Ne.symm d14), d23, (Ne.symm d23), d24, (Ne.symm d24), d34, (Ne.symm d34)]
                        obtain ⟨t, ht, hK, hu⟩ := own_Tb.getn own_home_lt TB188 (by simp) n4' hab
                        have p310 : Go p.tables e below _ (T186.setTop (mkF m 221 #[.val (.long q1), .second, .val (.long q2), .second, .val (.long q3), .second, .val (.long q4), .second, .val (.long q5), .second, .val (.int p6), .val (.long k0), .second, .val (.long k1), .second, .val (.long k2), .second, .val (.long k3), .second, .val (.long k4), .second, .val (.int (4 : Int32)), .val (.ref b163), .val (.long k4), .second, .unset, .unset, .unset, .unset] [(.long k4), (.ref b163)])) := fun t_ k_ => p309 t_ (by
                          refine XS.iload X186.here hx rfl (hb hby at_170) rfl ?_
                          refine XS.ifYes X186.here hx rfl (pc0 := 172) (pc' := 180) rfl (hb hby at_172) rfl ((if0 _ _).trans (feq (by decide : ¬ ((4 : Int32) = (0 : Int32)))).2) (by decide) (by decide) ?_
                          refine XS.iload X186.here hx rfl (hb hby at_180) rfl ?_
                          refine XS.iconst X186.here hx rfl (hb hby at_182) ?_
                          refine XS.icmpYes X186.here hx rfl (pc0 := 183) (pc' := 191) rfl (hb hby at_183) rfl (feq (by decide : ¬ ((4 : Int32) = (1 : Int32)))).2 (by decide) (by decide) ?_
                          refine XS.iload X186.here hx rfl (hb hby at_191) rfl ?_
                          refine XS.iconst X186.here hx rfl (hb hby at_193) ?_
                          refine XS.icmpYes X186.here hx rfl (pc0 := 194) (pc' := 202) rfl (hb hby at_194) rfl (feq (by decide : ¬ ((4 : Int32) = (2 : Int32)))).2 (by decide) (by decide) ?_
                          refine XS.iload X186.here hx rfl (hb hby at_202) rfl ?_
                          refine XS.iconst X186.here hx rfl (hb hby at_204) ?_
                          refine XS.icmpYes X186.here hx rfl (pc0 := 205) (pc' := 213) rfl (hb hby at_205) rfl (feq (by decide : ¬ ((4 : Int32) = (3 : Int32)))).2 (by decide) (by decide) ?_
                          refine XS.lload X186.here hx rfl (hb hby at_213) rfl ?_
                          refine XS.lstore X186.here hx rfl (hb hby at_215) rfl (l' := #[.val (.long q1), .second, .val (.long q2), .second, .val (.long q3), .second, .val (.long q4), .second, .val (.long q5), .second, .val (.int p6), .val (.long k0), .second, .val (.long k1), .second, .val (.long k2), .second, .val (.long k3), .second, .val (.long k4), .second, .val (.int (4 : Int32)), .val (.ref b163), .val (.long k4), .second, .unset, .unset, .unset, .unset]) rfl ?_
                          refine XS.aload X186.here hx rfl (hb hby at_217) rfl rfl ?_
                          refine XS.lload X186.here hx rfl (hb hby at_219) rfl ?_
                          exact k_)
                        obtain ⟨cq311, kq311, q311a, q311b, q311c⟩ := isOf hZ rfl q186_E
                        obtain ⟨_, _, ⟨T311, L311, k311, n311⟩, -, X311, ⟨Lc311, hQ311, l311, y311, z311⟩, st311⟩ := X186.virtualBack hx (y := (⟨"com/example/subsume/subsume/reasoner/Positions", "remove", "(J)V"⟩ : MethodName)) (z := (⟨"com/example/subsume/subsume/reasoner/Positions", "remove", "(J)V"⟩ : MethodName)) hown (mvT hZ (own_w hw 42 rfl)) (mvT hZ (own_w hw 43 rfl)) (notFace_of_selects (args := #[]) (mvT hZ (own_w hw 45 rfl))) (mvT hZ (own_w hw 45 rfl)) (mvT hZ (own_w hw 44 rfl)) (by decide) (backOf (W := 0) (rm8n l Z a0 hw [] b163 k4 x167 x168 ks188 x169 x170 ps188 t T186.heap n0 (Nat.le_trans Z0 K187.1) q186_k q186_p q186_E vk188 vp188 hu (TB188.absent n4' hab _ (Nat.mod_lt _ (by omega))) hK) hZ (own_w hw 46 rfl) (own_w hw 4 rfl) (by decide) (by decide)) q311a q311c (g := (mkF m 221 #[.val (.long q1), .second, .val (.long q2), .second, .val (.long q3), .second, .val (.long q4), .second, .val (.long q5), .second, .val (.int p6), .val (.long k0), .second, .val (.long k1), .second, .val (.long k2), .second, .val (.long k3), .second, .val (.long k4), .second, .val (.int (4 : Int32)), .val (.ref b163), .val (.long k4), .second, .unset, .unset, .unset, .unset] [(.long k4), (.ref b163)])) rfl (by rw [hml]; rfl) (Steps.refl _) (argsL := [(.long k4)]) (rest := []) (lenOf pd6 rfl) rfl (by show 2 * 0 + _ ≤ _; exact Nat.le_of_eq rfl) (hb hby at_221) (fun _ _ => ⟨rfl, rfl, (by decide : 3 + 0 ≤ _), (by decide : 35 + 0 ≤ _)⟩)
                        dsimp only [Pt.U, Pt.locs, Pt.cells, Pt.slots] at X311 l311 y311 z311 st311 hQ311
                        subst l311 y311 z311
                        obtain ⟨rfl, N311q, q311_hh⟩ := hQ311
                        have N311 := Fr.app N186 N311q
                        obtain ⟨u0, hu0a, hK0, hP0, hu0b⟩ := own_Tb.get own_home_lt TB188 n0' (p := (0 : Int32)) (by simp [d01, (Ne.symm d01), d02, (Ne.symm d02), d03, (Ne.symm d03), d04, (Ne.symm d04), d12, (Ne.symm d12), d13, (Ne.symm d13), d14, (Ne.symm d14), d23, (Ne.symm d23), d24, (Ne.symm d24), d34, (Ne.symm d34)])
                        have gv0 : own_gv ks188 ps188 k0 u0 = (0 : Int32) := by simp [own_gv, hK0, hP0]
                        have p312 : Go p.tables e below _ (T311.setTop (mkF m 228 #[.val (.long q1), .second, .val (.long q2), .second, .val (.long q3), .second, .val (.long q4), .second, .val (.long q5), .second, .val (.int p6), .val (.long k0), .second, .val (.long k1), .second, .val (.long k2), .second, .val (.long k3), .second, .val (.long k4), .second, .val (.int (4 : Int32)), .val (.ref b163), .val (.long k4), .second, .unset, .unset, .unset, .unset] [(.long k0), (.ref b163)])) := fun t_ k_ => (gcT p310 st311) t_ (by
                          refine XS.aload X311.here hx rfl (hb hby at_224) rfl rfl ?_
                          refine XS.lload X311.here hx rfl (hb hby at_226) rfl ?_
                          exact k_)
                        obtain ⟨cq313, kq313, q313a, q313b, q313c⟩ := isOf hZ q311_hh q186_E
                        obtain ⟨_, _, ⟨T313, L313, k313, n313⟩, -, X313, ⟨Lc313, hQ313, l313, y313, z313⟩, st313⟩ := X311.virtualBack hx (y := (⟨"com/example/subsume/subsume/reasoner/Positions", "get", "(J)I"⟩ : MethodName)) (z := (⟨"com/example/subsume/subsume/reasoner/Positions", "get", "(J)I"⟩ : MethodName)) hown (mvT hZ (own_w hw 47 rfl)) (mvT hZ (own_w hw 48 rfl)) (notFace_of_selects (args := #[]) (mvT hZ (own_w hw 50 rfl))) (mvT hZ (own_w hw 50 rfl)) (mvT hZ (own_w hw 49 rfl)) (by decide) (backOf (W := 0) (rm9 l Z a0 hw [] b163 k0 x167 x168 ks188 x169 x170 ps188 u0 T186.heap n0 (Nat.le_trans Z0 K187.1) q186_k q186_p q186_E vk188 vp188 hu0b (Or.inl hK0)) hZ (own_w hw 51 rfl) (own_w hw 4 rfl) (by decide) (by decide)) q313a q313c (g := (mkF m 228 #[.val (.long q1), .second, .val (.long q2), .second, .val (.long q3), .second, .val (.long q4), .second, .val (.long q5), .second, .val (.int p6), .val (.long k0), .second, .val (.long k1), .second, .val (.long k2), .second, .val (.long k3), .second, .val (.long k4), .second, .val (.int (4 : Int32)), .val (.ref b163), .val (.long k4), .second, .unset, .unset, .unset, .unset] [(.long k0), (.ref b163)])) rfl (by rw [hml]; rfl) (Steps.refl _) (argsL := [(.long k0)]) (rest := []) (lenOf pd1 rfl) rfl (by show 2 * 0 + _ ≤ _; exact Nat.le_of_eq rfl) (hb hby at_228) (fun _ _ => ⟨rfl, q311_hh, (by decide : 3 + 0 ≤ _), (by decide : 35 + 0 ≤ _)⟩)
                        dsimp only [Pt.U, Pt.locs, Pt.cells, Pt.slots] at X313 l313 y313 z313 st313 hQ313
                        subst l313 y313 z313
                        obtain ⟨rfl, N313q, q313_hh⟩ := hQ313
                        have N313 := Fr.app N311 N313q
                        have p314 : Go p.tables e below (s₁.setTop (entryFrame m #[(.long q1), (.long q2), (.long q3), (.long q4), (.long q5), (.int p6)] maxLocals)) (T313.setTop (mkF m 231 #[.val (.long q1), .second, .val (.long q2), .second, .val (.long q3), .second, .val (.long q4), .second, .val (.long q5), .second, .val (.int p6), .val (.long k0), .second, .val (.long k1), .second, .val (.long k2), .second, .val (.long k3), .second, .val (.long k4), .second, .val (.int (4 : Int32)), .val (.ref b163), .val (.long k4), .second, .unset, .unset, .unset, .unset] [(.int (0 : Int32))])) := by have z := (gcT p312 st313); rw [gv0] at z; exact z
                        obtain ⟨u1, hu1a, hK1, hP1, hu1b⟩ := own_Tb.get own_home_lt TB188 n1' (p := (1 : Int32)) (by simp [d01, (Ne.symm d01), d02, (Ne.symm d02), d03, (Ne.symm d03), d04, (Ne.symm d04), d12, (Ne.symm d12), d13, (Ne.symm d13), d14, (Ne.symm d14), d23, (Ne.symm d23), d24, (Ne.symm d24), d34, (Ne.symm d34)])
                        have gv1 : own_gv ks188 ps188 k1 u1 = (1 : Int32) := by simp [own_gv, hK1, hP1]
                        have p315 : Go p.tables e below _ (T313.setTop (mkF m 237 #[.val (.long q1), .second, .val (.long q2), .second, .val (.long q3), .second, .val (.long q4), .second, .val (.long q5), .second, .val (.int p6), .val (.long k0), .second, .val (.long k1), .second, .val (.long k2), .second, .val (.long k3), .second, .val (.long k4), .second, .val (.int (4 : Int32)), .val (.ref b163), .val (.long k4), .second, .val (.int (0 : Int32)), .unset, .unset, .unset] [(.long k1), (.ref b163)])) := fun t_ k_ => p314 t_ (by
                          refine XS.istore X313.here hx rfl (hb hby at_231) rfl (l' := #[.val (.long q1), .second, .val (.long q2), .second, .val (.long q3), .second, .val (.long q4), .second, .val (.long q5), .second, .val (.int p6), .val (.long k0), .second, .val (.long k1), .second, .val (.long k2), .second, .val (.long k3), .second, .val (.long k4), .second, .val (.int (4 : Int32)), .val (.ref b163), .val (.long k4), .second, .val (.int (0 : Int32)), .unset, .unset, .unset]) rfl ?_
                          refine XS.aload X313.here hx rfl (hb hby at_233) rfl rfl ?_
                          refine XS.lload X313.here hx rfl (hb hby at_235) rfl ?_
                          exact k_)
                        obtain ⟨cq316, kq316, q316a, q316b, q316c⟩ := isOf hZ q313_hh q186_E
                        obtain ⟨_, _, ⟨T316, L316, k316, n316⟩, -, X316, ⟨Lc316, hQ316, l316, y316, z316⟩, st316⟩ := X313.virtualBack hx (y := (⟨"com/example/subsume/subsume/reasoner/Positions", "get", "(J)I"⟩ : MethodName)) (z := (⟨"com/example/subsume/subsume/reasoner/Positions", "get", "(J)I"⟩ : MethodName)) hown (mvT hZ (own_w hw 47 rfl)) (mvT hZ (own_w hw 48 rfl)) (notFace_of_selects (args := #[]) (mvT hZ (own_w hw 50 rfl))) (mvT hZ (own_w hw 50 rfl)) (mvT hZ (own_w hw 49 rfl)) (by decide) (backOf (W := 0) (rm9 l Z a0 hw [] b163 k1 x167 x168 ks188 x169 x170 ps188 u1 T186.heap n0 (Nat.le_trans Z0 K187.1) q186_k q186_p q186_E vk188 vp188 hu1b (Or.inl hK1)) hZ (own_w hw 51 rfl) (own_w hw 4 rfl) (by decide) (by decide)) q316a q316c (g := (mkF m 237 #[.val (.long q1), .second, .val (.long q2), .second, .val (.long q3), .second, .val (.long q4), .second, .val (.long q5), .second, .val (.int p6), .val (.long k0), .second, .val (.long k1), .second, .val (.long k2), .second, .val (.long k3), .second, .val (.long k4), .second, .val (.int (4 : Int32)), .val (.ref b163), .val (.long k4), .second, .val (.int (0 : Int32)), .unset, .unset, .unset] [(.long k1), (.ref b163)])) rfl (by rw [hml]; rfl) (Steps.refl _) (argsL := [(.long k1)]) (rest := []) (lenOf pd1 rfl) rfl (by show 2 * 0 + _ ≤ _; exact Nat.le_of_eq rfl) (hb hby at_237) (fun _ _ => ⟨rfl, q313_hh, (by decide : 3 + 0 ≤ _), (by decide : 35 + 0 ≤ _)⟩)
                        dsimp only [Pt.U, Pt.locs, Pt.cells, Pt.slots] at X316 l316 y316 z316 st316 hQ316
                        subst l316 y316 z316
                        obtain ⟨rfl, N316q, q316_hh⟩ := hQ316
                        have N316 := Fr.app N313 N316q
                        have p317 : Go p.tables e below (s₁.setTop (entryFrame m #[(.long q1), (.long q2), (.long q3), (.long q4), (.long q5), (.int p6)] maxLocals)) (T316.setTop (mkF m 240 #[.val (.long q1), .second, .val (.long q2), .second, .val (.long q3), .second, .val (.long q4), .second, .val (.long q5), .second, .val (.int p6), .val (.long k0), .second, .val (.long k1), .second, .val (.long k2), .second, .val (.long k3), .second, .val (.long k4), .second, .val (.int (4 : Int32)), .val (.ref b163), .val (.long k4), .second, .val (.int (0 : Int32)), .unset, .unset, .unset] [(.int (1 : Int32))])) := by have z := (gcT p315 st316); rw [gv1] at z; exact z
                        obtain ⟨u2, hu2a, hK2, hP2, hu2b⟩ := own_Tb.get own_home_lt TB188 n2' (p := (2 : Int32)) (by simp [d01, (Ne.symm d01), d02, (Ne.symm d02), d03, (Ne.symm d03), d04, (Ne.symm d04), d12, (Ne.symm d12), d13, (Ne.symm d13), d14, (Ne.symm d14), d23, (Ne.symm d23), d24, (Ne.symm d24), d34, (Ne.symm d34)])
                        have gv2 : own_gv ks188 ps188 k2 u2 = (2 : Int32) := by simp [own_gv, hK2, hP2]
                        have p318 : Go p.tables e below _ (T316.setTop (mkF m 246 #[.val (.long q1), .second, .val (.long q2), .second, .val (.long q3), .second, .val (.long q4), .second, .val (.long q5), .second, .val (.int p6), .val (.long k0), .second, .val (.long k1), .second, .val (.long k2), .second, .val (.long k3), .second, .val (.long k4), .second, .val (.int (4 : Int32)), .val (.ref b163), .val (.long k4), .second, .val (.int (0 : Int32)), .val (.int (1 : Int32)), .unset, .unset] [(.long k2), (.ref b163)])) := fun t_ k_ => p317 t_ (by
                          refine XS.istore X316.here hx rfl (hb hby at_240) rfl (l' := #[.val (.long q1), .second, .val (.long q2), .second, .val (.long q3), .second, .val (.long q4), .second, .val (.long q5), .second, .val (.int p6), .val (.long k0), .second, .val (.long k1), .second, .val (.long k2), .second, .val (.long k3), .second, .val (.long k4), .second, .val (.int (4 : Int32)), .val (.ref b163), .val (.long k4), .second, .val (.int (0 : Int32)), .val (.int (1 : Int32)), .unset, .unset]) rfl ?_
                          refine XS.aload X316.here hx rfl (hb hby at_242) rfl rfl ?_
                          refine XS.lload X316.here hx rfl (hb hby at_244) rfl ?_
                          exact k_)
                        obtain ⟨cq319, kq319, q319a, q319b, q319c⟩ := isOf hZ q316_hh q186_E
                        obtain ⟨_, _, ⟨T319, L319, k319, n319⟩, -, X319, ⟨Lc319, hQ319, l319, y319, z319⟩, st319⟩ := X316.virtualBack hx (y := (⟨"com/example/subsume/subsume/reasoner/Positions", "get", "(J)I"⟩ : MethodName)) (z := (⟨"com/example/subsume/subsume/reasoner/Positions", "get", "(J)I"⟩ : MethodName)) hown (mvT hZ (own_w hw 47 rfl)) (mvT hZ (own_w hw 48 rfl)) (notFace_of_selects (args := #[]) (mvT hZ (own_w hw 50 rfl))) (mvT hZ (own_w hw 50 rfl)) (mvT hZ (own_w hw 49 rfl)) (by decide) (backOf (W := 0) (rm9 l Z a0 hw [] b163 k2 x167 x168 ks188 x169 x170 ps188 u2 T186.heap n0 (Nat.le_trans Z0 K187.1) q186_k q186_p q186_E vk188 vp188 hu2b (Or.inl hK2)) hZ (own_w hw 51 rfl) (own_w hw 4 rfl) (by decide) (by decide)) q319a q319c (g := (mkF m 246 #[.val (.long q1), .second, .val (.long q2), .second, .val (.long q3), .second, .val (.long q4), .second, .val (.long q5), .second, .val (.int p6), .val (.long k0), .second, .val (.long k1), .second, .val (.long k2), .second, .val (.long k3), .second, .val (.long k4), .second, .val (.int (4 : Int32)), .val (.ref b163), .val (.long k4), .second, .val (.int (0 : Int32)), .val (.int (1 : Int32)), .unset, .unset] [(.long k2), (.ref b163)])) rfl (by rw [hml]; rfl) (Steps.refl _) (argsL := [(.long k2)]) (rest := []) (lenOf pd1 rfl) rfl (by show 2 * 0 + _ ≤ _; exact Nat.le_of_eq rfl) (hb hby at_246) (fun _ _ => ⟨rfl, q316_hh, (by decide : 3 + 0 ≤ _), (by decide : 35 + 0 ≤ _)⟩)
                        dsimp only [Pt.U, Pt.locs, Pt.cells, Pt.slots] at X319 l319 y319 z319 st319 hQ319
                        subst l319 y319 z319
                        obtain ⟨rfl, N319q, q319_hh⟩ := hQ319
                        have N319 := Fr.app N316 N319q
                        have p320 : Go p.tables e below (s₁.setTop (entryFrame m #[(.long q1), (.long q2), (.long q3), (.long q4), (.long q5), (.int p6)] maxLocals)) (T319.setTop (mkF m 249 #[.val (.long q1), .second, .val (.long q2), .second, .val (.long q3), .second, .val (.long q4), .second, .val (.long q5), .second, .val (.int p6), .val (.long k0), .second, .val (.long k1), .second, .val (.long k2), .second, .val (.long k3), .second, .val (.long k4), .second, .val (.int (4 : Int32)), .val (.ref b163), .val (.long k4), .second, .val (.int (0 : Int32)), .val (.int (1 : Int32)), .unset, .unset] [(.int (2 : Int32))])) := by have z := (gcT p318 st319); rw [gv2] at z; exact z
                        obtain ⟨u3, hu3a, hK3, hP3, hu3b⟩ := own_Tb.get own_home_lt TB188 n3' (p := (3 : Int32)) (by simp [d01, (Ne.symm d01), d02, (Ne.symm d02), d03, (Ne.symm d03), d04, (Ne.symm d04), d12, (Ne.symm d12), d13, (Ne.symm d13), d14, (Ne.symm d14), d23, (Ne.symm d23), d24, (Ne.symm d24), d34, (Ne.symm d34)])
                        have gv3 : own_gv ks188 ps188 k3 u3 = (3 : Int32) := by simp [own_gv, hK3, hP3]
                        have p321 : Go p.tables e below _ (T319.setTop (mkF m 255 #[.val (.long q1), .second, .val (.long q2), .second, .val (.long q3), .second, .val (.long q4), .second, .val (.long q5), .second, .val (.int p6), .val (.long k0), .second, .val (.long k1), .second, .val (.long k2), .second, .val (.long k3), .second, .val (.long k4), .second, .val (.int (4 : Int32)), .val (.ref b163), .val (.long k4), .second, .val (.int (0 : Int32)), .val (.int (1 : Int32)), .val (.int (2 : Int32)), .unset] [(.long k3), (.ref b163)])) := fun t_ k_ => p320 t_ (by
                          refine XS.istore X319.here hx rfl (hb hby at_249) rfl (l' := #[.val (.long q1), .second, .val (.long q2), .second, .val (.long q3), .second, .val (.long q4), .second, .val (.long q5), .second, .val (.int p6), .val (.long k0), .second, .val (.long k1), .second, .val (.long k2), .second, .val (.long k3), .second, .val (.long k4), .second, .val (.int (4 : Int32)), .val (.ref b163), .val (.long k4), .second, .val (.int (0 : Int32)), .val (.int (1 : Int32)), .val (.int (2 : Int32)), .unset]) rfl ?_
                          refine XS.aload X319.here hx rfl (hb hby at_251) rfl rfl ?_
                          refine XS.lload X319.here hx rfl (hb hby at_253) rfl ?_
                          exact k_)
                        obtain ⟨cq322, kq322, q322a, q322b, q322c⟩ := isOf hZ q319_hh q186_E
                        obtain ⟨_, _, ⟨T322, L322, k322, n322⟩, -, X322, ⟨Lc322, hQ322, l322, y322, z322⟩, st322⟩ := X319.virtualBack hx (y := (⟨"com/example/subsume/subsume/reasoner/Positions", "get", "(J)I"⟩ : MethodName)) (z := (⟨"com/example/subsume/subsume/reasoner/Positions", "get", "(J)I"⟩ : MethodName)) hown (mvT hZ (own_w hw 47 rfl)) (mvT hZ (own_w hw 48 rfl)) (notFace_of_selects (args := #[]) (mvT hZ (own_w hw 50 rfl))) (mvT hZ (own_w hw 50 rfl)) (mvT hZ (own_w hw 49 rfl)) (by decide) (backOf (W := 0) (rm9 l Z a0 hw [] b163 k3 x167 x168 ks188 x169 x170 ps188 u3 T186.heap n0 (Nat.le_trans Z0 K187.1) q186_k q186_p q186_E vk188 vp188 hu3b (Or.inl hK3)) hZ (own_w hw 51 rfl) (own_w hw 4 rfl) (by decide) (by decide)) q322a q322c (g := (mkF m 255 #[.val (.long q1), .second, .val (.long q2), .second, .val (.long q3), .second, .val (.long q4), .second, .val (.long q5), .second, .val (.int p6), .val (.long k0), .second, .val (.long k1), .second, .val (.long k2), .second, .val (.long k3), .second, .val (.long k4), .second, .val (.int (4 : Int32)), .val (.ref b163), .val (.long k4), .second, .val (.int (0 : Int32)), .val (.int (1 : Int32)), .val (.int (2 : Int32)), .unset] [(.long k3), (.ref b163)])) rfl (by rw [hml]; rfl) (Steps.refl _) (argsL := [(.long k3)]) (rest := []) (lenOf pd1 rfl) rfl (by show 2 * 0 + _ ≤ _; exact Nat.le_of_eq rfl) (hb hby at_255) (fun _ _ => ⟨rfl, q319_hh, (by decide : 3 + 0 ≤ _), (by decide : 35 + 0 ≤ _)⟩)
                        dsimp only [Pt.U, Pt.locs, Pt.cells, Pt.slots] at X322 l322 y322 z322 st322 hQ322
                        subst l322 y322 z322
                        obtain ⟨rfl, N322q, q322_hh⟩ := hQ322
                        have N322 := Fr.app N319 N322q
                        have p323 : Go p.tables e below (s₁.setTop (entryFrame m #[(.long q1), (.long q2), (.long q3), (.long q4), (.long q5), (.int p6)] maxLocals)) (T322.setTop (mkF m 258 #[.val (.long q1), .second, .val (.long q2), .second, .val (.long q3), .second, .val (.long q4), .second, .val (.long q5), .second, .val (.int p6), .val (.long k0), .second, .val (.long k1), .second, .val (.long k2), .second, .val (.long k3), .second, .val (.long k4), .second, .val (.int (4 : Int32)), .val (.ref b163), .val (.long k4), .second, .val (.int (0 : Int32)), .val (.int (1 : Int32)), .val (.int (2 : Int32)), .unset] [(.int (3 : Int32))])) := by have z := (gcT p321 st322); rw [gv3] at z; exact z
                        have p324 : Go p.tables e below _ (T322.setTop (mkF m 265 #[.val (.long q1), .second, .val (.long q2), .second, .val (.long q3), .second, .val (.long q4), .second, .val (.long q5), .second, .val (.int p6), .val (.long k0), .second, .val (.long k1), .second, .val (.long k2), .second, .val (.long k3), .second, .val (.long k4), .second, .val (.int (4 : Int32)), .val (.ref b163), .val (.long k4), .second, .val (.int (0 : Int32)), .val (.int (1 : Int32)), .val (.int (2 : Int32)), .val (.int (3 : Int32))] [(.int (4 : Int32)), (.int (0 : Int32)), (.int (0 : Int32))])) := fun t_ k_ => p323 t_ (by
                          refine XS.istore X322.here hx rfl (hb hby at_258) rfl (l' := #[.val (.long q1), .second, .val (.long q2), .second, .val (.long q3), .second, .val (.long q4), .second, .val (.long q5), .second, .val (.int p6), .val (.long k0), .second, .val (.long k1), .second, .val (.long k2), .second, .val (.long k3), .second, .val (.long k4), .second, .val (.int (4 : Int32)), .val (.ref b163), .val (.long k4), .second, .val (.int (0 : Int32)), .val (.int (1 : Int32)), .val (.int (2 : Int32)), .val (.int (3 : Int32))]) rfl ?_
                          refine XS.iload X322.here hx rfl (hb hby at_260) rfl ?_
                          refine XS.iconst X322.here hx rfl (hb hby at_262) ?_
                          refine XS.iload X322.here hx rfl (hb hby at_263) rfl ?_
                          exact k_)
                        obtain ⟨_, _, ⟨T325, L325, k325, n325⟩, -, X325, ⟨Lc325, hQ325, l325, y325, z325⟩, st325⟩ := Jvm.LawKit.callS X322 hx (y := (⟨"com/example/subsume/subsume/reasoner/PositionsRemovePinLaw", "ok", "(III)Z"⟩ : MethodName)) hown (mvT hZ (own_w hw 52 rfl)) (mvT hZ (own_w hw 53 rfl)) (mvT hZ (own_w hw 54 rfl)) (mvT hZ (own_w hw 55 rfl)) (by decide) (backOf (W := 0) (rm10 l Z a0 hw [] (0 : Int32) (0 : Int32) (4 : Int32) T186.heap n0 (Nat.le_trans Z0 K187.1) ) hZ (own_w hw 55 rfl) (own_w hw 54 rfl) (by decide) (by decide)) (g := (mkF m 265 #[.val (.long q1), .second, .val (.long q2), .second, .val (.long q3), .second, .val (.long q4), .second, .val (.long q5), .second, .val (.int p6), .val (.long k0), .second, .val (.long k1), .second, .val (.long k2), .second, .val (.long k3), .second, .val (.long k4), .second, .val (.int (4 : Int32)), .val (.ref b163), .val (.long k4), .second, .val (.int (0 : Int32)), .val (.int (1 : Int32)), .val (.int (2 : Int32)), .val (.int (3 : Int32))] [(.int (4 : Int32)), (.int (0 : Int32)), (.int (0 : Int32))])) rfl (by rw [hml]; rfl) (argsL := [(.int (0 : Int32)), (.int (0 : Int32)), (.int (4 : Int32))]) (rest := []) (lenOf pd7 rfl) rfl (by show 2 * 0 + _ ≤ _; exact Nat.le_of_eq rfl) (hb hby at_265) (fun _ _ => ⟨rfl, q322_hh, (by decide : 3 + 0 ≤ _), (by decide : 35 + 0 ≤ _)⟩)
                        dsimp only [Pt.U, Pt.locs, Pt.cells, Pt.slots] at X325 l325 y325 z325 st325 hQ325
                        subst l325 y325 z325
                        obtain ⟨rfl, N325q, q325_hh⟩ := hQ325
                        have N325 := Fr.app N322 N325q
                        have c326 : ¬ ((own_okv (0 : Int32) (0 : Int32) (4 : Int32)) = (0 : Int32)) := by decide
                        have p327 : Go p.tables e below _ (T325.setTop (mkF m 276 #[.val (.long q1), .second, .val (.long q2), .second, .val (.long q3), .second, .val (.long q4), .second, .val (.long q5), .second, .val (.int p6), .val (.long k0), .second, .val (.long k1), .second, .val (.long k2), .second, .val (.long k3), .second, .val (.long k4), .second, .val (.int (4 : Int32)), .val (.ref b163), .val (.long k4), .second, .val (.int (0 : Int32)), .val (.int (1 : Int32)), .val (.int (2 : Int32)), .val (.int (3 : Int32))] [(.int (4 : Int32)), (.int (1 : Int32)), (.int (1 : Int32))])) := fun t_ k_ => (gc p324 st325) t_ (by
                          refine XS.ifNo X325.here hx rfl (hb hby at_268) rfl ((if0 _ _).trans (feq c326).1) ?_
                          refine XS.iload X325.here hx rfl (hb hby at_271) rfl ?_
                          refine XS.iconst X325.here hx rfl (hb hby at_273) ?_
                          refine XS.iload X325.here hx rfl (hb hby at_274) rfl ?_
                          exact k_)
                        obtain ⟨_, _, ⟨T328, L328, k328, n328⟩, -, X328, ⟨Lc328, hQ328, l328, y328, z328⟩, st328⟩ := Jvm.LawKit.callS X325 hx (y := (⟨"com/example/subsume/subsume/reasoner/PositionsRemovePinLaw", "ok", "(III)Z"⟩ : MethodName)) hown (mvT hZ (own_w hw 52 rfl)) (mvT hZ (own_w hw 53 rfl)) (mvT hZ (own_w hw 54 rfl)) (mvT hZ (own_w hw 55 rfl)) (by decide) (backOf (W := 0) (rm10 l Z a0 hw [] (1 : Int32) (1 : Int32) (4 : Int32) T186.heap n0 (Nat.le_trans Z0 K187.1) ) hZ (own_w hw 55 rfl) (own_w hw 54 rfl) (by decide) (by decide)) (g := (mkF m 276 #[.val (.long q1), .second, .val (.long q2), .second, .val (.long q3), .second, .val (.long q4), .second, .val (.long q5), .second, .val (.int p6), .val (.long k0), .second, .val (.long k1), .second, .val (.long k2), .second, .val (.long k3), .second, .val (.long k4), .second, .val (.int (4 : Int32)), .val (.ref b163), .val (.long k4), .second, .val (.int (0 : Int32)), .val (.int (1 : Int32)), .val (.int (2 : Int32)), .val (.int (3 : Int32))] [(.int (4 : Int32)), (.int (1 : Int32)), (.int (1 : Int32))])) rfl (by rw [hml]; rfl) (argsL := [(.int (1 : Int32)), (.int (1 : Int32)), (.int (4 : Int32))]) (rest := []) (lenOf pd7 rfl) rfl (by show 2 * 0 + _ ≤ _; exact Nat.le_of_eq rfl) (hb hby at_276) (fun _ _ => ⟨rfl, q325_hh, (by decide : 3 + 0 ≤ _), (by decide : 35 + 0 ≤ _)⟩)
                        dsimp only [Pt.U, Pt.locs, Pt.cells, Pt.slots] at X328 l328 y328 z328 st328 hQ328
                        subst l328 y328 z328
                        obtain ⟨rfl, N328q, q328_hh⟩ := hQ328
                        have N328 := Fr.app N325 N328q
                        have c329 : ¬ ((own_okv (1 : Int32) (1 : Int32) (4 : Int32)) = (0 : Int32)) := by decide
                        have p330 : Go p.tables e below _ (T328.setTop (mkF m 287 #[.val (.long q1), .second, .val (.long q2), .second, .val (.long q3), .second, .val (.long q4), .second, .val (.long q5), .second, .val (.int p6), .val (.long k0), .second, .val (.long k1), .second, .val (.long k2), .second, .val (.long k3), .second, .val (.long k4), .second, .val (.int (4 : Int32)), .val (.ref b163), .val (.long k4), .second, .val (.int (0 : Int32)), .val (.int (1 : Int32)), .val (.int (2 : Int32)), .val (.int (3 : Int32))] [(.int (4 : Int32)), (.int (2 : Int32)), (.int (2 : Int32))])) := fun t_ k_ => (gc p327 st328) t_ (by
                          refine XS.ifNo X328.here hx rfl (hb hby at_279) rfl ((if0 _ _).trans (feq c329).1) ?_
                          refine XS.iload X328.here hx rfl (hb hby at_282) rfl ?_
                          refine XS.iconst X328.here hx rfl (hb hby at_284) ?_
                          refine XS.iload X328.here hx rfl (hb hby at_285) rfl ?_
                          exact k_)
                        obtain ⟨_, _, ⟨T331, L331, k331, n331⟩, -, X331, ⟨Lc331, hQ331, l331, y331, z331⟩, st331⟩ := Jvm.LawKit.callS X328 hx (y := (⟨"com/example/subsume/subsume/reasoner/PositionsRemovePinLaw", "ok", "(III)Z"⟩ : MethodName)) hown (mvT hZ (own_w hw 52 rfl)) (mvT hZ (own_w hw 53 rfl)) (mvT hZ (own_w hw 54 rfl)) (mvT hZ (own_w hw 55 rfl)) (by decide) (backOf (W := 0) (rm10 l Z a0 hw [] (2 : Int32) (2 : Int32) (4 : Int32) T186.heap n0 (Nat.le_trans Z0 K187.1) ) hZ (own_w hw 55 rfl) (own_w hw 54 rfl) (by decide) (by decide)) (g := (mkF m 287 #[.val (.long q1), .second, .val (.long q2), .second, .val (.long q3), .second, .val (.long q4), .second, .val (.long q5), .second, .val (.int p6), .val (.long k0), .second, .val (.long k1), .second, .val (.long k2), .second, .val (.long k3), .second, .val (.long k4), .second, .val (.int (4 : Int32)), .val (.ref b163), .val (.long k4), .second, .val (.int (0 : Int32)), .val (.int (1 : Int32)), .val (.int (2 : Int32)), .val (.int (3 : Int32))] [(.int (4 : Int32)), (.int (2 : Int32)), (.int (2 : Int32))])) rfl (by rw [hml]; rfl) (argsL := [(.int (2 : Int32)), (.int (2 : Int32)), (.int (4 : Int32))]) (rest := []) (lenOf pd7 rfl) rfl (by show 2 * 0 + _ ≤ _; exact Nat.le_of_eq rfl) (hb hby at_287) (fun _ _ => ⟨rfl, q328_hh, (by decide : 3 + 0 ≤ _), (by decide : 35 + 0 ≤ _)⟩)
                        dsimp only [Pt.U, Pt.locs, Pt.cells, Pt.slots] at X331 l331 y331 z331 st331 hQ331
                        subst l331 y331 z331
                        obtain ⟨rfl, N331q, q331_hh⟩ := hQ331
                        have N331 := Fr.app N328 N331q
                        have c332 : ¬ ((own_okv (2 : Int32) (2 : Int32) (4 : Int32)) = (0 : Int32)) := by decide
                        have p333 : Go p.tables e below _ (T331.setTop (mkF m 298 #[.val (.long q1), .second, .val (.long q2), .second, .val (.long q3), .second, .val (.long q4), .second, .val (.long q5), .second, .val (.int p6), .val (.long k0), .second, .val (.long k1), .second, .val (.long k2), .second, .val (.long k3), .second, .val (.long k4), .second, .val (.int (4 : Int32)), .val (.ref b163), .val (.long k4), .second, .val (.int (0 : Int32)), .val (.int (1 : Int32)), .val (.int (2 : Int32)), .val (.int (3 : Int32))] [(.int (4 : Int32)), (.int (3 : Int32)), (.int (3 : Int32))])) := fun t_ k_ => (gc p330 st331) t_ (by
                          refine XS.ifNo X331.here hx rfl (hb hby at_290) rfl ((if0 _ _).trans (feq c332).1) ?_
                          refine XS.iload X331.here hx rfl (hb hby at_293) rfl ?_
                          refine XS.iconst X331.here hx rfl (hb hby at_295) ?_
                          refine XS.iload X331.here hx rfl (hb hby at_296) rfl ?_
                          exact k_)
                        obtain ⟨_, _, ⟨T334, L334, k334, n334⟩, -, X334, ⟨Lc334, hQ334, l334, y334, z334⟩, st334⟩ := Jvm.LawKit.callS X331 hx (y := (⟨"com/example/subsume/subsume/reasoner/PositionsRemovePinLaw", "ok", "(III)Z"⟩ : MethodName)) hown (mvT hZ (own_w hw 52 rfl)) (mvT hZ (own_w hw 53 rfl)) (mvT hZ (own_w hw 54 rfl)) (mvT hZ (own_w hw 55 rfl)) (by decide) (backOf (W := 0) (rm10 l Z a0 hw [] (3 : Int32) (3 : Int32) (4 : Int32) T186.heap n0 (Nat.le_trans Z0 K187.1) ) hZ (own_w hw 55 rfl) (own_w hw 54 rfl) (by decide) (by decide)) (g := (mkF m 298 #[.val (.long q1), .second, .val (.long q2), .second, .val (.long q3), .second, .val (.long q4), .second, .val (.long q5), .second, .val (.int p6), .val (.long k0), .second, .val (.long k1), .second, .val (.long k2), .second, .val (.long k3), .second, .val (.long k4), .second, .val (.int (4 : Int32)), .val (.ref b163), .val (.long k4), .second, .val (.int (0 : Int32)), .val (.int (1 : Int32)), .val (.int (2 : Int32)), .val (.int (3 : Int32))] [(.int (4 : Int32)), (.int (3 : Int32)), (.int (3 : Int32))])) rfl (by rw [hml]; rfl) (argsL := [(.int (3 : Int32)), (.int (3 : Int32)), (.int (4 : Int32))]) (rest := []) (lenOf pd7 rfl) rfl (by show 2 * 0 + _ ≤ _; exact Nat.le_of_eq rfl) (hb hby at_298) (fun _ _ => ⟨rfl, q331_hh, (by decide : 3 + 0 ≤ _), (by decide : 35 + 0 ≤ _)⟩)
                        dsimp only [Pt.U, Pt.locs, Pt.cells, Pt.slots] at X334 l334 y334 z334 st334 hQ334
                        subst l334 y334 z334
                        obtain ⟨rfl, N334q, q334_hh⟩ := hQ334
                        have N334 := Fr.app N331 N334q
                        have c335 : ¬ ((own_okv (3 : Int32) (3 : Int32) (4 : Int32)) = (0 : Int32)) := by decide
                        have p336 : Go p.tables e below _ (T334.setTop (mkF m 309 #[.val (.long q1), .second, .val (.long q2), .second, .val (.long q3), .second, .val (.long q4), .second, .val (.long q5), .second, .val (.int p6), .val (.long k0), .second, .val (.long k1), .second, .val (.long k2), .second, .val (.long k3), .second, .val (.long k4), .second, .val (.int (4 : Int32)), .val (.ref b163), .val (.long k4), .second, .val (.int (0 : Int32)), .val (.int (1 : Int32)), .val (.int (2 : Int32)), .val (.int (3 : Int32))] [(.int (1 : Int32))])) := fun t_ k_ => (gc p333 st334) t_ (by
                          refine XS.ifNo X334.here hx rfl (hb hby at_301) rfl ((if0 _ _).trans (feq c335).1) ?_
                          refine XS.iconst X334.here hx rfl (hb hby at_304) ?_
                          refine XS.goto X334.here hx rfl (pc0 := 305) (pc' := 309) rfl (hb hby at_305) (by decide) (by decide) ?_
                          exact k_)
                        obtain ⟨fs, hr, hrun, hended, hW, hsame⟩ := X334.leave (v := some (.int (1 : Int32))) (fun h => by rw [Bd.returns] at h; cases h)
                        refine ⟨_, _, p336 _ (retN X334 hx (t := .boolean) Bd.returns (by simp) (hb hby at_309) hr), hrun, hended, _, _, rfl, ?_, ⟨_, rfl⟩, hW, hsame.mono (by decide) (by decide)⟩
                        show Q0 Z q1 q2 q3 q4 q5 p6 h0 n0 _ T334.heap _
                        rw [q334_hh]
                        exact ⟨rfl, N334⟩
set_option maxRecDepth 65536 in
set_option maxHeartbeats 40000000 in
theorem comes_1 {Post : Tables → Env → Array Value → State → Outcome → State → Prop} (hpost : ∀ tb e args s v u, (limb_1_1.after args s (.returned v) u = true ∧ limb_1_2.after args s (.returned v) u = true ∧ True) → FrameEnd s (.returned v) u (Jvm.fieldLocs frame_1_writes args s ++ Jvm.arrayLocs frame_1_arrays args s ++ Jvm.staticLocs frame_1_statics s) 16 192 → Post tb e args s (.returned v) u) :
    ArmFor flags0 classFile x code maxLocals ret World_1 tables_1 room_1 Calls_1 rest_1 Pre_1 Post := by
  intro l hfl _ _ p e ha hc hk s m args below hf hA hF happ hP
  obtain ⟨hcalls, hrest, hpre⟩ := hP
  obtain ⟨-, -, -, hnamed, -, -, -, hat⟩ := (Spec.applies_iff hf).mp happ
  obtain ⟨hg, hn⟩ := and_e (Cond.before_iff.mp (show (Jvm.Cond.and given_1 narrow_1).before args s = true from hpre))
  obtain ⟨ga, gb0⟩ := and_e hg
  obtain ⟨gi0, gb1⟩ := and_e gb0
  obtain ⟨gi1, gb2⟩ := and_e gb1
  obtain ⟨gi2, gb3⟩ := and_e gb2
  obtain ⟨gi3, gb4⟩ := and_e gb3
  obtain ⟨gi4, gb5⟩ := and_e gb4
  have gi5 := gb5
  obtain ⟨w0, w1, w2, w3, w4, w5, rfl⟩ : ∃ w0 w1 w2 w3 w4 w5 : Value, args = #[w0, w1, w2, w3, w4, w5] := by
    have hs : args.size = 6 := by simpa [Cond.value, given_1] using ga
    obtain ⟨L⟩ := args
    match L, hs with
    | [w0, w1, w2, w3, w4, w5], _ => exact ⟨w0, w1, w2, w3, w4, w5, rfl⟩
  have hw := fun d (hd : d ∈ tables_1) => atoms_spec (ws := Jvm.Cond.code x code maxLocals ret :: tables_1) hat d (List.mem_cons_of_mem _ hd)
  have hfit : Fit s := fun {y c} hc i hi => by
    obtain ⟨ha, rfl⟩ := Array.getElem?_eq_some_iff.mp hc
    have q := List.all_eq_true.mp ((Array.all_eq_true_iff_forall_mem.mp hF) _ (Array.getElem_mem ha)) i (List.mem_range.mpr hi)
    simpa [Array.getElem?_eq_getElem hi] using q
  obtain ⟨i0, ei0⟩ := isL_v gi0
  obtain rfl : w0 = (.long i0) := Option.some.inj ei0
  obtain ⟨i1, ei1⟩ := isL_v gi1
  obtain rfl : w1 = (.long i1) := Option.some.inj ei1
  obtain ⟨i2, ei2⟩ := isL_v gi2
  obtain rfl : w2 = (.long i2) := Option.some.inj ei2
  obtain ⟨i3, ei3⟩ := isL_v gi3
  obtain rfl : w3 = (.long i3) := Option.some.inj ei3
  obtain ⟨i4, ei4⟩ := isL_v gi4
  obtain rfl : w4 = (.long i4) := Option.some.inj ei4
  obtain ⟨i5, ei5⟩ := is_v gi5
  obtain rfl : w5 = (.int i5) := Option.some.inj ei5
  obtain ⟨n, o, h1, h2, h3, _, L, rfl, ⟨rfl, N⟩, hq⟩ := rm0 l s _ hw tables_1 i0 i1 i2 i3 i4 i5 s.heap s.heap.size (Nat.le_refl _) p e ha hc hk s m _ below hf ((Spec.applies_iff_loose hf).mp happ).1 ⟨rfl, State.Warmed39.refl s, rfl⟩ trivial
  refine ⟨n, _, h1, h2, h3, hpost _ _ _ _ _ _ ⟨Cond.after_iff.mpr rfl, Cond.after_iff.mpr (eq_i res_at (Term.int_eval (1)) rfl), trivial⟩ ⟨hq.1, hq.2.1, (hq.2.2.sift fun y hy => Or.inr (N y hy)).mono (by decide) (by decide)⟩⟩
theorem main_1_1 : Claimed_1_1 := comes_1 fun _ _ _ _ _ _ h hF => ⟨h.1, hF⟩
theorem main_1_2 : Claimed_1_2 := comes_1 fun _ _ _ _ _ _ h hF => ⟨h.2.1, hF⟩
end Jvm.Pilot.@@N@@
namespace Jvm.Pilot.@@N@@
open Jvm Jvm.ClassFile Sem Op Lib Jvm.Free Jvm.Stand Jvm.Pilot.@@N@@.Jvm.D
/-! MADE BY PROGRAM (witnessworld.py) out of the Statement's table words and the real class files: 17 classes; the members and pool entries that the words name. The judged class is class 1, her method 2. -/
namespace start1
open Jvm.ClassFile
def u (s : String) : CpInfo := .utf8 (stringToUtf16 s)
/-- a pool by its gaps: so many unusable entries, then the entry; so many at the end -/
def gap : Nat → List CpInfo → List CpInfo
  | 0, r => r
  | n + 1, r => .unusable :: gap n r
def poolList (es : List (Nat × CpInfo)) (last : Nat) : List CpInfo := es.foldr (fun e r => gap e.1 (e.2 :: r)) (gap last [])
def pool (es : List (Nat × CpInfo)) (last : Nat) : Array CpInfo := ⟨poolList es last⟩
def fileOf (pool : Array CpInfo) (this : Nat) (attrs : Array Attribute := #[]) (ms : Array MethodInfo := #[]) (fl : Nat := 33) (sup : Nat := 0) (ifs : Array Nat := #[]) (fds : Array FieldInfo := #[]) : ClassFile where
  minorVersion := 0
  majorVersion := 65
  constantPool := pool
  accessFlags := fl
  thisClass := this
  superClass := sup
  interfaces := ifs
  fields := fds
  methods := ms
  attributes := attrs
def plain (name : String) (sup : Option ClassId) : Class where
  name := name
  kind := .ordinary
  loader := none
  accessFlags := 33
  super := sup
  interfaces := #[]
  cf := none
  fields := #[]
  methods := #[]
  instanceTypes := #[]
  staticTypes := #[]
  resolved := #[]
  callSites := []
  init := .initialized
  statics := none
  mirror := none

def pool0 : Array CpInfo := pool [(5, u "<init>"), (0, u "()V"), (1, .class_ 10), (1, u "java/lang/Object")] 113

def k0c0 : Code := { maxStack := 0, maxLocals := 1, code := object_method_1_code, exceptionTable := #[], attributes := #[] }
def k0m0 : Method := { name := "<init>", desc := "()V", sig := { parameters := [], returnType := none }, accessFlags := 1, code := some k0c0 }
/-- java/lang/Object -/
def k0 : Class := { plain "java/lang/Object" none with
  accessFlags := 33
  interfaces := #[]
  cf := some (fileOf pool0 8 #[] #[{ accessFlags := 1, nameIndex := 5, descriptorIndex := 6, attributes := #[] }] 33 0 #[] #[])
  fields := #[]
  methods := #[k0m0]
  instanceTypes := #[]
  staticTypes := #[]
  resolved := Array.replicate 124 none
  statics := none }

def pool1 : Array CpInfo := pool [(2, .class_ 4), (0, .nameAndType 5 6), (0, u "java/lang/Object"), (0, u "<init>"), (0, u "()V"), (2, .long 9223372036854775807), (1, .integer 2147483647), (0, .class_ 13), (0, u "com/example/subsume/subsume/reasoner/Positions"), (0, .methodref 12 3), (0, .methodref 12 16), (0, .nameAndType 17 18), (0, u "put"), (0, u "(JI)V"), (0, .methodref 12 20), (0, .nameAndType 21 22), (0, u "remove"), (0, u "(J)V"), (0, .methodref 12 24), (0, .nameAndType 25 26), (0, u "get"), (0, u "(J)I"), (0, .methodref 28 29), (0, .class_ 30), (0, .nameAndType 31 32), (0, u "com/example/subsume/subsume/reasoner/PositionsRemovePinLaw"), (0, u "ok"), (0, u "(III)Z"), (3, u "law"), (0, u "(JJJJJI)Z")] 2

def k1m0 : Method := { name := "<init>", desc := "()V", sig := { parameters := [], returnType := none }, accessFlags := 1, code := none }
def k1c1 : Code := { maxStack := 2, maxLocals := 3, code := method_2_code, exceptionTable := #[], attributes := #[] }
def k1m1 : Method := { name := "ok", desc := "(III)Z", sig := { parameters := [.int, .int, .int], returnType := some .boolean }, accessFlags := 10, code := some k1c1 }
def k1c2 : Code := { maxStack := 4, maxLocals := 29, code := code, exceptionTable := #[], attributes := #[] }
def k1m2 : Method := { name := "law", desc := "(JJJJJI)Z", sig := { parameters := [.long, .long, .long, .long, .long, .int], returnType := some .boolean }, accessFlags := 9, code := some k1c2 }
/-- com/example/subsume/subsume/reasoner/PositionsRemovePinLaw -/
def k1 : Class := { plain "com/example/subsume/subsume/reasoner/PositionsRemovePinLaw" (some 0) with
  accessFlags := 49
  interfaces := #[]
  cf := some (fileOf pool1 28 #[] #[{ accessFlags := 1, nameIndex := 5, descriptorIndex := 6, attributes := #[] }, { accessFlags := 10, nameIndex := 31, descriptorIndex := 32, attributes := #[] }, { accessFlags := 9, nameIndex := 36, descriptorIndex := 37, attributes := #[] }] 49 2 #[] #[])
  fields := #[]
  methods := #[k1m0, k1m1, k1m2]
  instanceTypes := #[]
  staticTypes := #[]
  resolved := Array.replicate 40 none
  statics := none }

def pool2 : Array CpInfo := pool [(1, .methodref 2 3), (0, .class_ 4), (0, .nameAndType 5 6), (0, u "java/lang/Object"), (0, u "<init>"), (0, u "()V"), (0, .methodref 8 9), (0, .class_ 10), (0, .nameAndType 11 12), (0, u "com/example/subsume/subsume/reasoner/Positions"), (0, u "newKeys"), (0, u "(I)[J"), (0, .fieldref 8 14), (0, .nameAndType 15 16), (0, u "keys"), (0, u "[J"), (0, .fieldref 8 18), (0, .nameAndType 19 20), (0, u "positions"), (0, u "[I"), (0, .methodref 8 22), (0, .nameAndType 23 24), (0, u "slot"), (0, u "(J)I"), (0, .long 18446744073709551615), (1, .methodref 8 28), (0, .nameAndType 29 30), (0, u "next"), (0, u "(I)I"), (2, u "get"), (0, .fieldref 8 35), (0, .nameAndType 36 37), (0, u "size"), (0, u "I"), (5, u "put"), (0, u "(JI)V"), (0, .long 11400714819323198485), (3, .methodref 50 51), (0, .class_ 52), (0, .nameAndType 53 30), (0, u "java/lang/Integer"), (0, u "numberOfTrailingZeros"), (0, .methodref 55 56), (0, .class_ 57), (0, .nameAndType 58 59), (0, u "java/util/Arrays"), (0, u "fill"), (0, u "([JJ)V"), (0, u "FREE"), (0, u "J"), (6, u "remove"), (0, u "(J)V")] 4

def k2c0 : Code := { maxStack := 2, maxLocals := 1, code := prog_46_method_1_code, exceptionTable := #[], attributes := #[] }
def k2m0 : Method := { name := "<init>", desc := "()V", sig := { parameters := [], returnType := none }, accessFlags := 0, code := some k2c0 }
def k2c1 : Code := { maxStack := 4, maxLocals := 4, code := prog_46_method_2_code, exceptionTable := #[], attributes := #[] }
def k2m1 : Method := { name := "get", desc := "(J)I", sig := { parameters := [.long], returnType := some .int }, accessFlags := 0, code := some k2c1 }
def k2c2 : Code := { maxStack := 4, maxLocals := 5, code := prog_46_method_4_code, exceptionTable := #[], attributes := #[] }
def k2m2 : Method := { name := "put", desc := "(JI)V", sig := { parameters := [.long, .int], returnType := none }, accessFlags := 0, code := some k2c2 }
def k2c3 : Code := { maxStack := 4, maxLocals := 8, code := prog_46_method_5_code, exceptionTable := #[], attributes := #[] }
def k2m3 : Method := { name := "remove", desc := "(J)V", sig := { parameters := [.long], returnType := none }, accessFlags := 0, code := some k2c3 }
def k2c4 : Code := { maxStack := 4, maxLocals := 3, code := prog_46_method_7_code, exceptionTable := #[], attributes := #[] }
def k2m4 : Method := { name := "slot", desc := "(J)I", sig := { parameters := [.long], returnType := some .int }, accessFlags := 2, code := some k2c4 }
def k2c5 : Code := { maxStack := 3, maxLocals := 2, code := prog_46_method_8_code, exceptionTable := #[], attributes := #[] }
def k2m5 : Method := { name := "next", desc := "(I)I", sig := { parameters := [.int], returnType := some .int }, accessFlags := 2, code := some k2c5 }
def k2c6 : Code := { maxStack := 3, maxLocals := 2, code := prog_46_method_9_code, exceptionTable := #[], attributes := #[] }
def k2m6 : Method := { name := "newKeys", desc := "(I)[J", sig := { parameters := [.int], returnType := some (.array .long) }, accessFlags := 10, code := some k2c6 }
/-- com/example/subsume/subsume/reasoner/Positions -/
def k2 : Class := { plain "com/example/subsume/subsume/reasoner/Positions" (some 0) with
  accessFlags := 48
  interfaces := #[]
  cf := some (fileOf pool2 8 #[] #[{ accessFlags := 0, nameIndex := 5, descriptorIndex := 6, attributes := #[] }, { accessFlags := 0, nameIndex := 33, descriptorIndex := 24, attributes := #[] }, { accessFlags := 0, nameIndex := 43, descriptorIndex := 44, attributes := #[] }, { accessFlags := 0, nameIndex := 68, descriptorIndex := 69, attributes := #[] }, { accessFlags := 2, nameIndex := 23, descriptorIndex := 24, attributes := #[] }, { accessFlags := 2, nameIndex := 29, descriptorIndex := 30, attributes := #[] }, { accessFlags := 10, nameIndex := 11, descriptorIndex := 12, attributes := #[] }] 48 2 #[] #[{ accessFlags := 26, nameIndex := 60, descriptorIndex := 61, attributes := #[] }, { accessFlags := 2, nameIndex := 15, descriptorIndex := 16, attributes := #[] }, { accessFlags := 2, nameIndex := 19, descriptorIndex := 20, attributes := #[] }, { accessFlags := 2, nameIndex := 36, descriptorIndex := 37, attributes := #[] }])
  fields := #[{ name := "FREE", type := .long, accessFlags := 26, slot := 0, constantValue := 0 }, { name := "keys", type := (.array .long), accessFlags := 2, slot := 0, constantValue := 0 }, { name := "positions", type := (.array .int), accessFlags := 2, slot := 1, constantValue := 0 }, { name := "size", type := .int, accessFlags := 2, slot := 2, constantValue := 0 }]
  methods := #[k2m0, k2m1, k2m2, k2m3, k2m4, k2m5, k2m6]
  instanceTypes := #[(.array .long), (.array .int), .int]
  staticTypes := #[.long]
  resolved := Array.replicate 74 none
  statics := none }

def pool3 : Array CpInfo := pool [(2, .class_ 4), (1, u "java/lang/Object"), (0, u "<init>"), (0, u "()V"), (7, .class_ 16), (1, u "java/util/Arrays"), (57, .class_ 76), (1, u "java/util/Arrays$NaturalOrder"), (36, .class_ 115), (1, u "java/util/Arrays$LegacyMergeSort"), (1, u "Z"), (257, .class_ 376), (0, u "java/util/Arrays$ArrayList"), (68, u "$assertionsDisabled"), (269, u "MIN_ARRAY_SORT_GRAN"), (0, u "I"), (2, u "INSERTIONSORT_THRESHOLD"), (120, u "fill"), (0, u "([JJ)V"), (133, .class_ 976), (0, u "java/util/Arrays$ArrayItr")] 52

def k3m0 : Method := { name := "<init>", desc := "()V", sig := { parameters := [], returnType := none }, accessFlags := 2, code := none }
def k3c1 : Code := { maxStack := 4, maxLocals := 5, code := jdk_65_method_101_code, exceptionTable := #[], attributes := #[] }
def k3m1 : Method := { name := "fill", desc := "([JJ)V", sig := { parameters := [(.array .long), .long], returnType := none }, accessFlags := 9, code := some k3c1 }
/-- java/util/Arrays -/
def k3 : Class := { plain "java/util/Arrays" (some 0) with
  accessFlags := 49
  interfaces := #[]
  cf := some (fileOf pool3 14 #[.nestMembers #[975, 375, 113, 74]] #[{ accessFlags := 2, nameIndex := 5, descriptorIndex := 6, attributes := #[] }, { accessFlags := 9, nameIndex := 840, descriptorIndex := 841, attributes := #[] }] 49 2 #[] #[{ accessFlags := 26, nameIndex := 715, descriptorIndex := 716, attributes := #[] }, { accessFlags := 26, nameIndex := 719, descriptorIndex := 716, attributes := #[] }, { accessFlags := 4120, nameIndex := 445, descriptorIndex := 117, attributes := #[] }])
  fields := #[{ name := "MIN_ARRAY_SORT_GRAN", type := .int, accessFlags := 26, slot := 0, constantValue := 0 }, { name := "INSERTIONSORT_THRESHOLD", type := .int, accessFlags := 26, slot := 1, constantValue := 0 }, { name := "$assertionsDisabled", type := .boolean, accessFlags := 4120, slot := 2, constantValue := 0 }]
  methods := #[k3m0, k3m1]
  instanceTypes := #[]
  staticTypes := #[.int, .int, .boolean]
  resolved := Array.replicate 1029 none
  statics := none }

def pool4 : Array CpInfo := pool [(1, .class_ 2), (0, u "java/io/Serializable"), (0, .class_ 4), (0, u "java/lang/Object")] 2

/-- java/io/Serializable -/
def k4 : Class := { plain "java/io/Serializable" (some 0) with
  accessFlags := 1537
  interfaces := #[]
  cf := some (fileOf pool4 1 #[] #[] 1537 3 #[] #[])
  fields := #[]
  methods := #[]
  instanceTypes := #[]
  staticTypes := #[]
  resolved := Array.replicate 7 none
  statics := none }

def pool5 : Array CpInfo := pool [(2, .class_ 4), (1, u "java/lang/Object"), (0, u "<init>"), (0, u "()V"), (1, .class_ 10), (1, u "java/lang/Number"), (2, .class_ 14), (0, u "java/io/Serializable"), (0, u "serialVersionUID"), (0, u "J")] 20

def k5m0 : Method := { name := "<init>", desc := "()V", sig := { parameters := [], returnType := none }, accessFlags := 1, code := none }
/-- java/lang/Number -/
def k5 : Class := { plain "java/lang/Number" (some 0) with
  accessFlags := 1057
  interfaces := #[4]
  cf := some (fileOf pool5 8 #[] #[{ accessFlags := 1, nameIndex := 5, descriptorIndex := 6, attributes := #[] }] 1057 2 #[13] #[{ accessFlags := 26, nameIndex := 15, descriptorIndex := 16, attributes := #[] }])
  fields := #[{ name := "serialVersionUID", type := .long, accessFlags := 26, slot := 0, constantValue := 0 }]
  methods := #[k5m0]
  instanceTypes := #[]
  staticTypes := #[.long]
  resolved := Array.replicate 37 none
  statics := none }

def pool6 : Array CpInfo := pool [(1, .class_ 2), (0, u "java/lang/Comparable"), (0, .class_ 4), (0, u "java/lang/Object")] 7

/-- java/lang/Comparable -/
def k6 : Class := { plain "java/lang/Comparable" (some 0) with
  accessFlags := 1537
  interfaces := #[]
  cf := some (fileOf pool6 1 #[] #[] 1537 3 #[] #[])
  fields := #[]
  methods := #[]
  instanceTypes := #[]
  staticTypes := #[]
  resolved := Array.replicate 12 none
  statics := none }

def pool7 : Array CpInfo := pool [(1, .class_ 2), (0, u "java/lang/constant/Constable"), (0, .class_ 4), (0, u "java/lang/Object")] 6

/-- java/lang/constant/Constable -/
def k7 : Class := { plain "java/lang/constant/Constable" (some 0) with
  accessFlags := 1537
  interfaces := #[]
  cf := some (fileOf pool7 1 #[] #[] 1537 3 #[] #[])
  fields := #[]
  methods := #[]
  instanceTypes := #[]
  staticTypes := #[]
  resolved := Array.replicate 11 none
  statics := none }

def pool8 : Array CpInfo := pool [(1, .class_ 2), (0, u "java/lang/constant/ConstantDesc"), (0, .class_ 4), (0, u "java/lang/Object")] 32

/-- java/lang/constant/ConstantDesc -/
def k8 : Class := { plain "java/lang/constant/ConstantDesc" (some 0) with
  accessFlags := 1537
  interfaces := #[]
  cf := some (fileOf pool8 1 #[] #[] 1537 3 #[] #[])
  fields := #[]
  methods := #[]
  instanceTypes := #[]
  staticTypes := #[]
  resolved := Array.replicate 37 none
  statics := none }

def pool9 : Array CpInfo := pool [(1, .class_ 2), (0, u "java/lang/Integer"), (16, u "digits"), (0, u "[C"), (33, u "(I)I"), (30, u "DigitOnes"), (0, u "[B"), (2, u "DigitTens"), (99, .class_ 190), (0, u "java/lang/Integer$IntegerCache"), (3, u "I"), (8, .class_ 204), (0, u "java/lang/Number"), (2, u "value"), (56, .integer 65536), (37, u "TYPE"), (0, u "Ljava/lang/Class;"), (0, .class_ 305), (0, u "java/lang/Comparable"), (0, .class_ 307), (0, u "java/lang/constant/Constable"), (0, .class_ 309), (0, u "java/lang/constant/ConstantDesc"), (0, u "MIN_VALUE"), (1, u "MAX_VALUE"), (3, u "SIZE"), (1, u "BYTES"), (1, u "serialVersionUID"), (0, u "J"), (84, u "numberOfTrailingZeros")] 46

def k9c0 : Code := { maxStack := 3, maxLocals := 2, code := jdk_33_method_48_code, exceptionTable := #[], attributes := #[] }
def k9m0 : Method := { name := "numberOfTrailingZeros", desc := "(I)I", sig := { parameters := [.int], returnType := some .int }, accessFlags := 9, code := some k9c0 }
/-- java/lang/Integer -/
def k9 : Class := { plain "java/lang/Integer" (some 5) with
  accessFlags := 49
  interfaces := #[6, 7, 8]
  cf := some (fileOf pool9 1 #[.nestMembers #[189]] #[{ accessFlags := 9, nameIndex := 406, descriptorIndex := 54, attributes := #[] }] 49 203 #[304, 306, 308] #[{ accessFlags := 25, nameIndex := 310, descriptorIndex := 194, attributes := #[] }, { accessFlags := 25, nameIndex := 312, descriptorIndex := 194, attributes := #[] }, { accessFlags := 25, nameIndex := 302, descriptorIndex := 303, attributes := #[] }, { accessFlags := 24, nameIndex := 19, descriptorIndex := 20, attributes := #[] }, { accessFlags := 24, nameIndex := 89, descriptorIndex := 86, attributes := #[] }, { accessFlags := 24, nameIndex := 85, descriptorIndex := 86, attributes := #[] }, { accessFlags := 18, nameIndex := 207, descriptorIndex := 194, attributes := #[] }, { accessFlags := 25, nameIndex := 316, descriptorIndex := 194, attributes := #[] }, { accessFlags := 25, nameIndex := 318, descriptorIndex := 194, attributes := #[] }, { accessFlags := 26, nameIndex := 320, descriptorIndex := 321, attributes := #[] }])
  fields := #[{ name := "MIN_VALUE", type := .int, accessFlags := 25, slot := 0, constantValue := 0 }, { name := "MAX_VALUE", type := .int, accessFlags := 25, slot := 1, constantValue := 0 }, { name := "TYPE", type := (.object "java/lang/Class"), accessFlags := 25, slot := 2, constantValue := 0 }, { name := "digits", type := (.array .char), accessFlags := 24, slot := 3, constantValue := 0 }, { name := "DigitTens", type := (.array .byte), accessFlags := 24, slot := 4, constantValue := 0 }, { name := "DigitOnes", type := (.array .byte), accessFlags := 24, slot := 5, constantValue := 0 }, { name := "value", type := .int, accessFlags := 18, slot := 0, constantValue := 0 }, { name := "SIZE", type := .int, accessFlags := 25, slot := 6, constantValue := 0 }, { name := "BYTES", type := .int, accessFlags := 25, slot := 7, constantValue := 0 }, { name := "serialVersionUID", type := .long, accessFlags := 26, slot := 8, constantValue := 0 }]
  methods := #[k9m0]
  instanceTypes := #[.int]
  staticTypes := #[.int, .int, (.object "java/lang/Class"), (.array .char), (.array .byte), (.array .byte), .int, .int, .long]
  resolved := Array.replicate 453 none
  statics := none }

def pool10 : Array CpInfo := pool [(1, u "java/lang/Cloneable"), (0, .class_ 1), (0, u "java/lang/Object"), (0, .class_ 3)] 3

/-- java/lang/Cloneable -/
def k10 : Class := { plain "java/lang/Cloneable" (some 0) with
  accessFlags := 1537
  interfaces := #[]
  cf := some (fileOf pool10 2 #[] #[] 1537 4 #[] #[])
  fields := #[]
  methods := #[]
  instanceTypes := #[]
  staticTypes := #[]
  resolved := Array.replicate 8 none
  statics := none }

/-- the primitive byte -/
def k11 : Class := { plain "byte" none with kind := .primitive 'B', accessFlags := 0x411 }
/-- [B -/
def k12 : Class := { plain "[B" (some 0) with kind := .array 11 .byte, interfaces := #[10, 4], accessFlags := 1041 }

/-- the primitive int -/
def k13 : Class := { plain "int" none with kind := .primitive 'I', accessFlags := 0x411 }
/-- [I -/
def k14 : Class := { plain "[I" (some 0) with kind := .array 13 .int, interfaces := #[10, 4], accessFlags := 1041 }

/-- the primitive long -/
def k15 : Class := { plain "long" none with kind := .primitive 'J', accessFlags := 0x411 }
/-- [J -/
def k16 : Class := { plain "[J" (some 0) with kind := .array 15 .long, interfaces := #[10, 4], accessFlags := 1041 }

def heap : Heap := #[]
def classes : Array Class := #[k0, k1, k2, k3, k4, k5, k6, k7, k8, k9, k10, k11, k12, k13, k14, k15, k16]
def interned : List (Array UInt16 × Addr) := []
def slotsUsed : Nat := 0
def theMethod : MethodId := ⟨1, 2⟩
def args0 : Array Value := #[.long 9, .long 8, .long 7, .long 6, .long 5, .int 2]
def aboutOver (below : List Frame) : State where
  vm := { classes := classes, interned := interned.toArray }
  heap := heap
  slotsUsed := slotsUsed
  threads := #[{ frames := .invoking theMethod args0 :: below }]
def below0 : List Frame := [.native { method := ⟨0, 0⟩, args := #[] }]
def about1 : State := aboutOver below0
def p0 : Program := .bare "" "" ""
def e0 : Env := launch0.env 0 0 0
theorem w_frames : about1.frames = Frame.invoking theMethod args0 :: below0 := rfl
set_option maxRecDepth 65536 in
theorem w_args : argsFit about1.vm theMethod args0 = true := by decide +kernel
set_option maxRecDepth 65536 in
theorem w_heap : heapFits about1 = true := by decide +kernel
set_option maxRecDepth 65536 in
theorem w_runnable : about1.curStatus? = some .runnable := by decide +kernel
set_option maxRecDepth 65536 in
theorem w_alone : about1.alone = true := by decide +kernel
set_option maxRecDepth 65536 in
theorem w_named : about1.methodNamed? x = some theMethod := by decide +kernel
set_option maxRecDepth 65536 in
theorem w_hears : about1.hears theMethod below0 = true := by decide +kernel
set_option maxRecDepth 65536 in
theorem w_ripe : about1.ripe theMethod args0 below0 = true := by decide +kernel
theorem w_running : about1.status = .running := rfl
set_option maxRecDepth 65536 in
theorem w_room : about1.hasRoom e0.platform room_1 = true :=
  launch0.hasRoom_least _ room_1 (by decide +kernel) (by decide +kernel) (by decide +kernel) (by decide +kernel) (by decide +kernel) (by decide +kernel)
theorem allAtoms_all (ts : List Jvm.Cond) (a : Array Jvm.Value) (st : Jvm.State) : (allAtoms ts).before a st = ts.all (fun c => c.before a st) := by
  induction ts with
  | nil => rfl
  | cons c t ih =>
    show (Jvm.Cond.and c (allAtoms t)).before a st = _
    rw [Jvm.Cond.before_and, ih, List.all_cons]
def words1 : List Jvm.Cond := Jvm.Cond.code x code maxLocals ret :: tables_1
/-- a 'code' word, met by the world's own term for the bytes: nothing is compared byte by byte -/
theorem code_word {y : MethodName} {bytes : ByteArray} {mx : Nat} {rt : Option FieldType} {a : Array Value} {s : State} {m : MethodId} {meth : Method} {c : Code} (h1 : s.methodNamed? y = some m) (h2 : s.vm.method? m = some meth) (h3 : meth.code = some c) (h4 : c.code = bytes)
    (h5 : (c.maxLocals == mx && c.exceptionTable.isEmpty && decide (c.maxStack ≤ mostOperands) && decide (meth.sig.returnType = rt) && !meth.locks && decide (parseMethodDescriptor y.desc = some meth.sig)) = true) : (Jvm.Cond.code y bytes mx rt).before a s = true := by
  simp only [Bool.and_eq_true, beq_iff_eq, Bool.not_eq_true', decide_eq_true_eq] at h5
  obtain ⟨⟨⟨⟨⟨g1, g2⟩, g3⟩, g4⟩, g5⟩, g6⟩ := h5
  simp [Cond.before, Cond.holds, Cond.value, h1, h2, h3, h4, g1, g2, g3, g4, g5, g6]
def isCode : Jvm.Cond → Bool
  | .code _ _ _ _ => true
  | _ => false
theorem all_split {L : List Jvm.Cond} {P : Jvm.Cond → Bool} (h1 : L.all (fun c => isCode c || P c) = true) (h2 : ∀ c ∈ L.filter isCode, P c = true) : L.all P = true := by
  refine List.all_eq_true.mpr fun c hc => ?_
  have h := List.all_eq_true.mp h1 c hc
  rcases Bool.eq_false_or_eq_true (isCode c) with hi | hi
  · exact h2 c (List.mem_filter.mpr ⟨hc, hi⟩)
  · simpa [hi] using h
set_option maxRecDepth 65536 in
theorem w_c0 : (Jvm.Cond.code x code maxLocals ret).before args0 about1 = true := code_word (m := ⟨1, 2⟩) (meth := k1m2) (c := k1c2) (by decide +kernel) rfl rfl rfl (by decide +kernel)
set_option maxRecDepth 65536 in
theorem w_c1 : (Jvm.Cond.code ({ cls := "com/example/subsume/subsume/reasoner/Positions", name := "<init>", desc := "()V" } : Jvm.MethodName) prog_46_method_1_code (1 : Nat) (Option.none : Option Jvm.ClassFile.FieldType)).before args0 about1 = true := code_word (m := ⟨2, 0⟩) (meth := k2m0) (c := k2c0) (by decide +kernel) rfl rfl rfl (by decide +kernel)
set_option maxRecDepth 65536 in
theorem w_c2 : (Jvm.Cond.code ({ cls := "java/lang/Object", name := "<init>", desc := "()V" } : Jvm.MethodName) object_method_1_code (1 : Nat) (Option.none : Option Jvm.ClassFile.FieldType)).before args0 about1 = true := code_word (m := ⟨0, 0⟩) (meth := k0m0) (c := k0c0) (by decide +kernel) rfl rfl rfl (by decide +kernel)
set_option maxRecDepth 65536 in
theorem w_c3 : (Jvm.Cond.code ({ cls := "com/example/subsume/subsume/reasoner/Positions", name := "newKeys", desc := "(I)[J" } : Jvm.MethodName) prog_46_method_9_code (2 : Nat) (Option.some (Jvm.ClassFile.FieldType.array Jvm.ClassFile.FieldType.long))).before args0 about1 = true := code_word (m := ⟨2, 6⟩) (meth := k2m6) (c := k2c6) (by decide +kernel) rfl rfl rfl (by decide +kernel)
set_option maxRecDepth 65536 in
theorem w_c4 : (Jvm.Cond.code ({ cls := "java/util/Arrays", name := "fill", desc := "([JJ)V" } : Jvm.MethodName) jdk_65_method_101_code (5 : Nat) (Option.none : Option Jvm.ClassFile.FieldType)).before args0 about1 = true := code_word (m := ⟨3, 1⟩) (meth := k3m1) (c := k3c1) (by decide +kernel) rfl rfl rfl (by decide +kernel)
set_option maxRecDepth 65536 in
theorem w_c5 : (Jvm.Cond.code ({ cls := "com/example/subsume/subsume/reasoner/Positions", name := "put", desc := "(JI)V" } : Jvm.MethodName) prog_46_method_4_code (5 : Nat) (Option.none : Option Jvm.ClassFile.FieldType)).before args0 about1 = true := code_word (m := ⟨2, 2⟩) (meth := k2m2) (c := k2c2) (by decide +kernel) rfl rfl rfl (by decide +kernel)
set_option maxRecDepth 65536 in
theorem w_c6 : (Jvm.Cond.code ({ cls := "com/example/subsume/subsume/reasoner/Positions", name := "slot", desc := "(J)I" } : Jvm.MethodName) prog_46_method_7_code (3 : Nat) (Option.some Jvm.ClassFile.FieldType.int)).before args0 about1 = true := code_word (m := ⟨2, 4⟩) (meth := k2m4) (c := k2c4) (by decide +kernel) rfl rfl rfl (by decide +kernel)
set_option maxRecDepth 65536 in
theorem w_c7 : (Jvm.Cond.code ({ cls := "java/lang/Integer", name := "numberOfTrailingZeros", desc := "(I)I" } : Jvm.MethodName) jdk_33_method_48_code (2 : Nat) (Option.some Jvm.ClassFile.FieldType.int)).before args0 about1 = true := code_word (m := ⟨9, 0⟩) (meth := k9m0) (c := k9c0) (by decide +kernel) rfl rfl rfl (by decide +kernel)
set_option maxRecDepth 65536 in
theorem w_c8 : (Jvm.Cond.code ({ cls := "com/example/subsume/subsume/reasoner/Positions", name := "remove", desc := "(J)V" } : Jvm.MethodName) prog_46_method_5_code (8 : Nat) (Option.none : Option Jvm.ClassFile.FieldType)).before args0 about1 = true := code_word (m := ⟨2, 3⟩) (meth := k2m3) (c := k2c3) (by decide +kernel) rfl rfl rfl (by decide +kernel)
set_option maxRecDepth 65536 in
theorem w_c9 : (Jvm.Cond.code ({ cls := "com/example/subsume/subsume/reasoner/Positions", name := "get", desc := "(J)I" } : Jvm.MethodName) prog_46_method_2_code (4 : Nat) (Option.some Jvm.ClassFile.FieldType.int)).before args0 about1 = true := code_word (m := ⟨2, 1⟩) (meth := k2m1) (c := k2c1) (by decide +kernel) rfl rfl rfl (by decide +kernel)
set_option maxRecDepth 65536 in
theorem w_c10 : (Jvm.Cond.code ({ cls := "com/example/subsume/subsume/reasoner/PositionsRemovePinLaw", name := "ok", desc := "(III)Z" } : Jvm.MethodName) method_2_code (3 : Nat) (Option.some Jvm.ClassFile.FieldType.boolean)).before args0 about1 = true := code_word (m := ⟨1, 1⟩) (meth := k1m1) (c := k1c1) (by decide +kernel) rfl rfl rfl (by decide +kernel)
set_option maxRecDepth 65536 in
theorem w_c11 : (Jvm.Cond.code ({ cls := "com/example/subsume/subsume/reasoner/Positions", name := "next", desc := "(I)I" } : Jvm.MethodName) prog_46_method_8_code (2 : Nat) (Option.some Jvm.ClassFile.FieldType.int)).before args0 about1 = true := code_word (m := ⟨2, 5⟩) (meth := k2m5) (c := k2c5) (by decide +kernel) rfl rfl rfl (by decide +kernel)
def codes1 : List Jvm.Cond := [Jvm.Cond.code x code maxLocals ret, Jvm.Cond.code ({ cls := "com/example/subsume/subsume/reasoner/Positions", name := "<init>", desc := "()V" } : Jvm.MethodName) prog_46_method_1_code (1 : Nat) (Option.none : Option Jvm.ClassFile.FieldType), Jvm.Cond.code ({ cls := "java/lang/Object", name := "<init>", desc := "()V" } : Jvm.MethodName) object_method_1_code (1 : Nat) (Option.none : Option Jvm.ClassFile.FieldType), Jvm.Cond.code ({ cls := "com/example/subsume/subsume/reasoner/Positions", name := "newKeys", desc := "(I)[J" } : Jvm.MethodName) prog_46_method_9_code (2 : Nat) (Option.some (Jvm.ClassFile.FieldType.array Jvm.ClassFile.FieldType.long)), Jvm.Cond.code ({ cls := "java/util/Arrays", name := "fill", desc := "([JJ)V" } : Jvm.MethodName) jdk_65_method_101_code (5 : Nat) (Option.none : Option Jvm.ClassFile.FieldType), Jvm.Cond.code ({ cls := "com/example/subsume/subsume/reasoner/Positions", name := "put", desc := "(JI)V" } : Jvm.MethodName) prog_46_method_4_code (5 : Nat) (Option.none : Option Jvm.ClassFile.FieldType), Jvm.Cond.code ({ cls := "com/example/subsume/subsume/reasoner/Positions", name := "slot", desc := "(J)I" } : Jvm.MethodName) prog_46_method_7_code (3 : Nat) (Option.some Jvm.ClassFile.FieldType.int), Jvm.Cond.code ({ cls := "java/lang/Integer", name := "numberOfTrailingZeros", desc := "(I)I" } : Jvm.MethodName) jdk_33_method_48_code (2 : Nat) (Option.some Jvm.ClassFile.FieldType.int), Jvm.Cond.code ({ cls := "com/example/subsume/subsume/reasoner/Positions", name := "remove", desc := "(J)V" } : Jvm.MethodName) prog_46_method_5_code (8 : Nat) (Option.none : Option Jvm.ClassFile.FieldType), Jvm.Cond.code ({ cls := "com/example/subsume/subsume/reasoner/Positions", name := "get", desc := "(J)I" } : Jvm.MethodName) prog_46_method_2_code (4 : Nat) (Option.some Jvm.ClassFile.FieldType.int), Jvm.Cond.code ({ cls := "com/example/subsume/subsume/reasoner/PositionsRemovePinLaw", name := "ok", desc := "(III)Z" } : Jvm.MethodName) method_2_code (3 : Nat) (Option.some Jvm.ClassFile.FieldType.boolean), Jvm.Cond.code ({ cls := "com/example/subsume/subsume/reasoner/Positions", name := "next", desc := "(I)I" } : Jvm.MethodName) prog_46_method_8_code (2 : Nat) (Option.some Jvm.ClassFile.FieldType.int)]
set_option maxRecDepth 65536 in
theorem codes_eq : words1.filter isCode = codes1 := rfl
theorem w_codes : ∀ c ∈ words1.filter isCode, c.before args0 about1 = true := by
  rw [codes_eq]
  intro c hc
  simp only [codes1, List.mem_cons, List.not_mem_nil, or_false] at hc
  rcases hc with rfl | rfl | rfl | rfl | rfl | rfl | rfl | rfl | rfl | rfl | rfl | rfl
  · exact w_c0
  · exact w_c1
  · exact w_c2
  · exact w_c3
  · exact w_c4
  · exact w_c5
  · exact w_c6
  · exact w_c7
  · exact w_c8
  · exact w_c9
  · exact w_c10
  · exact w_c11
set_option maxRecDepth 65536 in
theorem w_t1 : (words1.take 24).all (fun c => isCode c || c.before args0 about1) = true := by decide +kernel
set_option maxRecDepth 65536 in
theorem w_t2 : ((words1.drop 24).take 24).all (fun c => isCode c || c.before args0 about1) = true := by decide +kernel
set_option maxRecDepth 65536 in
theorem w_t3 : ((words1.drop 24).drop 24).all (fun c => isCode c || c.before args0 about1) = true := by decide +kernel
theorem w_tables : (allAtoms (Jvm.Cond.code x code maxLocals ret :: tables_1)).before args0 about1 = true := by
  rw [allAtoms_all]
  show words1.all (fun c => c.before args0 about1) = true
  refine all_split ?_ w_codes
  rw [← List.take_append_drop 24 words1, List.all_append, w_t1, ← List.take_append_drop 24 (words1.drop 24), List.all_append, w_t2, w_t3]
  rfl
set_option maxRecDepth 65536 in
theorem w_case : (Jvm.Cond.and given_1 narrow_1).before args0 about1 = true := by decide +kernel
theorem w_applies : (headSpec (Jvm.Cond.code x code maxLocals ret :: tables_1) room_1).applies x e0.platform about1 = true :=
  (Spec.applies_iff w_frames).mpr ⟨w_running, w_runnable, w_alone, w_named, w_hears, w_ripe, w_room, w_tables⟩
theorem atStart : AtStart classFile x code maxLocals ret World_1 tables_1 room_1 Calls_1 rest_1 Pre_1 launch0 p0 e0 about1 theMethod args0 below0 :=
  ⟨lists_1, trivial, launch0.admits_env _ _ _, launch0.least_env, fairChoices_fair.cas, fairChoices_fair.clock, w_frames, w_args, w_heap, w_applies, trivial, trivial, w_case⟩
end start1
theorem witness_1 : WitnessClaimed_1 := ⟨start1.p0, start1.e0, start1.about1, start1.theMethod, start1.args0, start1.below0, start1.atStart⟩
end Jvm.Pilot.@@N@@
