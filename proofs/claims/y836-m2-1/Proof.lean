import JvmDerived
import JvmDerived.Pilot.@@N@@Statement
import JvmDerived.Pilot.@@N@@Code
set_option linter.unusedVariables false
set_option linter.unusedSimpArgs false
namespace Jvm.RoadKit
open Sem ClassFile Op Lib Jvm.Stand Jvm.Free Jvm.LawKit
section New
variable {p : Program} {l : Launch} {e : Env} {R : Room} {s : State} {m : MethodId} {args : Array Value} {below : List Frame} {meth : Method} {c : Code} {T : State} {locs : List Loc} {cells slots : Nat}
theorem retI (X : Stand p l e R s m args below meth c T locs cells slots) (hx : p.tables.exec = Jvm.exec) {pc : Nat} {Ls : Array Slot} {z : Int32} {rest : List Value} (hret : meth.sig.returnType = some .int) (hd : decode c.code pc = .ok (.ireturn, 1)) {fs : List Frame}
    (hl : ∀ (f : JFrame) (acts : List Action), f.method = m → f.locked = none → f.entered = [] → (doReturn e (T.setTop f) acts (some (.int z))).1 = T.setFrames fs) : Steps p.tables e below (T.setTop (mkF m pc Ls (.int z :: rest))) (T.setFrames fs) :=
  retOut X hx (w := .int z) (t := .int) hret rfl (Or.inl ⟨rfl, Or.inl rfl, _, rfl⟩) hd hl
end New
end Jvm.RoadKit
namespace Jvm.Own
open Sem ClassFile Op Lib Jvm.Stand Jvm.Free Jvm.LawKit Jvm.RoadKit
/-- from A on the run comes to B -/
abbrev Go (tb : Tables) (e : Env) (below : List Frame) (A B : State) : Prop := ∀ t, Steps tb e below B t → Steps tb e below A t
theorem lremM {p : Program} {l : Launch} {e : Env} {R : Room} {s : State} {m : MethodId} {args : Array Value} {below : List Frame} {meth : Method} {c : Code} {T : State} {locs : List Loc} {cells slots : Nat} {g : JFrame} {target : State} (X : Stand p l e R s m args below meth c T locs cells slots) (hx : p.tables.exec = Jvm.exec) (hg : g.method = m) {x y : Int64} {rest : List Value} (hd : decode c.code g.pc = .ok (.lrem, 1)) (hs : g.stack = .long y :: .long x :: rest) (hy : y ≠ 0)
    (hr : Steps p.tables e below (T.setTop { g with pc := g.pc + 1, stack := .long (x % y) :: rest }) target) : Steps p.tables e below (T.setTop g) target :=
  XS.lrem X.here hx hg hd hs hy (by rw [lrem_mod]; exact hr)
theorem eqInt {s : State} {args : Array Value} {a : Term} {c : Int32} (h : (Cond.eq a (.int c)).value args s none s [] = some true) : a.eval args s none [] s = some (.int c) := by
  obtain ⟨x, y, hx, hy, k1, k2⟩ := cmp_v (Or.inl h)
  cases hy
  obtain ⟨z, rfl⟩ := k2
  simp [Cond.value, hx, Term.eval] at h
  subst h; exact hx
theorem neqInt {s : State} {args : Array Value} {a : Term} {c x : Int32} (hx : a.eval args s none [] s = some (.int x)) (h : (Cond.not (Cond.eq a (.int c))).value args s none s [] = some true) : ¬ x = c := by
  intro q
  have h2 := not_v h
  subst q
  simp [Cond.value, hx, Term.eval] at h2
theorem elAt {s : State} {args : Array Value} {t u : Term} {a w : Addr} {cl : Cell} {ty : FieldType} {i : Int32} (ht : t.eval args s none [] s = some (.ref a)) (A : Arr s s.heap a cl ty) (h : (Cond.eq (.elem t (.int i)) u).value args s none s [] = some true) (hu : u.eval args s none [] s = some (.ref w)) {j : Nat} (hj : i.toNatClampNeg = j) : cl.slots[j]? = some (.ref w) := by
  obtain ⟨x, y, hx, hy, k1, k2⟩ := cmp_v (Or.inl h)
  rw [hu] at hy; cases hy
  have hr : x.isRef = true := k2.2
  have e := gotT (eq_R hx hu hr rfl) h
  subst e
  have q := (elem_in hx ht (Term.int_eval i) A.1).2
  rw [hj] at q; exact q
theorem arvOf {s : State} {args : Array Value} {t : Term} {a : Addr} {cl : Cell} {ty : FieldType} {z : Int32} {vs : List Value} {dv : Value} (hf : Fit s) (ev : t.eval args s none [] s = some (.ref a)) (A : Arr s s.heap a cl ty) (hl : (Term.length t).eval args s none [] s = some (.int z)) (hz : ¬ z < 0) (hn : z.toNatClampNeg = vs.length) (H : HasL cl 0 vs) : Arv s s.heap a cl.cls ty z vs dv := by
  have ha : s.arrayAt? a = some cl := Arr.fin (Vm.Alike.refl _) A
  by_cases q : cl.slots.size < 2 ^ 31
  · rw [len_f ev ha q] at hl
    cases hl
    exact Arv.start hf A q rfl hz hn H
  · simp [Term.eval, ev, ha, q] at hl
theorem selPriv {s : State} {args : Array Value} {C : String} {z y : MethodName} (w : (Cond.selects C z z).before args s = true) (hc : z.cls = y.cls) (hp : s.PrivateAt y) (hi : (Cond.instanceMethod y).before args s = true) (hy : y.cls ≠ "java/lang/invoke/MethodHandle" ∧ y.cls ≠ "java/lang/invoke/VarHandle") : (Cond.selects y.cls y y).before args s = true := by
  obtain ⟨c2, r2, m2, -, -, q3, -, kP, hkP, hkPi⟩ := Cond.selects_spec w
  exact selects_self_of_private (hc ▸ findClass_of_methodNamed q3) hkP hkPi hp hi hy
end Jvm.Own
namespace Jvm.Pilot.@@N@@
open Jvm Jvm.ClassFile Sem Op Lib Jvm.Free Jvm.Stand Jvm.LawKit Jvm.RoadKit Jvm.Own Bundle Jvm.Pilot.@@N@@.Jvm.D
theorem own_w {Z : State} {a0 : Array Value} (hw : ∀ d ∈ tables_1, d.before a0 Z = true) (i : Nat) {d : Jvm.Cond} (h : tables_1[i]? = some d) : d.before a0 Z = true := hw _ (List.mem_of_getElem? h)
theorem own_max (x : Int64) : 0 ≤ (x &&& (9223372036854775807 : Int64)).toInt := by
  have : (x &&& (9223372036854775807 : Int64)).toInt = x.toInt % (2^63 : Nat) := c_maskL x 9223372036854775807 63 (by decide) (by decide)
  omega
def own_up (x b : Int64) : Int64 := if b = (9223372036854775807 : Int64) then (x &&& (9223372036854775807 : Int64)) else (x &&& (9223372036854775807 : Int64)) % (b + (1 : Int64))
def own_hr (m hd e : Int64) : Int32 := if (m - hd) < e then 0 else 1
theorem own_nz (b : Int64) (h : ¬ b < 0) : b + (1 : Int64) ≠ 0 := by
  intro q
  have : b = -1 := by
    have h2 : b + 1 - 1 = 0 - 1 := by rw [q]
    simpa using h2
  subst this
  exact h (by decide)
theorem own_lt (a b : Int64) : a < b ↔ a.toInt < b.toInt := Int64.lt_iff_toInt_lt
theorem own_succ (r : Int64) (h : ¬ r = (9223372036854775807 : Int64)) : r < r + 1 := by
  have h1 : r.toInt ≠ 9223372036854775807 := fun q => h (Int64.toInt_inj.mp q)
  have h2 := Int64.toInt_lt r
  have h3 := Int64.le_toInt r
  rw [own_lt, Int64.toInt_add]
  rw [show (1 : Int64).toInt = 1 from rfl]
  rw [Int.bmod_eq_of_le] <;> omega
theorem own_up_le (x b : Int64) (hb : ¬ b < 0) : ¬ own_up x b < 0 ∧ ¬ b < own_up x b := by
  have hm := own_max x
  have h0 : 0 ≤ b.toInt := by
    have := hb; rw [own_lt] at this
    rw [show (0 : Int64).toInt = 0 from rfl] at this; omega
  unfold own_up
  split
  · rename_i q
    have h2 := Int64.toInt_lt (x &&& (9223372036854775807 : Int64))
    subst q
    rw [own_lt, own_lt, show (0 : Int64).toInt = 0 from rfl, show (9223372036854775807 : Int64).toInt = 9223372036854775807 from rfl]
    omega
  · rename_i q
    have h1 : b.toInt ≠ 9223372036854775807 := fun q' => q (Int64.toInt_inj.mp q')
    have h2 := Int64.toInt_lt b
    have hs : (b + (1 : Int64)).toInt = b.toInt + 1 := by
      rw [Int64.toInt_add, show (1 : Int64).toInt = 1 from rfl]
      rw [Int.bmod_eq_of_le] <;> omega
    rw [own_lt, own_lt, show (0 : Int64).toInt = 0 from rfl, Int64.toInt_mod, hs]
    have h3 := Int.tmod_lt_of_pos (x &&& (9223372036854775807 : Int64)).toInt (b := b.toInt + 1) (by omega)
    have h4 := Int.tmod_nonneg (b.toInt + 1) hm
    omega
theorem own_sub (a b : Int64) (ha : ¬ a < 0) (hb : ¬ b < 0) (h : ¬ a < b) : (a - b).toInt = a.toInt - b.toInt := by
  rw [own_lt] at ha hb h
  have h2 := Int64.toInt_lt a
  rw [show (0 : Int64).toInt = 0 from rfl] at ha hb
  rw [Int64.toInt_sub, Int.bmod_eq_of_le] <;> omega
theorem own_subn (a b : Int64) (ha : ¬ a < 0) (hb : ¬ b < 0) (h : ¬ a < b) : ¬ (a - b) < 0 := by
  have := own_sub a b ha hb h
  rw [own_lt] at ha hb h ⊢
  rw [show (0 : Int64).toInt = 0 from rfl] at *
  omega
theorem own_hr01 {m hd e : Int64} (h : ¬ own_hr m hd e = 0) : own_hr m hd e = 1 := by
  unfold own_hr at h ⊢
  split <;> simp_all

theorem d1_0 : decode method_3_code 0 = .ok (.lload_n 0, 1) := by decide +kernel
theorem d1_1 : decode method_3_code 1 = .ok (.ldc2_w 9, 3) := by decide +kernel
theorem d1_4 : decode method_3_code 4 = .ok (.land, 1) := by decide +kernel
theorem d1_5 : decode method_3_code 5 = .ok (.lstore 4, 2) := by decide +kernel
theorem d1_7 : decode method_3_code 7 = .ok (.lload_n 2, 1) := by decide +kernel
theorem d1_8 : decode method_3_code 8 = .ok (.ldc2_w 9, 3) := by decide +kernel
theorem d1_11 : decode method_3_code 11 = .ok (.lcmp, 1) := by decide +kernel
theorem d1_12 : decode method_3_code 12 = .ok (.ifCond .ne 8, 3) := by decide +kernel
theorem d1_15 : decode method_3_code 15 = .ok (.lload 4, 2) := by decide +kernel
theorem d1_17 : decode method_3_code 17 = .ok (.goto 9, 3) := by decide +kernel
theorem d1_20 : decode method_3_code 20 = .ok (.lload 4, 2) := by decide +kernel
theorem d1_22 : decode method_3_code 22 = .ok (.lload_n 2, 1) := by decide +kernel
theorem d1_23 : decode method_3_code 23 = .ok (.lconst 1, 1) := by decide +kernel
theorem d1_24 : decode method_3_code 24 = .ok (.ladd, 1) := by decide +kernel
theorem d1_25 : decode method_3_code 25 = .ok (.lrem, 1) := by decide +kernel
theorem d1_26 : decode method_3_code 26 = .ok (.lreturn, 1) := by decide +kernel
theorem pn1 : plainFor (⟨"com/example/kuusi/kuusi/core/ElementLimitReleasePinLaw", "upTo", "(JJ)J"⟩ : MethodName) = true := plainFor_of_name (by first | (simp [plainName, overriddenIn]; done) | decide +kernel)
theorem ef_rm1 (m : MethodId) (q1 : Int64) (q2 : Int64) : entryFrame m #[(.long q1), (.long q2)] 6 = mkF m 0 #[.val (.long q1), .second, .val (.long q2), .second, .unset, .unset] [] := by first | (simp [entryFrame, mkF, argsToLocals, Value.category]; done) | rfl
def Q1 (Z : State) (q1 : Int64) (q2 : Int64) (h0 : Heap) (n0 : Nat) (v : Option Value) (h : Heap) (L : List Loc) : Prop := v = some (.long (own_up q1 q2)) ∧ Fr n0 L ∧ (h = h0)
set_option maxRecDepth 65536 in
set_option maxHeartbeats 40000000 in
theorem rm1 (l : Launch) (Z : State) (a0 : Array Value) (hw : ∀ d ∈ tables_1, d.before a0 Z = true) (ws : List Jvm.Cond) (q1 : Int64) (q2 : Int64) (h0 : Heap) (n0 : Nat) (Z0 : n0 ≤ h0.size) (hbd : ¬ q2 < 0) :
    MetFree l (⟨"com/example/kuusi/kuusi/core/ElementLimitReleasePinLaw", "upTo", "(JJ)J"⟩ : MethodName) (head1 (Jvm.Cond.code (⟨"com/example/kuusi/kuusi/core/ElementLimitReleasePinLaw", "upTo", "(JJ)J"⟩ : MethodName) method_3_code 6 (some .long) :: ws) ({ frames := 0, cells := 0, slots := 0, locals := 0 } : Room)) (fun a U => a = #[(.long q1), (.long q2)] ∧ Z.Warmed39 U.vm ∧ U.heap = h0) (fun _ _ _ _ _ => True) (fun _ U o U' => ∃ v L, o = .returned v ∧ Q1 Z q1 q2 h0 n0 v U'.heap L ∧ FrameEnd U o U' L ({ frames := 0, cells := 0, slots := 0, locals := 0 } : Room).cells ({ frames := 0, cells := 0, slots := 0, locals := 0 } : Room).slots) := by
  refine MetFree.of_bodySF pn1 hisR ?_
  intro p e s m args below meth c s₁ Bd hml0 hP hK
  obtain ⟨rfl, hZ, hh⟩ := hP
  have hx := Bd.exec
  have hby := Bd.bytes
  have hml : c.maxLocals = 6 := hml0
  have hown : s.vm.findClass "com/example/kuusi/kuusi/core/ElementLimitReleasePinLaw" = some m.cls := findClass_of_methodNamed Bd.named
  have hnm := (name_of_methodNamed Bd.named Bd.method).1
  have X0 : Stand p l e ({ frames := 0, cells := 0, slots := 0, locals := 0 } : Room) s m #[(.long q1), (.long q2)] below meth c s₁ [] 0 0 := Stand.of_body Bd
  have e0 : s₁.heap = h0 := by rw [← hh, Bd.state]; rfl
  have N0 := Fr.nil n0
  have p0 : Go p.tables e below (s₁.setTop (entryFrame m #[(.long q1), (.long q2)] 6)) (s₁.setTop (mkF m 0 #[.val (.long q1), .second, .val (.long q2), .second, .unset, .unset] [])) := fun t k => castTop (ef_rm1 m q1 q2) k
  have p101 : Go p.tables e below _ (s₁.setTop (mkF m 12 #[.val (.long q1), .second, .val (.long q2), .second, .val (.long (q1 &&& (9223372036854775807 : Int64))), .second] [(.int (lcmpW q2 (9223372036854775807 : Int64)))])) := fun t k => p0 t (by
    show Steps p.tables e below (s₁.setTop (mkF m 0 #[.val (.long q1), .second, .val (.long q2), .second, .unset, .unset] [])) _
    refine XS.lloadN X0.here hx rfl (hb hby d1_0) rfl ?_
    show Steps p.tables e below (s₁.setTop (mkF m 1 #[.val (.long q1), .second, .val (.long q2), .second, .unset, .unset] [(.long q1)])) _
    refine X0.ldc2Long hx hown (mvT hZ (own_w hw 0 rfl)) (g := (mkF m 1 #[.val (.long q1), .second, .val (.long q2), .second, .unset, .unset] [(.long q1)])) rfl (hb hby d1_1) _ ?_
    show Steps p.tables e below (s₁.setTop (mkF m 4 #[.val (.long q1), .second, .val (.long q2), .second, .unset, .unset] [(.long (9223372036854775807 : Int64)), (.long q1)])) _
    refine XS.land X0.here hx rfl (hb hby d1_4) rfl ?_
    show Steps p.tables e below (s₁.setTop (mkF m 5 #[.val (.long q1), .second, .val (.long q2), .second, .unset, .unset] [(.long (q1 &&& (9223372036854775807 : Int64)))])) _
    refine XS.lstore X0.here hx rfl (hb hby d1_5) rfl (l' := #[.val (.long q1), .second, .val (.long q2), .second, .val (.long (q1 &&& (9223372036854775807 : Int64))), .second]) rfl ?_
    show Steps p.tables e below (s₁.setTop (mkF m 7 #[.val (.long q1), .second, .val (.long q2), .second, .val (.long (q1 &&& (9223372036854775807 : Int64))), .second] [])) _
    refine XS.lloadN X0.here hx rfl (hb hby d1_7) rfl ?_
    show Steps p.tables e below (s₁.setTop (mkF m 8 #[.val (.long q1), .second, .val (.long q2), .second, .val (.long (q1 &&& (9223372036854775807 : Int64))), .second] [(.long q2)])) _
    refine X0.ldc2Long hx hown (mvT hZ (own_w hw 0 rfl)) (g := (mkF m 8 #[.val (.long q1), .second, .val (.long q2), .second, .val (.long (q1 &&& (9223372036854775807 : Int64))), .second] [(.long q2)])) rfl (hb hby d1_8) _ ?_
    show Steps p.tables e below (s₁.setTop (mkF m 11 #[.val (.long q1), .second, .val (.long q2), .second, .val (.long (q1 &&& (9223372036854775807 : Int64))), .second] [(.long (9223372036854775807 : Int64)), (.long q2)])) _
    refine XS.lcmp X0.here hx rfl (hb hby d1_11) rfl ?_
    show Steps p.tables e below (s₁.setTop (mkF m 12 #[.val (.long q1), .second, .val (.long q2), .second, .val (.long (q1 &&& (9223372036854775807 : Int64))), .second] [(.int (lcmpW q2 (9223372036854775807 : Int64)))])) _
    exact k)
  by_cases c102 : q2 = (9223372036854775807 : Int64)
  · have p103 : Go p.tables e below _ (s₁.setTop (mkF m 15 #[.val (.long q1), .second, .val (.long q2), .second, .val (.long (q1 &&& (9223372036854775807 : Int64))), .second] [])) := fun t k => p101 t (by
      show Steps p.tables e below (s₁.setTop (mkF m 12 #[.val (.long q1), .second, .val (.long q2), .second, .val (.long (q1 &&& (9223372036854775807 : Int64))), .second] [(.int (lcmpW q2 (9223372036854775807 : Int64)))])) _
      refine XS.ifNo X0.here hx rfl (hb hby d1_12) rfl ((if0 _ _).trans (teq ((lw_eq _ _).mpr c102)).2) ?_
      show Steps p.tables e below (s₁.setTop (mkF m 15 #[.val (.long q1), .second, .val (.long q2), .second, .val (.long (q1 &&& (9223372036854775807 : Int64))), .second] [])) _
      exact k)
    have p104 : Go p.tables e below _ (s₁.setTop (mkF m 26 #[.val (.long q1), .second, .val (.long q2), .second, .val (.long (q1 &&& (9223372036854775807 : Int64))), .second] [(.long (q1 &&& (9223372036854775807 : Int64)))])) := fun t k => p103 t (by
      show Steps p.tables e below (s₁.setTop (mkF m 15 #[.val (.long q1), .second, .val (.long q2), .second, .val (.long (q1 &&& (9223372036854775807 : Int64))), .second] [])) _
      refine XS.lload X0.here hx rfl (hb hby d1_15) rfl ?_
      show Steps p.tables e below (s₁.setTop (mkF m 17 #[.val (.long q1), .second, .val (.long q2), .second, .val (.long (q1 &&& (9223372036854775807 : Int64))), .second] [(.long (q1 &&& (9223372036854775807 : Int64)))])) _
      refine XS.goto X0.here hx rfl (pc0 := 17) (pc' := 26) rfl (hb hby d1_17) (by decide) (by decide) ?_
      show Steps p.tables e below (s₁.setTop (mkF m 26 #[.val (.long q1), .second, .val (.long q2), .second, .val (.long (q1 &&& (9223372036854775807 : Int64))), .second] [(.long (q1 &&& (9223372036854775807 : Int64)))])) _
      exact k)
    obtain ⟨fs, hr, hrun, hended, hW, hsame⟩ := X0.leave (v := some (.long (q1 &&& (9223372036854775807 : Int64)))) (fun h => by rw [Bd.returns] at h; cases h)
    refine ⟨_, _, p104 _ (retOut X0 hx (w := (.long (q1 &&& (9223372036854775807 : Int64)))) (t := .long) (i := .lreturn) Bd.returns rfl (Or.inr (Or.inl ⟨rfl, rfl, _, rfl⟩)) (hb hby d1_26) hr), hrun, hended, _, _, rfl, ?_, ⟨_, rfl⟩, hW, hsame.mono (by decide) (by decide)⟩
    show Q1 Z q1 q2 h0 n0 _ s₁.heap _
    rw [e0]
    exact ⟨by simp [own_up, c102], N0, rfl⟩
  · have p105 : Go p.tables e below _ (s₁.setTop (mkF m 20 #[.val (.long q1), .second, .val (.long q2), .second, .val (.long (q1 &&& (9223372036854775807 : Int64))), .second] [])) := fun t k => p101 t (by
      show Steps p.tables e below (s₁.setTop (mkF m 12 #[.val (.long q1), .second, .val (.long q2), .second, .val (.long (q1 &&& (9223372036854775807 : Int64))), .second] [(.int (lcmpW q2 (9223372036854775807 : Int64)))])) _
      refine XS.ifYes X0.here hx rfl (pc0 := 12) (pc' := 20) rfl (hb hby d1_12) rfl ((if0 _ _).trans (feq (mt (lw_eq _ _).mp c102)).2) (by decide) (by decide) ?_
      show Steps p.tables e below (s₁.setTop (mkF m 20 #[.val (.long q1), .second, .val (.long q2), .second, .val (.long (q1 &&& (9223372036854775807 : Int64))), .second] [])) _
      exact k)
    have p106 : Go p.tables e below _ (s₁.setTop (mkF m 26 #[.val (.long q1), .second, .val (.long q2), .second, .val (.long (q1 &&& (9223372036854775807 : Int64))), .second] [(.long ((q1 &&& (9223372036854775807 : Int64)) % (q2 + (1 : Int64))))])) := fun t k => p105 t (by
      show Steps p.tables e below (s₁.setTop (mkF m 20 #[.val (.long q1), .second, .val (.long q2), .second, .val (.long (q1 &&& (9223372036854775807 : Int64))), .second] [])) _
      refine XS.lload X0.here hx rfl (hb hby d1_20) rfl ?_
      show Steps p.tables e below (s₁.setTop (mkF m 22 #[.val (.long q1), .second, .val (.long q2), .second, .val (.long (q1 &&& (9223372036854775807 : Int64))), .second] [(.long (q1 &&& (9223372036854775807 : Int64)))])) _
      refine XS.lloadN X0.here hx rfl (hb hby d1_22) rfl ?_
      show Steps p.tables e below (s₁.setTop (mkF m 23 #[.val (.long q1), .second, .val (.long q2), .second, .val (.long (q1 &&& (9223372036854775807 : Int64))), .second] [(.long q2), (.long (q1 &&& (9223372036854775807 : Int64)))])) _
      refine XS.lconst X0.here hx rfl (hb hby d1_23) ?_
      show Steps p.tables e below (s₁.setTop (mkF m 24 #[.val (.long q1), .second, .val (.long q2), .second, .val (.long (q1 &&& (9223372036854775807 : Int64))), .second] [(.long (1 : Int64)), (.long q2), (.long (q1 &&& (9223372036854775807 : Int64)))])) _
      refine XS.ladd X0.here hx rfl (hb hby d1_24) rfl ?_
      show Steps p.tables e below (s₁.setTop (mkF m 25 #[.val (.long q1), .second, .val (.long q2), .second, .val (.long (q1 &&& (9223372036854775807 : Int64))), .second] [(.long (q2 + (1 : Int64))), (.long (q1 &&& (9223372036854775807 : Int64)))])) _
      refine Jvm.Own.lremM X0 hx rfl (hb hby d1_25) rfl (own_nz q2 hbd) ?_
      show Steps p.tables e below (s₁.setTop (mkF m 26 #[.val (.long q1), .second, .val (.long q2), .second, .val (.long (q1 &&& (9223372036854775807 : Int64))), .second] [(.long ((q1 &&& (9223372036854775807 : Int64)) % (q2 + (1 : Int64))))])) _
      exact k)
    obtain ⟨fs, hr, hrun, hended, hW, hsame⟩ := X0.leave (v := some (.long ((q1 &&& (9223372036854775807 : Int64)) % (q2 + (1 : Int64))))) (fun h => by rw [Bd.returns] at h; cases h)
    refine ⟨_, _, p106 _ (retOut X0 hx (w := (.long ((q1 &&& (9223372036854775807 : Int64)) % (q2 + (1 : Int64))))) (t := .long) (i := .lreturn) Bd.returns rfl (Or.inr (Or.inl ⟨rfl, rfl, _, rfl⟩)) (hb hby d1_26) hr), hrun, hended, _, _, rfl, ?_, ⟨_, rfl⟩, hW, hsame.mono (by decide) (by decide)⟩
    show Q1 Z q1 q2 h0 n0 _ s₁.heap _
    rw [e0]
    exact ⟨by simp [own_up, c102], N0, rfl⟩
theorem d2_0 : decode prog_31_method_2_code 0 = .ok (.aload_n 0, 1) := by decide +kernel
theorem d2_1 : decode prog_31_method_2_code 1 = .ok (.invokespecial 11, 3) := by decide +kernel
theorem d2_4 : decode prog_31_method_2_code 4 = .ok (.lload_n 1, 1) := by decide +kernel
theorem d2_5 : decode prog_31_method_2_code 5 = .ok (.lconst 0, 1) := by decide +kernel
theorem d2_6 : decode prog_31_method_2_code 6 = .ok (.lcmp, 1) := by decide +kernel
theorem d2_7 : decode prog_31_method_2_code 7 = .ok (.ifCond .ge 17, 3) := by decide +kernel
theorem d2_24 : decode prog_31_method_2_code 24 = .ok (.lload_n 3, 1) := by decide +kernel
theorem d2_25 : decode prog_31_method_2_code 25 = .ok (.lconst 0, 1) := by decide +kernel
theorem d2_26 : decode prog_31_method_2_code 26 = .ok (.lcmp, 1) := by decide +kernel
theorem d2_27 : decode prog_31_method_2_code 27 = .ok (.ifCond .ge 17, 3) := by decide +kernel
theorem d2_44 : decode prog_31_method_2_code 44 = .ok (.aload_n 0, 1) := by decide +kernel
theorem d2_45 : decode prog_31_method_2_code 45 = .ok (.lload_n 1, 1) := by decide +kernel
theorem d2_46 : decode prog_31_method_2_code 46 = .ok (.putfield 26, 3) := by decide +kernel
theorem d2_49 : decode prog_31_method_2_code 49 = .ok (.aload_n 0, 1) := by decide +kernel
theorem d2_50 : decode prog_31_method_2_code 50 = .ok (.lload_n 3, 1) := by decide +kernel
theorem d2_51 : decode prog_31_method_2_code 51 = .ok (.putfield 30, 3) := by decide +kernel
theorem d2_54 : decode prog_31_method_2_code 54 = .ok (.aload_n 0, 1) := by decide +kernel
theorem d2_55 : decode prog_31_method_2_code 55 = .ok (.aconst_null, 1) := by decide +kernel
theorem d2_56 : decode prog_31_method_2_code 56 = .ok (.putfield 33, 3) := by decide +kernel
theorem d2_59 : decode prog_31_method_2_code 59 = .ok (.aload_n 0, 1) := by decide +kernel
theorem d2_60 : decode prog_31_method_2_code 60 = .ok (.aconst_null, 1) := by decide +kernel
theorem d2_61 : decode prog_31_method_2_code 61 = .ok (.putfield 37, 3) := by decide +kernel
theorem d2_64 : decode prog_31_method_2_code 64 = .ok (.return_, 1) := by decide +kernel
theorem pn2 : plainFor (⟨"com/example/kuusi/kuusi/core/ElementLimit", "<init>", "(JJ)V"⟩ : MethodName) = true := plainFor_of_name (by first | (simp [plainName, overriddenIn]; done) | decide +kernel)
theorem ef_rm2 (m : MethodId) (a1 : Addr) (q2 : Int64) (q3 : Int64) : entryFrame m #[(.ref a1), (.long q2), (.long q3)] 5 = mkF m 0 #[.val (.ref a1), .val (.long q2), .second, .val (.long q3), .second] [] := by first | (simp [entryFrame, mkF, argsToLocals, Value.category]; done) | rfl
def Q2 (Z : State) (a1 : Addr) (q2 : Int64) (q3 : Int64) (h0 : Heap) (n0 : Nat) (v : Option Value) (h : Heap) (L : List Loc) : Prop := v = none ∧ Fr n0 L ∧ (Keep h0 h [a1]) ∧ (Fld Z h a1 "com/example/kuusi/kuusi/core/ElementLimit" "maximum" "J" (.long q2)) ∧ (Fld Z h a1 "com/example/kuusi/kuusi/core/ElementLimit" "steps" "J" (.long q3)) ∧ (Fld Z h a1 "com/example/kuusi/kuusi/core/ElementLimit" "held" "J" (.long (0 : Int64))) ∧ (Fld Z h a1 "com/example/kuusi/kuusi/core/ElementLimit" "spent" "J" (.long (0 : Int64))) ∧ (Fld Z h a1 "com/example/kuusi/kuusi/core/ElementLimit" "whole" "Lcom/example/kuusi/kuusi/core/ElementLimit;" .null) ∧ (Fld Z h a1 "com/example/kuusi/kuusi/core/ElementLimit" "sharing" "Lcom/example/kuusi/kuusi/core/ElementLimit$Sharing;" .null) ∧ (Exa Z h a1 "com/example/kuusi/kuusi/core/ElementLimit")
set_option maxRecDepth 65536 in
set_option maxHeartbeats 40000000 in
theorem rm2 (l : Launch) (Z : State) (a0 : Array Value) (hw : ∀ d ∈ tables_1, d.before a0 Z = true) (ws : List Jvm.Cond) (a1 : Addr) (q2 : Int64) (q3 : Int64) (h0 : Heap) (n0 : Nat) (Z0 : n0 ≤ h0.size) (F0 : Fld Z h0 a1 "com/example/kuusi/kuusi/core/ElementLimit" "maximum" "J" (.long (0 : Int64))) (F1 : Fld Z h0 a1 "com/example/kuusi/kuusi/core/ElementLimit" "steps" "J" (.long (0 : Int64))) (F2 : Fld Z h0 a1 "com/example/kuusi/kuusi/core/ElementLimit" "held" "J" (.long (0 : Int64))) (F3 : Fld Z h0 a1 "com/example/kuusi/kuusi/core/ElementLimit" "spent" "J" (.long (0 : Int64))) (F4 : Fld Z h0 a1 "com/example/kuusi/kuusi/core/ElementLimit" "whole" "Lcom/example/kuusi/kuusi/core/ElementLimit;" .null) (F5 : Fld Z h0 a1 "com/example/kuusi/kuusi/core/ElementLimit" "sharing" "Lcom/example/kuusi/kuusi/core/ElementLimit$Sharing;" .null) (E1 : Exa Z h0 a1 "com/example/kuusi/kuusi/core/ElementLimit") (g1 : n0 ≤ a1) (hm : ¬ q2 < (0 : Int64)) (hs : ¬ q3 < (0 : Int64)) :
    MetFree l (⟨"com/example/kuusi/kuusi/core/ElementLimit", "<init>", "(JJ)V"⟩ : MethodName) (head1 (Jvm.Cond.code (⟨"com/example/kuusi/kuusi/core/ElementLimit", "<init>", "(JJ)V"⟩ : MethodName) prog_31_method_2_code 5 none :: ws) ({ frames := 1, cells := 0, slots := 0, locals := 12 } : Room)) (fun a U => a = #[(.ref a1), (.long q2), (.long q3)] ∧ Z.Warmed39 U.vm ∧ U.heap = h0) (fun _ _ _ _ _ => True) (fun _ U o U' => ∃ v L, o = .returned v ∧ Q2 Z a1 q2 q3 h0 n0 v U'.heap L ∧ FrameEnd U o U' L ({ frames := 1, cells := 0, slots := 0, locals := 12 } : Room).cells ({ frames := 1, cells := 0, slots := 0, locals := 12 } : Room).slots) := by
  refine MetFree.of_bodySF pn2 hisR ?_
  intro p e s m args below meth c s₁ Bd hml0 hP hK
  obtain ⟨rfl, hZ, hh⟩ := hP
  have hx := Bd.exec
  have hby := Bd.bytes
  have hml : c.maxLocals = 5 := hml0
  have hown : s.vm.findClass "com/example/kuusi/kuusi/core/ElementLimit" = some m.cls := findClass_of_methodNamed Bd.named
  have hnm := (name_of_methodNamed Bd.named Bd.method).1
  have X0 : Stand p l e ({ frames := 1, cells := 0, slots := 0, locals := 12 } : Room) s m #[(.ref a1), (.long q2), (.long q3)] below meth c s₁ [] 0 0 := Stand.of_body Bd
  have e0 : s₁.heap = h0 := by rw [← hh, Bd.state]; rfl
  have N0 := Fr.nil n0
  have p0 : Go p.tables e below (s₁.setTop (entryFrame m #[(.ref a1), (.long q2), (.long q3)] 5)) (s₁.setTop (mkF m 0 #[.val (.ref a1), .val (.long q2), .second, .val (.long q3), .second] [])) := fun t k => castTop (ef_rm2 m a1 q2 q3) k
  have p101 : Go p.tables e below _ (s₁.setTop (mkF m 1 #[.val (.ref a1), .val (.long q2), .second, .val (.long q3), .second] [(.ref a1)])) := fun t k => p0 t (by
    show Steps p.tables e below (s₁.setTop (mkF m 0 #[.val (.ref a1), .val (.long q2), .second, .val (.long q3), .second] [])) _
    refine XS.aloadN X0.here hx rfl (hb hby d2_0) rfl rfl ?_
    show Steps p.tables e below (s₁.setTop (mkF m 1 #[.val (.ref a1), .val (.long q2), .second, .val (.long q3), .second] [(.ref a1)])) _
    exact k)
  obtain ⟨T102, X102, e102, st102⟩ := initO X0 hx hZ hown (own_w hw 11 rfl) (own_w hw 12 rfl) (own_w hw 13 rfl) e0 (g := (mkF m 1 #[.val (.ref a1), .val (.long q2), .second, .val (.long q3), .second] [(.ref a1)])) rfl (by rw [hml]; rfl) rfl (hb hby d2_1) (by decide) (W := 0) (by show 2 * 0 + _ ≤ _; exact Nat.le_of_eq rfl) (by decide)
  have p103 : Go p.tables e below _ (T102.setTop (mkF m 4 #[.val (.ref a1), .val (.long q2), .second, .val (.long q3), .second] [])) := fun t k => p101 t (st102 t k)
  have p104 : Go p.tables e below _ (T102.setTop (mkF m 7 #[.val (.ref a1), .val (.long q2), .second, .val (.long q3), .second] [(.int (lcmpW q2 (0 : Int64)))])) := fun t k => p103 t (by
    show Steps p.tables e below (T102.setTop (mkF m 4 #[.val (.ref a1), .val (.long q2), .second, .val (.long q3), .second] [])) _
    refine XS.lloadN X102.here hx rfl (hb hby d2_4) rfl ?_
    show Steps p.tables e below (T102.setTop (mkF m 5 #[.val (.ref a1), .val (.long q2), .second, .val (.long q3), .second] [(.long q2)])) _
    refine XS.lconst X102.here hx rfl (hb hby d2_5) ?_
    show Steps p.tables e below (T102.setTop (mkF m 6 #[.val (.ref a1), .val (.long q2), .second, .val (.long q3), .second] [(.long (0 : Int64)), (.long q2)])) _
    refine XS.lcmp X102.here hx rfl (hb hby d2_6) rfl ?_
    show Steps p.tables e below (T102.setTop (mkF m 7 #[.val (.ref a1), .val (.long q2), .second, .val (.long q3), .second] [(.int (lcmpW q2 (0 : Int64)))])) _
    exact k)
  have c105 : ¬ (q2 < (0 : Int64)) := hm
  have p106 : Go p.tables e below _ (T102.setTop (mkF m 27 #[.val (.ref a1), .val (.long q2), .second, .val (.long q3), .second] [(.int (lcmpW q3 (0 : Int64)))])) := fun t k => p104 t (by
    show Steps p.tables e below (T102.setTop (mkF m 7 #[.val (.ref a1), .val (.long q2), .second, .val (.long q3), .second] [(.int (lcmpW q2 (0 : Int64)))])) _
    refine XS.ifYes X102.here hx rfl (pc0 := 7) (pc' := 24) rfl (hb hby d2_7) rfl ((if0 _ _).trans (flt (mt (lw_lt _ _).mp c105)).2.1) (by decide) (by decide) ?_
    show Steps p.tables e below (T102.setTop (mkF m 24 #[.val (.ref a1), .val (.long q2), .second, .val (.long q3), .second] [])) _
    refine XS.lloadN X102.here hx rfl (hb hby d2_24) rfl ?_
    show Steps p.tables e below (T102.setTop (mkF m 25 #[.val (.ref a1), .val (.long q2), .second, .val (.long q3), .second] [(.long q3)])) _
    refine XS.lconst X102.here hx rfl (hb hby d2_25) ?_
    show Steps p.tables e below (T102.setTop (mkF m 26 #[.val (.ref a1), .val (.long q2), .second, .val (.long q3), .second] [(.long (0 : Int64)), (.long q3)])) _
    refine XS.lcmp X102.here hx rfl (hb hby d2_26) rfl ?_
    show Steps p.tables e below (T102.setTop (mkF m 27 #[.val (.ref a1), .val (.long q2), .second, .val (.long q3), .second] [(.int (lcmpW q3 (0 : Int64)))])) _
    exact k)
  have c107 : ¬ (q3 < (0 : Int64)) := hs
  have p108 : Go p.tables e below _ (T102.setTop (mkF m 46 #[.val (.ref a1), .val (.long q2), .second, .val (.long q3), .second] [(.long q2), (.ref a1)])) := fun t k => p106 t (by
    show Steps p.tables e below (T102.setTop (mkF m 27 #[.val (.ref a1), .val (.long q2), .second, .val (.long q3), .second] [(.int (lcmpW q3 (0 : Int64)))])) _
    refine XS.ifYes X102.here hx rfl (pc0 := 27) (pc' := 44) rfl (hb hby d2_27) rfl ((if0 _ _).trans (flt (mt (lw_lt _ _).mp c107)).2.1) (by decide) (by decide) ?_
    show Steps p.tables e below (T102.setTop (mkF m 44 #[.val (.ref a1), .val (.long q2), .second, .val (.long q3), .second] [])) _
    refine XS.aloadN X102.here hx rfl (hb hby d2_44) rfl rfl ?_
    show Steps p.tables e below (T102.setTop (mkF m 45 #[.val (.ref a1), .val (.long q2), .second, .val (.long q3), .second] [(.ref a1)])) _
    refine XS.lloadN X102.here hx rfl (hb hby d2_45) rfl ?_
    show Steps p.tables e below (T102.setTop (mkF m 46 #[.val (.ref a1), .val (.long q2), .second, .val (.long q3), .second] [(.long q2), (.ref a1)])) _
    exact k)
  obtain ⟨T109, h109, X109, e109, W109, st109⟩ := putF X102 hx hZ hown (host := "") (Or.inl (own_w hw 14 rfl)) Via.refl e102 F0 E1 (Or.inr ⟨(own_w hw 15 rfl), rfl, hnm⟩) (own_w hw 6 rfl) (ty := .long) (by decide) rfl rfl (g := (mkF m 46 #[.val (.ref a1), .val (.long q2), .second, .val (.long q3), .second] [(.long q2), (.ref a1)])) rfl rfl (hb hby d2_46)
  have K110 : Keep h0 h109 [a1] := (Keep.refl h0 [a1]).wr W109 (Or.inl (List.mem_of_getElem? (i := 0) rfl))
  have N109 := Fr.snoc X109 N0 g1
  have p111 : Go p.tables e below _ (T109.setTop (mkF m 49 #[.val (.ref a1), .val (.long q2), .second, .val (.long q3), .second] [])) := fun t k => p108 t (st109 t k)
  have F109 : Fld Z h109 a1 "com/example/kuusi/kuusi/core/ElementLimit" "maximum" "J" (.long q2) := F0.same W109
  have p112 : Go p.tables e below _ (T109.setTop (mkF m 51 #[.val (.ref a1), .val (.long q2), .second, .val (.long q3), .second] [(.long q3), (.ref a1)])) := fun t k => p111 t (by
    show Steps p.tables e below (T109.setTop (mkF m 49 #[.val (.ref a1), .val (.long q2), .second, .val (.long q3), .second] [])) _
    refine XS.aloadN X109.here hx rfl (hb hby d2_49) rfl rfl ?_
    show Steps p.tables e below (T109.setTop (mkF m 50 #[.val (.ref a1), .val (.long q2), .second, .val (.long q3), .second] [(.ref a1)])) _
    refine XS.lloadN X109.here hx rfl (hb hby d2_50) rfl ?_
    show Steps p.tables e below (T109.setTop (mkF m 51 #[.val (.ref a1), .val (.long q2), .second, .val (.long q3), .second] [(.long q3), (.ref a1)])) _
    exact k)
  have f113 := (F1.other W109 (Or.inr (slot_ne (Or.inr (own_w hw 17 rfl)) (Or.inr (own_w hw 15 rfl)) (by decide) (t := .long) (t' := .long) (by decide) (by decide))))
  have f114 := (E1.wr W109)
  obtain ⟨T115, h115, X115, e115, W115, st115⟩ := putF X109 hx hZ hown (host := "") (Or.inl (own_w hw 16 rfl)) Via.refl e109 f113 f114 (Or.inr ⟨(own_w hw 17 rfl), rfl, hnm⟩) (own_w hw 6 rfl) (ty := .long) (by decide) rfl rfl (g := (mkF m 51 #[.val (.ref a1), .val (.long q2), .second, .val (.long q3), .second] [(.long q3), (.ref a1)])) rfl rfl (hb hby d2_51)
  have K116 : Keep h0 h115 [a1] := K110.wr W115 (Or.inl (List.mem_of_getElem? (i := 0) rfl))
  have N115 := Fr.snoc X115 N109 g1
  have p117 : Go p.tables e below _ (T115.setTop (mkF m 54 #[.val (.ref a1), .val (.long q2), .second, .val (.long q3), .second] [])) := fun t k => p112 t (st115 t k)
  have F115 : Fld Z h115 a1 "com/example/kuusi/kuusi/core/ElementLimit" "steps" "J" (.long q3) := f113.same W115
  have p118 : Go p.tables e below _ (T115.setTop (mkF m 56 #[.val (.ref a1), .val (.long q2), .second, .val (.long q3), .second] [.null, (.ref a1)])) := fun t k => p117 t (by
    show Steps p.tables e below (T115.setTop (mkF m 54 #[.val (.ref a1), .val (.long q2), .second, .val (.long q3), .second] [])) _
    refine XS.aloadN X115.here hx rfl (hb hby d2_54) rfl rfl ?_
    show Steps p.tables e below (T115.setTop (mkF m 55 #[.val (.ref a1), .val (.long q2), .second, .val (.long q3), .second] [(.ref a1)])) _
    refine XS.aconstNull X115.here hx rfl (hb hby d2_55) ?_
    show Steps p.tables e below (T115.setTop (mkF m 56 #[.val (.ref a1), .val (.long q2), .second, .val (.long q3), .second] [.null, (.ref a1)])) _
    exact k)
  have f119 := ((F4.other W109 (Or.inr (slot_ne (Or.inr (own_w hw 19 rfl)) (Or.inr (own_w hw 15 rfl)) (by decide) (t := (.object "com/example/kuusi/kuusi/core/ElementLimit")) (t' := .long) (by decide) (by decide)))).other W115 (Or.inr (slot_ne (Or.inr (own_w hw 19 rfl)) (Or.inr (own_w hw 17 rfl)) (by decide) (t := (.object "com/example/kuusi/kuusi/core/ElementLimit")) (t' := .long) (by decide) (by decide))))
  have f120 := (f114.wr W115)
  obtain ⟨T121, h121, X121, e121, W121, st121⟩ := putF X115 hx hZ hown (host := "") (Or.inl (own_w hw 18 rfl)) Via.refl e115 f119 f120 (Or.inr ⟨(own_w hw 19 rfl), rfl, hnm⟩) (own_w hw 6 rfl) (ty := (.object "com/example/kuusi/kuusi/core/ElementLimit")) (by decide) rfl rfl (g := (mkF m 56 #[.val (.ref a1), .val (.long q2), .second, .val (.long q3), .second] [.null, (.ref a1)])) rfl rfl (hb hby d2_56)
  have K122 : Keep h0 h121 [a1] := K116.wr W121 (Or.inl (List.mem_of_getElem? (i := 0) rfl))
  have N121 := Fr.snoc X121 N115 g1
  have p123 : Go p.tables e below _ (T121.setTop (mkF m 59 #[.val (.ref a1), .val (.long q2), .second, .val (.long q3), .second] [])) := fun t k => p118 t (st121 t k)
  have F121 : Fld Z h121 a1 "com/example/kuusi/kuusi/core/ElementLimit" "whole" "Lcom/example/kuusi/kuusi/core/ElementLimit;" .null := f119.same W121
  have p124 : Go p.tables e below _ (T121.setTop (mkF m 61 #[.val (.ref a1), .val (.long q2), .second, .val (.long q3), .second] [.null, (.ref a1)])) := fun t k => p123 t (by
    show Steps p.tables e below (T121.setTop (mkF m 59 #[.val (.ref a1), .val (.long q2), .second, .val (.long q3), .second] [])) _
    refine XS.aloadN X121.here hx rfl (hb hby d2_59) rfl rfl ?_
    show Steps p.tables e below (T121.setTop (mkF m 60 #[.val (.ref a1), .val (.long q2), .second, .val (.long q3), .second] [(.ref a1)])) _
    refine XS.aconstNull X121.here hx rfl (hb hby d2_60) ?_
    show Steps p.tables e below (T121.setTop (mkF m 61 #[.val (.ref a1), .val (.long q2), .second, .val (.long q3), .second] [.null, (.ref a1)])) _
    exact k)
  have f125 := (((F5.other W109 (Or.inr (slot_ne (Or.inr (own_w hw 21 rfl)) (Or.inr (own_w hw 15 rfl)) (by decide) (t := (.object "com/example/kuusi/kuusi/core/ElementLimit$Sharing")) (t' := .long) (by decide) (by decide)))).other W115 (Or.inr (slot_ne (Or.inr (own_w hw 21 rfl)) (Or.inr (own_w hw 17 rfl)) (by decide) (t := (.object "com/example/kuusi/kuusi/core/ElementLimit$Sharing")) (t' := .long) (by decide) (by decide)))).other W121 (Or.inr (slot_ne (Or.inr (own_w hw 21 rfl)) (Or.inr (own_w hw 19 rfl)) (by decide) (t := (.object "com/example/kuusi/kuusi/core/ElementLimit$Sharing")) (t' := (.object "com/example/kuusi/kuusi/core/ElementLimit")) (by decide) (by decide))))
  have f126 := (f120.wr W121)
  obtain ⟨T127, h127, X127, e127, W127, st127⟩ := putF X121 hx hZ hown (host := "") (Or.inl (own_w hw 20 rfl)) Via.refl e121 f125 f126 (Or.inr ⟨(own_w hw 21 rfl), rfl, hnm⟩) (own_w hw 6 rfl) (ty := (.object "com/example/kuusi/kuusi/core/ElementLimit$Sharing")) (by decide) rfl rfl (g := (mkF m 61 #[.val (.ref a1), .val (.long q2), .second, .val (.long q3), .second] [.null, (.ref a1)])) rfl rfl (hb hby d2_61)
  have K128 : Keep h0 h127 [a1] := K122.wr W127 (Or.inl (List.mem_of_getElem? (i := 0) rfl))
  have N127 := Fr.snoc X127 N121 g1
  have p129 : Go p.tables e below _ (T127.setTop (mkF m 64 #[.val (.ref a1), .val (.long q2), .second, .val (.long q3), .second] [])) := fun t k => p124 t (st127 t k)
  have F127 : Fld Z h127 a1 "com/example/kuusi/kuusi/core/ElementLimit" "sharing" "Lcom/example/kuusi/kuusi/core/ElementLimit$Sharing;" .null := f125.same W127
  have f130 := (((F109.other W115 (Or.inr (slot_ne (Or.inr (own_w hw 15 rfl)) (Or.inr (own_w hw 17 rfl)) (by decide) (t := .long) (t' := .long) (by decide) (by decide)))).other W121 (Or.inr (slot_ne (Or.inr (own_w hw 15 rfl)) (Or.inr (own_w hw 19 rfl)) (by decide) (t := .long) (t' := (.object "com/example/kuusi/kuusi/core/ElementLimit")) (by decide) (by decide)))).other W127 (Or.inr (slot_ne (Or.inr (own_w hw 15 rfl)) (Or.inr (own_w hw 21 rfl)) (by decide) (t := .long) (t' := (.object "com/example/kuusi/kuusi/core/ElementLimit$Sharing")) (by decide) (by decide))))
  have f131 := ((F115.other W121 (Or.inr (slot_ne (Or.inr (own_w hw 17 rfl)) (Or.inr (own_w hw 19 rfl)) (by decide) (t := .long) (t' := (.object "com/example/kuusi/kuusi/core/ElementLimit")) (by decide) (by decide)))).other W127 (Or.inr (slot_ne (Or.inr (own_w hw 17 rfl)) (Or.inr (own_w hw 21 rfl)) (by decide) (t := .long) (t' := (.object "com/example/kuusi/kuusi/core/ElementLimit$Sharing")) (by decide) (by decide))))
  have f132 := ((((F2.other W109 (Or.inr (slot_ne (Or.inl (own_w hw 37 rfl)) (Or.inr (own_w hw 15 rfl)) (by decide) (t := .long) (t' := .long) (by decide) (by decide)))).other W115 (Or.inr (slot_ne (Or.inl (own_w hw 37 rfl)) (Or.inr (own_w hw 17 rfl)) (by decide) (t := .long) (t' := .long) (by decide) (by decide)))).other W121 (Or.inr (slot_ne (Or.inl (own_w hw 37 rfl)) (Or.inr (own_w hw 19 rfl)) (by decide) (t := .long) (t' := (.object "com/example/kuusi/kuusi/core/ElementLimit")) (by decide) (by decide)))).other W127 (Or.inr (slot_ne (Or.inl (own_w hw 37 rfl)) (Or.inr (own_w hw 21 rfl)) (by decide) (t := .long) (t' := (.object "com/example/kuusi/kuusi/core/ElementLimit$Sharing")) (by decide) (by decide))))
  have f133 := ((((F3.other W109 (Or.inr (slot_ne (Or.inl (own_w hw 53 rfl)) (Or.inr (own_w hw 15 rfl)) (by decide) (t := .long) (t' := .long) (by decide) (by decide)))).other W115 (Or.inr (slot_ne (Or.inl (own_w hw 53 rfl)) (Or.inr (own_w hw 17 rfl)) (by decide) (t := .long) (t' := .long) (by decide) (by decide)))).other W121 (Or.inr (slot_ne (Or.inl (own_w hw 53 rfl)) (Or.inr (own_w hw 19 rfl)) (by decide) (t := .long) (t' := (.object "com/example/kuusi/kuusi/core/ElementLimit")) (by decide) (by decide)))).other W127 (Or.inr (slot_ne (Or.inl (own_w hw 53 rfl)) (Or.inr (own_w hw 21 rfl)) (by decide) (t := .long) (t' := (.object "com/example/kuusi/kuusi/core/ElementLimit$Sharing")) (by decide) (by decide))))
  have f134 := (F121.other W127 (Or.inr (slot_ne (Or.inr (own_w hw 19 rfl)) (Or.inr (own_w hw 21 rfl)) (by decide) (t := (.object "com/example/kuusi/kuusi/core/ElementLimit")) (t' := (.object "com/example/kuusi/kuusi/core/ElementLimit$Sharing")) (by decide) (by decide))))
  have f135 := (f126.wr W127)
  obtain ⟨fs, hr, hrun, hended, hW, hsame⟩ := X127.leave (v := none) (fun _ => rfl)
  refine ⟨_, _, p129 _ (X127.returnOut hx Bd.returns (hb hby d2_64) hr), hrun, hended, _, _, rfl, ?_, ⟨_, rfl⟩, hW, hsame.mono (by decide) (by decide)⟩
  show Q2 Z a1 q2 q3 h0 n0 _ T127.heap _
  rw [e127]
  exact ⟨rfl, N127, K128, f130, f131, f132, f133, f134, F127, f135⟩
theorem d6_0 : decode prog_31_method_9_code 0 = .ok (.lload_n 1, 1) := by decide +kernel
theorem d6_1 : decode prog_31_method_9_code 1 = .ok (.aload_n 0, 1) := by decide +kernel
theorem d6_2 : decode prog_31_method_9_code 2 = .ok (.getfield 26, 3) := by decide +kernel
theorem d6_5 : decode prog_31_method_9_code 5 = .ok (.aload_n 0, 1) := by decide +kernel
theorem d6_6 : decode prog_31_method_9_code 6 = .ok (.getfield 66, 3) := by decide +kernel
theorem d6_9 : decode prog_31_method_9_code 9 = .ok (.lsub, 1) := by decide +kernel
theorem d6_10 : decode prog_31_method_9_code 10 = .ok (.lcmp, 1) := by decide +kernel
theorem d6_11 : decode prog_31_method_9_code 11 = .ok (.ifCond .gt 25, 3) := by decide +kernel
theorem d6_14 : decode prog_31_method_9_code 14 = .ok (.aload_n 0, 1) := by decide +kernel
theorem d6_15 : decode prog_31_method_9_code 15 = .ok (.getfield 33, 3) := by decide +kernel
theorem d6_18 : decode prog_31_method_9_code 18 = .ok (.ifnull 14, 3) := by decide +kernel
theorem d6_32 : decode prog_31_method_9_code 32 = .ok (.iconst 1, 1) := by decide +kernel
theorem d6_33 : decode prog_31_method_9_code 33 = .ok (.goto 4, 3) := by decide +kernel
theorem d6_36 : decode prog_31_method_9_code 36 = .ok (.iconst 0, 1) := by decide +kernel
theorem d6_37 : decode prog_31_method_9_code 37 = .ok (.ireturn, 1) := by decide +kernel
theorem pn6 : plainFor (⟨"com/example/kuusi/kuusi/core/ElementLimit", "hasRoom", "(J)Z"⟩ : MethodName) = true := plainFor_of_name (by first | (simp [plainName, overriddenIn]; done) | decide +kernel)
theorem ef_rm6 (m : MethodId) (a1 : Addr) (q2 : Int64) (mx : Int64) (sx : Int64) (hd : Int64) : entryFrame m #[(.ref a1), (.long q2)] 3 = mkF m 0 #[.val (.ref a1), .val (.long q2), .second] [] := by first | (simp [entryFrame, mkF, argsToLocals, Value.category]; done) | rfl
def Q6 (Z : State) (a1 : Addr) (q2 : Int64) (mx : Int64) (sx : Int64) (hd : Int64) (h0 : Heap) (n0 : Nat) (v : Option Value) (h : Heap) (L : List Loc) : Prop := v = some (.int (own_hr mx hd q2)) ∧ Fr n0 L ∧ (h = h0)
set_option maxRecDepth 65536 in
set_option maxHeartbeats 40000000 in
theorem rm6 (l : Launch) (Z : State) (a0 : Array Value) (hw : ∀ d ∈ tables_1, d.before a0 Z = true) (ws : List Jvm.Cond) (a1 : Addr) (q2 : Int64) (mx : Int64) (sx : Int64) (hd : Int64) (h0 : Heap) (n0 : Nat) (Z0 : n0 ≤ h0.size) (F0 : Fld Z h0 a1 "com/example/kuusi/kuusi/core/ElementLimit" "maximum" "J" (.long mx)) (F1 : Fld Z h0 a1 "com/example/kuusi/kuusi/core/ElementLimit" "steps" "J" (.long sx)) (F2 : Fld Z h0 a1 "com/example/kuusi/kuusi/core/ElementLimit" "held" "J" (.long hd)) (F3 : Fld Z h0 a1 "com/example/kuusi/kuusi/core/ElementLimit" "spent" "J" (.long (0 : Int64))) (F4 : Fld Z h0 a1 "com/example/kuusi/kuusi/core/ElementLimit" "whole" "Lcom/example/kuusi/kuusi/core/ElementLimit;" .null) (F5 : Fld Z h0 a1 "com/example/kuusi/kuusi/core/ElementLimit" "sharing" "Lcom/example/kuusi/kuusi/core/ElementLimit$Sharing;" .null) (E1 : Exa Z h0 a1 "com/example/kuusi/kuusi/core/ElementLimit") :
    MetFree l (⟨"com/example/kuusi/kuusi/core/ElementLimit", "hasRoom", "(J)Z"⟩ : MethodName) (head1 (Jvm.Cond.code (⟨"com/example/kuusi/kuusi/core/ElementLimit", "hasRoom", "(J)Z"⟩ : MethodName) prog_31_method_9_code 3 (some .boolean) :: ws) ({ frames := 0, cells := 0, slots := 0, locals := 0 } : Room)) (fun a U => a = #[(.ref a1), (.long q2)] ∧ Z.Warmed39 U.vm ∧ U.heap = h0) (fun _ _ _ _ _ => True) (fun _ U o U' => ∃ v L, o = .returned v ∧ Q6 Z a1 q2 mx sx hd h0 n0 v U'.heap L ∧ FrameEnd U o U' L ({ frames := 0, cells := 0, slots := 0, locals := 0 } : Room).cells ({ frames := 0, cells := 0, slots := 0, locals := 0 } : Room).slots) := by
  refine MetFree.of_bodySF pn6 hisR ?_
  intro p e s m args below meth c s₁ Bd hml0 hP hK
  obtain ⟨rfl, hZ, hh⟩ := hP
  have hx := Bd.exec
  have hby := Bd.bytes
  have hml : c.maxLocals = 3 := hml0
  have hown : s.vm.findClass "com/example/kuusi/kuusi/core/ElementLimit" = some m.cls := findClass_of_methodNamed Bd.named
  have hnm := (name_of_methodNamed Bd.named Bd.method).1
  have X0 : Stand p l e ({ frames := 0, cells := 0, slots := 0, locals := 0 } : Room) s m #[(.ref a1), (.long q2)] below meth c s₁ [] 0 0 := Stand.of_body Bd
  have e0 : s₁.heap = h0 := by rw [← hh, Bd.state]; rfl
  have N0 := Fr.nil n0
  have p0 : Go p.tables e below (s₁.setTop (entryFrame m #[(.ref a1), (.long q2)] 3)) (s₁.setTop (mkF m 0 #[.val (.ref a1), .val (.long q2), .second] [])) := fun t k => castTop (ef_rm6 m a1 q2 mx sx hd) k
  have p101 : Go p.tables e below _ (s₁.setTop (mkF m 2 #[.val (.ref a1), .val (.long q2), .second] [(.ref a1), (.long q2)])) := fun t k => p0 t (by
    show Steps p.tables e below (s₁.setTop (mkF m 0 #[.val (.ref a1), .val (.long q2), .second] [])) _
    refine XS.lloadN X0.here hx rfl (hb hby d6_0) rfl ?_
    show Steps p.tables e below (s₁.setTop (mkF m 1 #[.val (.ref a1), .val (.long q2), .second] [(.long q2)])) _
    refine XS.aloadN X0.here hx rfl (hb hby d6_1) rfl rfl ?_
    show Steps p.tables e below (s₁.setTop (mkF m 2 #[.val (.ref a1), .val (.long q2), .second] [(.ref a1), (.long q2)])) _
    exact k)
  obtain ⟨T102, X102, e102, st102⟩ := getF X0 hx hZ hown (host := "") (Or.inl (own_w hw 14 rfl)) Via.refl e0 F0 (g := (mkF m 2 #[.val (.ref a1), .val (.long q2), .second] [(.ref a1), (.long q2)])) rfl rfl (hb hby d6_2)
  have p103 : Go p.tables e below _ (T102.setTop (mkF m 5 #[.val (.ref a1), .val (.long q2), .second] [(.long mx), (.long q2)])) := fun t k => p101 t (st102 t k)
  have p104 : Go p.tables e below _ (T102.setTop (mkF m 6 #[.val (.ref a1), .val (.long q2), .second] [(.ref a1), (.long mx), (.long q2)])) := fun t k => p103 t (by
    show Steps p.tables e below (T102.setTop (mkF m 5 #[.val (.ref a1), .val (.long q2), .second] [(.long mx), (.long q2)])) _
    refine XS.aloadN X102.here hx rfl (hb hby d6_5) rfl rfl ?_
    show Steps p.tables e below (T102.setTop (mkF m 6 #[.val (.ref a1), .val (.long q2), .second] [(.ref a1), (.long mx), (.long q2)])) _
    exact k)
  obtain ⟨T105, X105, e105, st105⟩ := getF X102 hx hZ hown (host := "") (Or.inl (own_w hw 36 rfl)) Via.refl e102 F2 (g := (mkF m 6 #[.val (.ref a1), .val (.long q2), .second] [(.ref a1), (.long mx), (.long q2)])) rfl rfl (hb hby d6_6)
  have p106 : Go p.tables e below _ (T105.setTop (mkF m 9 #[.val (.ref a1), .val (.long q2), .second] [(.long hd), (.long mx), (.long q2)])) := fun t k => p104 t (st105 t k)
  have p107 : Go p.tables e below _ (T105.setTop (mkF m 11 #[.val (.ref a1), .val (.long q2), .second] [(.int (lcmpW q2 (mx - hd)))])) := fun t k => p106 t (by
    show Steps p.tables e below (T105.setTop (mkF m 9 #[.val (.ref a1), .val (.long q2), .second] [(.long hd), (.long mx), (.long q2)])) _
    refine XS.lsub X105.here hx rfl (hb hby d6_9) rfl ?_
    show Steps p.tables e below (T105.setTop (mkF m 10 #[.val (.ref a1), .val (.long q2), .second] [(.long (mx - hd)), (.long q2)])) _
    refine XS.lcmp X105.here hx rfl (hb hby d6_10) rfl ?_
    show Steps p.tables e below (T105.setTop (mkF m 11 #[.val (.ref a1), .val (.long q2), .second] [(.int (lcmpW q2 (mx - hd)))])) _
    exact k)
  by_cases c108 : (mx - hd) < q2
  · have p109 : Go p.tables e below _ (T105.setTop (mkF m 36 #[.val (.ref a1), .val (.long q2), .second] [])) := fun t k => p107 t (by
      show Steps p.tables e below (T105.setTop (mkF m 11 #[.val (.ref a1), .val (.long q2), .second] [(.int (lcmpW q2 (mx - hd)))])) _
      refine XS.ifYes X105.here hx rfl (pc0 := 11) (pc' := 36) rfl (hb hby d6_11) rfl ((if0 _ _).trans (tlt ((lw_gt _ _).mpr c108)).2.2.1) (by decide) (by decide) ?_
      show Steps p.tables e below (T105.setTop (mkF m 36 #[.val (.ref a1), .val (.long q2), .second] [])) _
      exact k)
    have p110 : Go p.tables e below _ (T105.setTop (mkF m 37 #[.val (.ref a1), .val (.long q2), .second] [(.int (0 : Int32))])) := fun t k => p109 t (by
      show Steps p.tables e below (T105.setTop (mkF m 36 #[.val (.ref a1), .val (.long q2), .second] [])) _
      refine XS.iconst X105.here hx rfl (hb hby d6_36) ?_
      show Steps p.tables e below (T105.setTop (mkF m 37 #[.val (.ref a1), .val (.long q2), .second] [(.int (0 : Int32))])) _
      exact k)
    obtain ⟨fs, hr, hrun, hended, hW, hsame⟩ := X105.leave (v := some (.int (0 : Int32))) (fun h => by rw [Bd.returns] at h; cases h)
    refine ⟨_, _, p110 _ (retN X105 hx (t := .boolean) Bd.returns (by simp) (hb hby d6_37) hr), hrun, hended, _, _, rfl, ?_, ⟨_, rfl⟩, hW, hsame.mono (by decide) (by decide)⟩
    show Q6 Z a1 q2 mx sx hd h0 n0 _ T105.heap _
    rw [e105]
    exact ⟨by simp [own_hr, c108], N0, rfl⟩
  · have p111 : Go p.tables e below _ (T105.setTop (mkF m 14 #[.val (.ref a1), .val (.long q2), .second] [])) := fun t k => p107 t (by
      show Steps p.tables e below (T105.setTop (mkF m 11 #[.val (.ref a1), .val (.long q2), .second] [(.int (lcmpW q2 (mx - hd)))])) _
      refine XS.ifNo X105.here hx rfl (hb hby d6_11) rfl ((if0 _ _).trans (flt (mt (lw_gt _ _).mp c108)).2.2.1) ?_
      show Steps p.tables e below (T105.setTop (mkF m 14 #[.val (.ref a1), .val (.long q2), .second] [])) _
      exact k)
    have p112 : Go p.tables e below _ (T105.setTop (mkF m 15 #[.val (.ref a1), .val (.long q2), .second] [(.ref a1)])) := fun t k => p111 t (by
      show Steps p.tables e below (T105.setTop (mkF m 14 #[.val (.ref a1), .val (.long q2), .second] [])) _
      refine XS.aloadN X105.here hx rfl (hb hby d6_14) rfl rfl ?_
      show Steps p.tables e below (T105.setTop (mkF m 15 #[.val (.ref a1), .val (.long q2), .second] [(.ref a1)])) _
      exact k)
    obtain ⟨T113, X113, e113, st113⟩ := getF X105 hx hZ hown (host := "") (Or.inl (own_w hw 18 rfl)) Via.refl e105 F4 (g := (mkF m 15 #[.val (.ref a1), .val (.long q2), .second] [(.ref a1)])) rfl rfl (hb hby d6_15)
    have p114 : Go p.tables e below _ (T113.setTop (mkF m 18 #[.val (.ref a1), .val (.long q2), .second] [.null])) := fun t k => p112 t (st113 t k)
    have p115 : Go p.tables e below _ (T113.setTop (mkF m 37 #[.val (.ref a1), .val (.long q2), .second] [(.int (1 : Int32))])) := fun t k => p114 t (by
      show Steps p.tables e below (T113.setTop (mkF m 18 #[.val (.ref a1), .val (.long q2), .second] [.null])) _
      refine XS.ifnullYes X113.here hx rfl (pc0 := 18) (pc' := 32) rfl (hb hby d6_18) rfl (by decide) (by decide) ?_
      show Steps p.tables e below (T113.setTop (mkF m 32 #[.val (.ref a1), .val (.long q2), .second] [])) _
      refine XS.iconst X113.here hx rfl (hb hby d6_32) ?_
      show Steps p.tables e below (T113.setTop (mkF m 33 #[.val (.ref a1), .val (.long q2), .second] [(.int (1 : Int32))])) _
      refine XS.goto X113.here hx rfl (pc0 := 33) (pc' := 37) rfl (hb hby d6_33) (by decide) (by decide) ?_
      show Steps p.tables e below (T113.setTop (mkF m 37 #[.val (.ref a1), .val (.long q2), .second] [(.int (1 : Int32))])) _
      exact k)
    obtain ⟨fs, hr, hrun, hended, hW, hsame⟩ := X113.leave (v := some (.int (1 : Int32))) (fun h => by rw [Bd.returns] at h; cases h)
    refine ⟨_, _, p115 _ (retN X113 hx (t := .boolean) Bd.returns (by simp) (hb hby d6_37) hr), hrun, hended, _, _, rfl, ?_, ⟨_, rfl⟩, hW, hsame.mono (by decide) (by decide)⟩
    show Q6 Z a1 q2 mx sx hd h0 n0 _ T113.heap _
    rw [e113]
    exact ⟨by simp [own_hr, c108], N0, rfl⟩
theorem d5_0 : decode prog_31_method_8_code 0 = .ok (.aload_n 0, 1) := by decide +kernel
theorem d5_1 : decode prog_31_method_8_code 1 = .ok (.lload_n 1, 1) := by decide +kernel
theorem d5_2 : decode prog_31_method_8_code 2 = .ok (.invokevirtual 69, 3) := by decide +kernel
theorem d5_5 : decode prog_31_method_8_code 5 = .ok (.ifCond .ne 42, 3) := by decide +kernel
theorem d5_47 : decode prog_31_method_8_code 47 = .ok (.return_, 1) := by decide +kernel
theorem pd0 : parseMethodDescriptor "(J)Z" = some ⟨[.long], some .boolean⟩ := by decide +kernel
theorem pn5 : plainFor (⟨"com/example/kuusi/kuusi/core/ElementLimit", "checkRoom", "(J)V"⟩ : MethodName) = true := plainFor_of_name (by first | (simp [plainName, overriddenIn]; done) | decide +kernel)
theorem ef_rm5 (m : MethodId) (a1 : Addr) (q2 : Int64) (mx : Int64) (sx : Int64) (hd : Int64) : entryFrame m #[(.ref a1), (.long q2)] 3 = mkF m 0 #[.val (.ref a1), .val (.long q2), .second] [] := by first | (simp [entryFrame, mkF, argsToLocals, Value.category]; done) | rfl
def Q5 (Z : State) (a1 : Addr) (q2 : Int64) (mx : Int64) (sx : Int64) (hd : Int64) (h0 : Heap) (n0 : Nat) (v : Option Value) (h : Heap) (L : List Loc) : Prop := v = none ∧ Fr n0 L ∧ (h = h0)
set_option maxRecDepth 65536 in
set_option maxHeartbeats 40000000 in
theorem rm5 (l : Launch) (Z : State) (a0 : Array Value) (hw : ∀ d ∈ tables_1, d.before a0 Z = true) (ws : List Jvm.Cond) (a1 : Addr) (q2 : Int64) (mx : Int64) (sx : Int64) (hd : Int64) (h0 : Heap) (n0 : Nat) (Z0 : n0 ≤ h0.size) (F0 : Fld Z h0 a1 "com/example/kuusi/kuusi/core/ElementLimit" "maximum" "J" (.long mx)) (F1 : Fld Z h0 a1 "com/example/kuusi/kuusi/core/ElementLimit" "steps" "J" (.long sx)) (F2 : Fld Z h0 a1 "com/example/kuusi/kuusi/core/ElementLimit" "held" "J" (.long hd)) (F3 : Fld Z h0 a1 "com/example/kuusi/kuusi/core/ElementLimit" "spent" "J" (.long (0 : Int64))) (F4 : Fld Z h0 a1 "com/example/kuusi/kuusi/core/ElementLimit" "whole" "Lcom/example/kuusi/kuusi/core/ElementLimit;" .null) (F5 : Fld Z h0 a1 "com/example/kuusi/kuusi/core/ElementLimit" "sharing" "Lcom/example/kuusi/kuusi/core/ElementLimit$Sharing;" .null) (E1 : Exa Z h0 a1 "com/example/kuusi/kuusi/core/ElementLimit") (hq : ¬ (mx - hd) < q2) :
    MetFree l (⟨"com/example/kuusi/kuusi/core/ElementLimit", "checkRoom", "(J)V"⟩ : MethodName) (head1 (Jvm.Cond.code (⟨"com/example/kuusi/kuusi/core/ElementLimit", "checkRoom", "(J)V"⟩ : MethodName) prog_31_method_8_code 3 none :: ws) ({ frames := 1, cells := 0, slots := 0, locals := 14 } : Room)) (fun a U => a = #[(.ref a1), (.long q2)] ∧ Z.Warmed39 U.vm ∧ U.heap = h0) (fun _ _ _ _ _ => True) (fun _ U o U' => ∃ v L, o = .returned v ∧ Q5 Z a1 q2 mx sx hd h0 n0 v U'.heap L ∧ FrameEnd U o U' L ({ frames := 1, cells := 0, slots := 0, locals := 14 } : Room).cells ({ frames := 1, cells := 0, slots := 0, locals := 14 } : Room).slots) := by
  refine MetFree.of_bodySF pn5 hisR ?_
  intro p e s m args below meth c s₁ Bd hml0 hP hK
  obtain ⟨rfl, hZ, hh⟩ := hP
  have hx := Bd.exec
  have hby := Bd.bytes
  have hml : c.maxLocals = 3 := hml0
  have hown : s.vm.findClass "com/example/kuusi/kuusi/core/ElementLimit" = some m.cls := findClass_of_methodNamed Bd.named
  have hnm := (name_of_methodNamed Bd.named Bd.method).1
  have X0 : Stand p l e ({ frames := 1, cells := 0, slots := 0, locals := 14 } : Room) s m #[(.ref a1), (.long q2)] below meth c s₁ [] 0 0 := Stand.of_body Bd
  have e0 : s₁.heap = h0 := by rw [← hh, Bd.state]; rfl
  have N0 := Fr.nil n0
  have p0 : Go p.tables e below (s₁.setTop (entryFrame m #[(.ref a1), (.long q2)] 3)) (s₁.setTop (mkF m 0 #[.val (.ref a1), .val (.long q2), .second] [])) := fun t k => castTop (ef_rm5 m a1 q2 mx sx hd) k
  have p101 : Go p.tables e below _ (s₁.setTop (mkF m 2 #[.val (.ref a1), .val (.long q2), .second] [(.long q2), (.ref a1)])) := fun t k => p0 t (by
    show Steps p.tables e below (s₁.setTop (mkF m 0 #[.val (.ref a1), .val (.long q2), .second] [])) _
    refine XS.aloadN X0.here hx rfl (hb hby d5_0) rfl rfl ?_
    show Steps p.tables e below (s₁.setTop (mkF m 1 #[.val (.ref a1), .val (.long q2), .second] [(.ref a1)])) _
    refine XS.lloadN X0.here hx rfl (hb hby d5_1) rfl ?_
    show Steps p.tables e below (s₁.setTop (mkF m 2 #[.val (.ref a1), .val (.long q2), .second] [(.long q2), (.ref a1)])) _
    exact k)
  obtain ⟨cq102, q102, q102'⟩ := E1.cell
  obtain ⟨_, _, ⟨T102, L102, k102, n102⟩, -, X102, ⟨Lc102, hQ102, l102, y102, z102⟩, st102⟩ := X0.privateBack hx (y := (⟨"com/example/kuusi/kuusi/core/ElementLimit", "hasRoom", "(J)Z"⟩ : MethodName)) hown (mvT hZ (own_w hw 32 rfl)) (mvT hZ (own_w hw 33 rfl)) (selPriv (mvT hZ (own_w hw 25 rfl)) rfl (Cond.privateMethod_at (mvP hZ (own_w hw 34 rfl) (args := #[]))) (mvT hZ (own_w hw 33 rfl)) (by decide)) (Cond.privateMethod_at (mvP hZ (own_w hw 34 rfl) (args := #[]))) (mvT hZ (own_w hw 35 rfl)) (by decide) (backOf (W := 0) (rm6 l Z a0 hw [] a1 q2 mx sx hd h0 n0 (Nat.le_trans Z0 (Keep.refl h0 []).1) F0 F1 F2 F3 F4 F5 E1) hZ (own_w hw 35 rfl) (own_w hw 7 rfl) (by decide) (by decide)) (g := (mkF m 2 #[.val (.ref a1), .val (.long q2), .second] [(.long q2), (.ref a1)])) rfl (by rw [hml]; rfl) (Steps.refl _) (a := a1) (by rw [e0]; exact q102) q102' (argsL := [(.long q2)]) (rest := []) (lenOf pd0 rfl) rfl (by show 2 * 0 + _ ≤ _; exact Nat.le_of_eq rfl) (hb hby d5_2) (fun _ _ => ⟨rfl, e0, (by decide : 0 + 0 ≤ _), (by decide : 0 + 0 ≤ _)⟩)
  dsimp only [Pt.U, Pt.locs, Pt.cells, Pt.slots] at X102 l102 y102 z102 st102 hQ102
  subst l102 y102 z102
  obtain ⟨rfl, N102q, q102_hh⟩ := hQ102
  have N102 := Fr.app N0 N102q
  have p103 : Go p.tables e below _ (T102.setTop (mkF m 5 #[.val (.ref a1), .val (.long q2), .second] [(.int (own_hr mx hd q2))])) := fun t k => p101 t (st102.trans k)
  have c104 : ¬ ((own_hr mx hd q2) = (0 : Int32)) := by simp [own_hr, hq]
  have p105 : Go p.tables e below _ (T102.setTop (mkF m 47 #[.val (.ref a1), .val (.long q2), .second] [])) := fun t k => p103 t (by
    show Steps p.tables e below (T102.setTop (mkF m 5 #[.val (.ref a1), .val (.long q2), .second] [(.int (own_hr mx hd q2))])) _
    refine XS.ifYes X102.here hx rfl (pc0 := 5) (pc' := 47) rfl (hb hby d5_5) rfl ((if0 _ _).trans (feq c104).2) (by decide) (by decide) ?_
    show Steps p.tables e below (T102.setTop (mkF m 47 #[.val (.ref a1), .val (.long q2), .second] [])) _
    exact k)
  obtain ⟨fs, hr, hrun, hended, hW, hsame⟩ := X102.leave (v := none) (fun _ => rfl)
  refine ⟨_, _, p105 _ (X102.returnOut hx Bd.returns (hb hby d5_47) hr), hrun, hended, _, _, rfl, ?_, ⟨_, rfl⟩, hW, hsame.mono (by decide) (by decide)⟩
  show Q5 Z a1 q2 mx sx hd h0 n0 _ T102.heap _
  rw [q102_hh]
  exact ⟨rfl, N102, rfl⟩
theorem d4_0 : decode prog_31_method_7_code 0 = .ok (.aload_n 0, 1) := by decide +kernel
theorem d4_1 : decode prog_31_method_7_code 1 = .ok (.lload_n 1, 1) := by decide +kernel
theorem d4_2 : decode prog_31_method_7_code 2 = .ok (.invokevirtual 59, 3) := by decide +kernel
theorem d4_5 : decode prog_31_method_7_code 5 = .ok (.aload_n 0, 1) := by decide +kernel
theorem d4_6 : decode prog_31_method_7_code 6 = .ok (.getfield 33, 3) := by decide +kernel
theorem d4_9 : decode prog_31_method_7_code 9 = .ok (.ifnull 11, 3) := by decide +kernel
theorem d4_20 : decode prog_31_method_7_code 20 = .ok (.aload_n 0, 1) := by decide +kernel
theorem d4_21 : decode prog_31_method_7_code 21 = .ok (.dup, 1) := by decide +kernel
theorem d4_22 : decode prog_31_method_7_code 22 = .ok (.getfield 66, 3) := by decide +kernel
theorem d4_25 : decode prog_31_method_7_code 25 = .ok (.lload_n 1, 1) := by decide +kernel
theorem d4_26 : decode prog_31_method_7_code 26 = .ok (.ladd, 1) := by decide +kernel
theorem d4_27 : decode prog_31_method_7_code 27 = .ok (.putfield 66, 3) := by decide +kernel
theorem d4_30 : decode prog_31_method_7_code 30 = .ok (.return_, 1) := by decide +kernel
theorem pd1 : parseMethodDescriptor "(J)V" = some ⟨[.long], none⟩ := by decide +kernel
theorem pn4 : plainFor (⟨"com/example/kuusi/kuusi/core/ElementLimit", "hold", "(J)V"⟩ : MethodName) = true := plainFor_of_name (by first | (simp [plainName, overriddenIn]; done) | decide +kernel)
theorem ef_rm4 (m : MethodId) (a1 : Addr) (q2 : Int64) (mx : Int64) (sx : Int64) : entryFrame m #[(.ref a1), (.long q2)] 3 = mkF m 0 #[.val (.ref a1), .val (.long q2), .second] [] := by first | (simp [entryFrame, mkF, argsToLocals, Value.category]; done) | rfl
def Q4 (Z : State) (a1 : Addr) (q2 : Int64) (mx : Int64) (sx : Int64) (h0 : Heap) (n0 : Nat) (v : Option Value) (h : Heap) (L : List Loc) : Prop := v = none ∧ Fr n0 L ∧ (Keep h0 h [a1]) ∧ (Fld Z h a1 "com/example/kuusi/kuusi/core/ElementLimit" "maximum" "J" (.long mx)) ∧ (Fld Z h a1 "com/example/kuusi/kuusi/core/ElementLimit" "steps" "J" (.long sx)) ∧ (Fld Z h a1 "com/example/kuusi/kuusi/core/ElementLimit" "held" "J" (.long q2)) ∧ (Fld Z h a1 "com/example/kuusi/kuusi/core/ElementLimit" "spent" "J" (.long (0 : Int64))) ∧ (Fld Z h a1 "com/example/kuusi/kuusi/core/ElementLimit" "whole" "Lcom/example/kuusi/kuusi/core/ElementLimit;" .null) ∧ (Fld Z h a1 "com/example/kuusi/kuusi/core/ElementLimit" "sharing" "Lcom/example/kuusi/kuusi/core/ElementLimit$Sharing;" .null) ∧ (Exa Z h a1 "com/example/kuusi/kuusi/core/ElementLimit")
set_option maxRecDepth 65536 in
set_option maxHeartbeats 40000000 in
theorem rm4 (l : Launch) (Z : State) (a0 : Array Value) (hw : ∀ d ∈ tables_1, d.before a0 Z = true) (ws : List Jvm.Cond) (a1 : Addr) (q2 : Int64) (mx : Int64) (sx : Int64) (h0 : Heap) (n0 : Nat) (Z0 : n0 ≤ h0.size) (F0 : Fld Z h0 a1 "com/example/kuusi/kuusi/core/ElementLimit" "maximum" "J" (.long mx)) (F1 : Fld Z h0 a1 "com/example/kuusi/kuusi/core/ElementLimit" "steps" "J" (.long sx)) (F2 : Fld Z h0 a1 "com/example/kuusi/kuusi/core/ElementLimit" "held" "J" (.long (0 : Int64))) (F3 : Fld Z h0 a1 "com/example/kuusi/kuusi/core/ElementLimit" "spent" "J" (.long (0 : Int64))) (F4 : Fld Z h0 a1 "com/example/kuusi/kuusi/core/ElementLimit" "whole" "Lcom/example/kuusi/kuusi/core/ElementLimit;" .null) (F5 : Fld Z h0 a1 "com/example/kuusi/kuusi/core/ElementLimit" "sharing" "Lcom/example/kuusi/kuusi/core/ElementLimit$Sharing;" .null) (E1 : Exa Z h0 a1 "com/example/kuusi/kuusi/core/ElementLimit") (g1 : n0 ≤ a1) (hq : ¬ (mx - (0 : Int64)) < q2) :
    MetFree l (⟨"com/example/kuusi/kuusi/core/ElementLimit", "hold", "(J)V"⟩ : MethodName) (head1 (Jvm.Cond.code (⟨"com/example/kuusi/kuusi/core/ElementLimit", "hold", "(J)V"⟩ : MethodName) prog_31_method_7_code 3 none :: ws) ({ frames := 2, cells := 0, slots := 0, locals := 28 } : Room)) (fun a U => a = #[(.ref a1), (.long q2)] ∧ Z.Warmed39 U.vm ∧ U.heap = h0) (fun _ _ _ _ _ => True) (fun _ U o U' => ∃ v L, o = .returned v ∧ Q4 Z a1 q2 mx sx h0 n0 v U'.heap L ∧ FrameEnd U o U' L ({ frames := 2, cells := 0, slots := 0, locals := 28 } : Room).cells ({ frames := 2, cells := 0, slots := 0, locals := 28 } : Room).slots) := by
  refine MetFree.of_bodySF pn4 hisR ?_
  intro p e s m args below meth c s₁ Bd hml0 hP hK
  obtain ⟨rfl, hZ, hh⟩ := hP
  have hx := Bd.exec
  have hby := Bd.bytes
  have hml : c.maxLocals = 3 := hml0
  have hown : s.vm.findClass "com/example/kuusi/kuusi/core/ElementLimit" = some m.cls := findClass_of_methodNamed Bd.named
  have hnm := (name_of_methodNamed Bd.named Bd.method).1
  have X0 : Stand p l e ({ frames := 2, cells := 0, slots := 0, locals := 28 } : Room) s m #[(.ref a1), (.long q2)] below meth c s₁ [] 0 0 := Stand.of_body Bd
  have e0 : s₁.heap = h0 := by rw [← hh, Bd.state]; rfl
  have N0 := Fr.nil n0
  have p0 : Go p.tables e below (s₁.setTop (entryFrame m #[(.ref a1), (.long q2)] 3)) (s₁.setTop (mkF m 0 #[.val (.ref a1), .val (.long q2), .second] [])) := fun t k => castTop (ef_rm4 m a1 q2 mx sx) k
  have p101 : Go p.tables e below _ (s₁.setTop (mkF m 2 #[.val (.ref a1), .val (.long q2), .second] [(.long q2), (.ref a1)])) := fun t k => p0 t (by
    show Steps p.tables e below (s₁.setTop (mkF m 0 #[.val (.ref a1), .val (.long q2), .second] [])) _
    refine XS.aloadN X0.here hx rfl (hb hby d4_0) rfl rfl ?_
    show Steps p.tables e below (s₁.setTop (mkF m 1 #[.val (.ref a1), .val (.long q2), .second] [(.ref a1)])) _
    refine XS.lloadN X0.here hx rfl (hb hby d4_1) rfl ?_
    show Steps p.tables e below (s₁.setTop (mkF m 2 #[.val (.ref a1), .val (.long q2), .second] [(.long q2), (.ref a1)])) _
    exact k)
  obtain ⟨cq102, kq102, q102a, q102b, q102c⟩ := isOf hZ e0 E1
  obtain ⟨_, _, ⟨T102, L102, k102, n102⟩, -, X102, ⟨Lc102, hQ102, l102, y102, z102⟩, st102⟩ := X0.virtualBack hx (y := (⟨"com/example/kuusi/kuusi/core/ElementLimit", "checkRoom", "(J)V"⟩ : MethodName)) (z := (⟨"com/example/kuusi/kuusi/core/ElementLimit", "checkRoom", "(J)V"⟩ : MethodName)) hown (mvT hZ (own_w hw 27 rfl)) (mvT hZ (own_w hw 28 rfl)) (notFace_of_selects (args := #[]) (mvT hZ (own_w hw 30 rfl))) (mvT hZ (own_w hw 30 rfl)) (mvT hZ (own_w hw 29 rfl)) (by decide) (backOf (W := 0) (rm5 l Z a0 hw [] a1 q2 mx sx (0 : Int64) h0 n0 (Nat.le_trans Z0 (Keep.refl h0 [a1]).1) F0 F1 F2 F3 F4 F5 E1 hq) hZ (own_w hw 31 rfl) (own_w hw 7 rfl) (by decide) (by decide)) q102a q102c (g := (mkF m 2 #[.val (.ref a1), .val (.long q2), .second] [(.long q2), (.ref a1)])) rfl (by rw [hml]; rfl) (Steps.refl _) (argsL := [(.long q2)]) (rest := []) (lenOf pd1 rfl) rfl (by show 2 * 0 + _ ≤ _; exact Nat.le_of_eq rfl) (hb hby d4_2) (fun _ _ => ⟨rfl, e0, (by decide : 0 + 0 ≤ _), (by decide : 0 + 0 ≤ _)⟩)
  dsimp only [Pt.U, Pt.locs, Pt.cells, Pt.slots] at X102 l102 y102 z102 st102 hQ102
  subst l102 y102 z102
  obtain ⟨rfl, N102q, q102_hh⟩ := hQ102
  have N102 := Fr.app N0 N102q
  have p103 : Go p.tables e below _ (T102.setTop (mkF m 5 #[.val (.ref a1), .val (.long q2), .second] [])) := fun t k => p101 t (st102.trans k)
  have p104 : Go p.tables e below _ (T102.setTop (mkF m 6 #[.val (.ref a1), .val (.long q2), .second] [(.ref a1)])) := fun t k => p103 t (by
    show Steps p.tables e below (T102.setTop (mkF m 5 #[.val (.ref a1), .val (.long q2), .second] [])) _
    refine XS.aloadN X102.here hx rfl (hb hby d4_5) rfl rfl ?_
    show Steps p.tables e below (T102.setTop (mkF m 6 #[.val (.ref a1), .val (.long q2), .second] [(.ref a1)])) _
    exact k)
  obtain ⟨T105, X105, e105, st105⟩ := getF X102 hx hZ hown (host := "") (Or.inl (own_w hw 18 rfl)) Via.refl q102_hh F4 (g := (mkF m 6 #[.val (.ref a1), .val (.long q2), .second] [(.ref a1)])) rfl rfl (hb hby d4_6)
  have p106 : Go p.tables e below _ (T105.setTop (mkF m 9 #[.val (.ref a1), .val (.long q2), .second] [.null])) := fun t k => p104 t (st105 t k)
  have p107 : Go p.tables e below _ (T105.setTop (mkF m 22 #[.val (.ref a1), .val (.long q2), .second] [(.ref a1), (.ref a1)])) := fun t k => p106 t (by
    show Steps p.tables e below (T105.setTop (mkF m 9 #[.val (.ref a1), .val (.long q2), .second] [.null])) _
    refine XS.ifnullYes X105.here hx rfl (pc0 := 9) (pc' := 20) rfl (hb hby d4_9) rfl (by decide) (by decide) ?_
    show Steps p.tables e below (T105.setTop (mkF m 20 #[.val (.ref a1), .val (.long q2), .second] [])) _
    refine XS.aloadN X105.here hx rfl (hb hby d4_20) rfl rfl ?_
    show Steps p.tables e below (T105.setTop (mkF m 21 #[.val (.ref a1), .val (.long q2), .second] [(.ref a1)])) _
    refine XS.dup X105.here hx rfl (hb hby d4_21) rfl rfl ?_
    show Steps p.tables e below (T105.setTop (mkF m 22 #[.val (.ref a1), .val (.long q2), .second] [(.ref a1), (.ref a1)])) _
    exact k)
  obtain ⟨T108, X108, e108, st108⟩ := getF X105 hx hZ hown (host := "") (Or.inl (own_w hw 36 rfl)) Via.refl e105 F2 (g := (mkF m 22 #[.val (.ref a1), .val (.long q2), .second] [(.ref a1), (.ref a1)])) rfl rfl (hb hby d4_22)
  have p109 : Go p.tables e below _ (T108.setTop (mkF m 25 #[.val (.ref a1), .val (.long q2), .second] [(.long (0 : Int64)), (.ref a1)])) := fun t k => p107 t (st108 t k)
  have p110 : Go p.tables e below _ (T108.setTop (mkF m 27 #[.val (.ref a1), .val (.long q2), .second] [(.long ((0 : Int64) + q2)), (.ref a1)])) := fun t k => p109 t (by
    show Steps p.tables e below (T108.setTop (mkF m 25 #[.val (.ref a1), .val (.long q2), .second] [(.long (0 : Int64)), (.ref a1)])) _
    refine XS.lloadN X108.here hx rfl (hb hby d4_25) rfl ?_
    show Steps p.tables e below (T108.setTop (mkF m 26 #[.val (.ref a1), .val (.long q2), .second] [(.long q2), (.long (0 : Int64)), (.ref a1)])) _
    refine XS.ladd X108.here hx rfl (hb hby d4_26) rfl ?_
    show Steps p.tables e below (T108.setTop (mkF m 27 #[.val (.ref a1), .val (.long q2), .second] [(.long ((0 : Int64) + q2)), (.ref a1)])) _
    exact k)
  obtain ⟨T111, h111, X111, e111, W111, st111⟩ := putF X108 hx hZ hown (host := "") (Or.inl (own_w hw 36 rfl)) Via.refl e108 F2 E1 (Or.inl (own_w hw 37 rfl)) (own_w hw 6 rfl) (ty := .long) (by decide) rfl rfl (g := (mkF m 27 #[.val (.ref a1), .val (.long q2), .second] [(.long ((0 : Int64) + q2)), (.ref a1)])) rfl rfl (hb hby d4_27)
  have K112 : Keep h0 h111 [a1] := (Keep.refl h0 [a1]).wr W111 (Or.inl (List.mem_of_getElem? (i := 0) rfl))
  have N111 := Fr.snoc X111 N102 g1
  have p113 : Go p.tables e below _ (T111.setTop (mkF m 30 #[.val (.ref a1), .val (.long q2), .second] [])) := fun t k => p110 t (st111 t k)
  have F111 : Fld Z h111 a1 "com/example/kuusi/kuusi/core/ElementLimit" "held" "J" (.long ((0 : Int64) + q2)) := F2.same W111
  have f114 := (F0.other W111 (Or.inr (slot_ne (Or.inr (own_w hw 15 rfl)) (Or.inl (own_w hw 37 rfl)) (by decide) (t := .long) (t' := .long) (by decide) (by decide))))
  have f115 := (F1.other W111 (Or.inr (slot_ne (Or.inr (own_w hw 17 rfl)) (Or.inl (own_w hw 37 rfl)) (by decide) (t := .long) (t' := .long) (by decide) (by decide))))
  have f116 := (F3.other W111 (Or.inr (slot_ne (Or.inl (own_w hw 53 rfl)) (Or.inl (own_w hw 37 rfl)) (by decide) (t := .long) (t' := .long) (by decide) (by decide))))
  have f117 := (F4.other W111 (Or.inr (slot_ne (Or.inr (own_w hw 19 rfl)) (Or.inl (own_w hw 37 rfl)) (by decide) (t := (.object "com/example/kuusi/kuusi/core/ElementLimit")) (t' := .long) (by decide) (by decide))))
  have f118 := (F5.other W111 (Or.inr (slot_ne (Or.inr (own_w hw 21 rfl)) (Or.inl (own_w hw 37 rfl)) (by decide) (t := (.object "com/example/kuusi/kuusi/core/ElementLimit$Sharing")) (t' := .long) (by decide) (by decide))))
  have f119 := (E1.wr W111)
  obtain ⟨fs, hr, hrun, hended, hW, hsame⟩ := X111.leave (v := none) (fun _ => rfl)
  refine ⟨_, _, p113 _ (X111.returnOut hx Bd.returns (hb hby d4_30) hr), hrun, hended, _, _, rfl, ?_, ⟨_, rfl⟩, hW, hsame.mono (by decide) (by decide)⟩
  show Q4 Z a1 q2 mx sx h0 n0 _ T111.heap _
  rw [e111]
  exact ⟨rfl, N111, K112, f114, f115, (by simpa using F111), f116, f117, f118, f119⟩
theorem d7_0 : decode prog_31_method_10_code 0 = .ok (.lload_n 1, 1) := by decide +kernel
theorem d7_1 : decode prog_31_method_10_code 1 = .ok (.aload_n 0, 1) := by decide +kernel
theorem d7_2 : decode prog_31_method_10_code 2 = .ok (.getfield 66, 3) := by decide +kernel
theorem d7_5 : decode prog_31_method_10_code 5 = .ok (.lcmp, 1) := by decide +kernel
theorem d7_6 : decode prog_31_method_10_code 6 = .ok (.ifCond .le 21, 3) := by decide +kernel
theorem d7_27 : decode prog_31_method_10_code 27 = .ok (.aload_n 0, 1) := by decide +kernel
theorem d7_28 : decode prog_31_method_10_code 28 = .ok (.getfield 33, 3) := by decide +kernel
theorem d7_31 : decode prog_31_method_10_code 31 = .ok (.ifnull 11, 3) := by decide +kernel
theorem d7_42 : decode prog_31_method_10_code 42 = .ok (.aload_n 0, 1) := by decide +kernel
theorem d7_43 : decode prog_31_method_10_code 43 = .ok (.dup, 1) := by decide +kernel
theorem d7_44 : decode prog_31_method_10_code 44 = .ok (.getfield 66, 3) := by decide +kernel
theorem d7_47 : decode prog_31_method_10_code 47 = .ok (.lload_n 1, 1) := by decide +kernel
theorem d7_48 : decode prog_31_method_10_code 48 = .ok (.lsub, 1) := by decide +kernel
theorem d7_49 : decode prog_31_method_10_code 49 = .ok (.putfield 66, 3) := by decide +kernel
theorem d7_52 : decode prog_31_method_10_code 52 = .ok (.return_, 1) := by decide +kernel
theorem pn7 : plainFor (⟨"com/example/kuusi/kuusi/core/ElementLimit", "release", "(J)V"⟩ : MethodName) = true := plainFor_of_name (by first | (simp [plainName, overriddenIn]; done) | decide +kernel)
theorem ef_rm7 (m : MethodId) (a1 : Addr) (q2 : Int64) (mx : Int64) (sx : Int64) (hd : Int64) : entryFrame m #[(.ref a1), (.long q2)] 3 = mkF m 0 #[.val (.ref a1), .val (.long q2), .second] [] := by first | (simp [entryFrame, mkF, argsToLocals, Value.category]; done) | rfl
def Q7 (Z : State) (a1 : Addr) (q2 : Int64) (mx : Int64) (sx : Int64) (hd : Int64) (h0 : Heap) (n0 : Nat) (v : Option Value) (h : Heap) (L : List Loc) : Prop := v = none ∧ Fr n0 L ∧ (Keep h0 h [a1]) ∧ (Fld Z h a1 "com/example/kuusi/kuusi/core/ElementLimit" "maximum" "J" (.long mx)) ∧ (Fld Z h a1 "com/example/kuusi/kuusi/core/ElementLimit" "steps" "J" (.long sx)) ∧ (Fld Z h a1 "com/example/kuusi/kuusi/core/ElementLimit" "held" "J" (.long (hd - q2))) ∧ (Fld Z h a1 "com/example/kuusi/kuusi/core/ElementLimit" "spent" "J" (.long (0 : Int64))) ∧ (Fld Z h a1 "com/example/kuusi/kuusi/core/ElementLimit" "whole" "Lcom/example/kuusi/kuusi/core/ElementLimit;" .null) ∧ (Fld Z h a1 "com/example/kuusi/kuusi/core/ElementLimit" "sharing" "Lcom/example/kuusi/kuusi/core/ElementLimit$Sharing;" .null) ∧ (Exa Z h a1 "com/example/kuusi/kuusi/core/ElementLimit")
set_option maxRecDepth 65536 in
set_option maxHeartbeats 40000000 in
theorem rm7 (l : Launch) (Z : State) (a0 : Array Value) (hw : ∀ d ∈ tables_1, d.before a0 Z = true) (ws : List Jvm.Cond) (a1 : Addr) (q2 : Int64) (mx : Int64) (sx : Int64) (hd : Int64) (h0 : Heap) (n0 : Nat) (Z0 : n0 ≤ h0.size) (F0 : Fld Z h0 a1 "com/example/kuusi/kuusi/core/ElementLimit" "maximum" "J" (.long mx)) (F1 : Fld Z h0 a1 "com/example/kuusi/kuusi/core/ElementLimit" "steps" "J" (.long sx)) (F2 : Fld Z h0 a1 "com/example/kuusi/kuusi/core/ElementLimit" "held" "J" (.long hd)) (F3 : Fld Z h0 a1 "com/example/kuusi/kuusi/core/ElementLimit" "spent" "J" (.long (0 : Int64))) (F4 : Fld Z h0 a1 "com/example/kuusi/kuusi/core/ElementLimit" "whole" "Lcom/example/kuusi/kuusi/core/ElementLimit;" .null) (F5 : Fld Z h0 a1 "com/example/kuusi/kuusi/core/ElementLimit" "sharing" "Lcom/example/kuusi/kuusi/core/ElementLimit$Sharing;" .null) (E1 : Exa Z h0 a1 "com/example/kuusi/kuusi/core/ElementLimit") (g1 : n0 ≤ a1) (hq : ¬ hd < q2) :
    MetFree l (⟨"com/example/kuusi/kuusi/core/ElementLimit", "release", "(J)V"⟩ : MethodName) (head1 (Jvm.Cond.code (⟨"com/example/kuusi/kuusi/core/ElementLimit", "release", "(J)V"⟩ : MethodName) prog_31_method_10_code 3 none :: ws) ({ frames := 0, cells := 0, slots := 0, locals := 0 } : Room)) (fun a U => a = #[(.ref a1), (.long q2)] ∧ Z.Warmed39 U.vm ∧ U.heap = h0) (fun _ _ _ _ _ => True) (fun _ U o U' => ∃ v L, o = .returned v ∧ Q7 Z a1 q2 mx sx hd h0 n0 v U'.heap L ∧ FrameEnd U o U' L ({ frames := 0, cells := 0, slots := 0, locals := 0 } : Room).cells ({ frames := 0, cells := 0, slots := 0, locals := 0 } : Room).slots) := by
  refine MetFree.of_bodySF pn7 hisR ?_
  intro p e s m args below meth c s₁ Bd hml0 hP hK
  obtain ⟨rfl, hZ, hh⟩ := hP
  have hx := Bd.exec
  have hby := Bd.bytes
  have hml : c.maxLocals = 3 := hml0
  have hown : s.vm.findClass "com/example/kuusi/kuusi/core/ElementLimit" = some m.cls := findClass_of_methodNamed Bd.named
  have hnm := (name_of_methodNamed Bd.named Bd.method).1
  have X0 : Stand p l e ({ frames := 0, cells := 0, slots := 0, locals := 0 } : Room) s m #[(.ref a1), (.long q2)] below meth c s₁ [] 0 0 := Stand.of_body Bd
  have e0 : s₁.heap = h0 := by rw [← hh, Bd.state]; rfl
  have N0 := Fr.nil n0
  have p0 : Go p.tables e below (s₁.setTop (entryFrame m #[(.ref a1), (.long q2)] 3)) (s₁.setTop (mkF m 0 #[.val (.ref a1), .val (.long q2), .second] [])) := fun t k => castTop (ef_rm7 m a1 q2 mx sx hd) k
  have p101 : Go p.tables e below _ (s₁.setTop (mkF m 2 #[.val (.ref a1), .val (.long q2), .second] [(.ref a1), (.long q2)])) := fun t k => p0 t (by
    show Steps p.tables e below (s₁.setTop (mkF m 0 #[.val (.ref a1), .val (.long q2), .second] [])) _
    refine XS.lloadN X0.here hx rfl (hb hby d7_0) rfl ?_
    show Steps p.tables e below (s₁.setTop (mkF m 1 #[.val (.ref a1), .val (.long q2), .second] [(.long q2)])) _
    refine XS.aloadN X0.here hx rfl (hb hby d7_1) rfl rfl ?_
    show Steps p.tables e below (s₁.setTop (mkF m 2 #[.val (.ref a1), .val (.long q2), .second] [(.ref a1), (.long q2)])) _
    exact k)
  obtain ⟨T102, X102, e102, st102⟩ := getF X0 hx hZ hown (host := "") (Or.inl (own_w hw 36 rfl)) Via.refl e0 F2 (g := (mkF m 2 #[.val (.ref a1), .val (.long q2), .second] [(.ref a1), (.long q2)])) rfl rfl (hb hby d7_2)
  have p103 : Go p.tables e below _ (T102.setTop (mkF m 5 #[.val (.ref a1), .val (.long q2), .second] [(.long hd), (.long q2)])) := fun t k => p101 t (st102 t k)
  have p104 : Go p.tables e below _ (T102.setTop (mkF m 6 #[.val (.ref a1), .val (.long q2), .second] [(.int (lcmpW q2 hd))])) := fun t k => p103 t (by
    show Steps p.tables e below (T102.setTop (mkF m 5 #[.val (.ref a1), .val (.long q2), .second] [(.long hd), (.long q2)])) _
    refine XS.lcmp X102.here hx rfl (hb hby d7_5) rfl ?_
    show Steps p.tables e below (T102.setTop (mkF m 6 #[.val (.ref a1), .val (.long q2), .second] [(.int (lcmpW q2 hd))])) _
    exact k)
  have c105 : ¬ (hd < q2) := hq
  have p106 : Go p.tables e below _ (T102.setTop (mkF m 28 #[.val (.ref a1), .val (.long q2), .second] [(.ref a1)])) := fun t k => p104 t (by
    show Steps p.tables e below (T102.setTop (mkF m 6 #[.val (.ref a1), .val (.long q2), .second] [(.int (lcmpW q2 hd))])) _
    refine XS.ifYes X102.here hx rfl (pc0 := 6) (pc' := 27) rfl (hb hby d7_6) rfl ((if0 _ _).trans (flt (mt (lw_gt _ _).mp c105)).2.2.2) (by decide) (by decide) ?_
    show Steps p.tables e below (T102.setTop (mkF m 27 #[.val (.ref a1), .val (.long q2), .second] [])) _
    refine XS.aloadN X102.here hx rfl (hb hby d7_27) rfl rfl ?_
    show Steps p.tables e below (T102.setTop (mkF m 28 #[.val (.ref a1), .val (.long q2), .second] [(.ref a1)])) _
    exact k)
  obtain ⟨T107, X107, e107, st107⟩ := getF X102 hx hZ hown (host := "") (Or.inl (own_w hw 18 rfl)) Via.refl e102 F4 (g := (mkF m 28 #[.val (.ref a1), .val (.long q2), .second] [(.ref a1)])) rfl rfl (hb hby d7_28)
  have p108 : Go p.tables e below _ (T107.setTop (mkF m 31 #[.val (.ref a1), .val (.long q2), .second] [.null])) := fun t k => p106 t (st107 t k)
  have p109 : Go p.tables e below _ (T107.setTop (mkF m 44 #[.val (.ref a1), .val (.long q2), .second] [(.ref a1), (.ref a1)])) := fun t k => p108 t (by
    show Steps p.tables e below (T107.setTop (mkF m 31 #[.val (.ref a1), .val (.long q2), .second] [.null])) _
    refine XS.ifnullYes X107.here hx rfl (pc0 := 31) (pc' := 42) rfl (hb hby d7_31) rfl (by decide) (by decide) ?_
    show Steps p.tables e below (T107.setTop (mkF m 42 #[.val (.ref a1), .val (.long q2), .second] [])) _
    refine XS.aloadN X107.here hx rfl (hb hby d7_42) rfl rfl ?_
    show Steps p.tables e below (T107.setTop (mkF m 43 #[.val (.ref a1), .val (.long q2), .second] [(.ref a1)])) _
    refine XS.dup X107.here hx rfl (hb hby d7_43) rfl rfl ?_
    show Steps p.tables e below (T107.setTop (mkF m 44 #[.val (.ref a1), .val (.long q2), .second] [(.ref a1), (.ref a1)])) _
    exact k)
  obtain ⟨T110, X110, e110, st110⟩ := getF X107 hx hZ hown (host := "") (Or.inl (own_w hw 36 rfl)) Via.refl e107 F2 (g := (mkF m 44 #[.val (.ref a1), .val (.long q2), .second] [(.ref a1), (.ref a1)])) rfl rfl (hb hby d7_44)
  have p111 : Go p.tables e below _ (T110.setTop (mkF m 47 #[.val (.ref a1), .val (.long q2), .second] [(.long hd), (.ref a1)])) := fun t k => p109 t (st110 t k)
  have p112 : Go p.tables e below _ (T110.setTop (mkF m 49 #[.val (.ref a1), .val (.long q2), .second] [(.long (hd - q2)), (.ref a1)])) := fun t k => p111 t (by
    show Steps p.tables e below (T110.setTop (mkF m 47 #[.val (.ref a1), .val (.long q2), .second] [(.long hd), (.ref a1)])) _
    refine XS.lloadN X110.here hx rfl (hb hby d7_47) rfl ?_
    show Steps p.tables e below (T110.setTop (mkF m 48 #[.val (.ref a1), .val (.long q2), .second] [(.long q2), (.long hd), (.ref a1)])) _
    refine XS.lsub X110.here hx rfl (hb hby d7_48) rfl ?_
    show Steps p.tables e below (T110.setTop (mkF m 49 #[.val (.ref a1), .val (.long q2), .second] [(.long (hd - q2)), (.ref a1)])) _
    exact k)
  obtain ⟨T113, h113, X113, e113, W113, st113⟩ := putF X110 hx hZ hown (host := "") (Or.inl (own_w hw 36 rfl)) Via.refl e110 F2 E1 (Or.inl (own_w hw 37 rfl)) (own_w hw 6 rfl) (ty := .long) (by decide) rfl rfl (g := (mkF m 49 #[.val (.ref a1), .val (.long q2), .second] [(.long (hd - q2)), (.ref a1)])) rfl rfl (hb hby d7_49)
  have K114 : Keep h0 h113 [a1] := (Keep.refl h0 [a1]).wr W113 (Or.inl (List.mem_of_getElem? (i := 0) rfl))
  have N113 := Fr.snoc X113 N0 g1
  have p115 : Go p.tables e below _ (T113.setTop (mkF m 52 #[.val (.ref a1), .val (.long q2), .second] [])) := fun t k => p112 t (st113 t k)
  have F113 : Fld Z h113 a1 "com/example/kuusi/kuusi/core/ElementLimit" "held" "J" (.long (hd - q2)) := F2.same W113
  have f116 := (F0.other W113 (Or.inr (slot_ne (Or.inr (own_w hw 15 rfl)) (Or.inl (own_w hw 37 rfl)) (by decide) (t := .long) (t' := .long) (by decide) (by decide))))
  have f117 := (F1.other W113 (Or.inr (slot_ne (Or.inr (own_w hw 17 rfl)) (Or.inl (own_w hw 37 rfl)) (by decide) (t := .long) (t' := .long) (by decide) (by decide))))
  have f118 := (F3.other W113 (Or.inr (slot_ne (Or.inl (own_w hw 53 rfl)) (Or.inl (own_w hw 37 rfl)) (by decide) (t := .long) (t' := .long) (by decide) (by decide))))
  have f119 := (F4.other W113 (Or.inr (slot_ne (Or.inr (own_w hw 19 rfl)) (Or.inl (own_w hw 37 rfl)) (by decide) (t := (.object "com/example/kuusi/kuusi/core/ElementLimit")) (t' := .long) (by decide) (by decide))))
  have f120 := (F5.other W113 (Or.inr (slot_ne (Or.inr (own_w hw 21 rfl)) (Or.inl (own_w hw 37 rfl)) (by decide) (t := (.object "com/example/kuusi/kuusi/core/ElementLimit$Sharing")) (t' := .long) (by decide) (by decide))))
  have f121 := (E1.wr W113)
  obtain ⟨fs, hr, hrun, hended, hW, hsame⟩ := X113.leave (v := none) (fun _ => rfl)
  refine ⟨_, _, p115 _ (X113.returnOut hx Bd.returns (hb hby d7_52) hr), hrun, hended, _, _, rfl, ?_, ⟨_, rfl⟩, hW, hsame.mono (by decide) (by decide)⟩
  show Q7 Z a1 q2 mx sx hd h0 n0 _ T113.heap _
  rw [e113]
  exact ⟨rfl, N113, K114, f116, f117, F113, f118, f119, f120, f121⟩
theorem d9_0 : decode prog_31_method_12_code 0 = .ok (.aload_n 0, 1) := by decide +kernel
theorem d9_1 : decode prog_31_method_12_code 1 = .ok (.getfield 33, 3) := by decide +kernel
theorem d9_4 : decode prog_31_method_12_code 4 = .ok (.ifnull 14, 3) := by decide +kernel
theorem d9_18 : decode prog_31_method_12_code 18 = .ok (.lload_n 1, 1) := by decide +kernel
theorem d9_19 : decode prog_31_method_12_code 19 = .ok (.aload_n 0, 1) := by decide +kernel
theorem d9_20 : decode prog_31_method_12_code 20 = .ok (.getfield 30, 3) := by decide +kernel
theorem d9_23 : decode prog_31_method_12_code 23 = .ok (.aload_n 0, 1) := by decide +kernel
theorem d9_24 : decode prog_31_method_12_code 24 = .ok (.getfield 99, 3) := by decide +kernel
theorem d9_27 : decode prog_31_method_12_code 27 = .ok (.lsub, 1) := by decide +kernel
theorem d9_28 : decode prog_31_method_12_code 28 = .ok (.lcmp, 1) := by decide +kernel
theorem d9_29 : decode prog_31_method_12_code 29 = .ok (.ifCond .gt 7, 3) := by decide +kernel
theorem d9_32 : decode prog_31_method_12_code 32 = .ok (.iconst 1, 1) := by decide +kernel
theorem d9_33 : decode prog_31_method_12_code 33 = .ok (.goto 4, 3) := by decide +kernel
theorem d9_37 : decode prog_31_method_12_code 37 = .ok (.ireturn, 1) := by decide +kernel
theorem pn9 : plainFor (⟨"com/example/kuusi/kuusi/core/ElementLimit", "hasSteps", "(J)Z"⟩ : MethodName) = true := plainFor_of_name (by first | (simp [plainName, overriddenIn]; done) | decide +kernel)
theorem ef_rm9 (m : MethodId) (a1 : Addr) (mx : Int64) (sx : Int64) (hd : Int64) : entryFrame m #[(.ref a1), (.long (0 : Int64))] 3 = mkF m 0 #[.val (.ref a1), .val (.long (0 : Int64)), .second] [] := by first | (simp [entryFrame, mkF, argsToLocals, Value.category]; done) | rfl
def Q9 (Z : State) (a1 : Addr) (mx : Int64) (sx : Int64) (hd : Int64) (h0 : Heap) (n0 : Nat) (v : Option Value) (h : Heap) (L : List Loc) : Prop := v = some (.int (1 : Int32)) ∧ Fr n0 L ∧ (h = h0)
set_option maxRecDepth 65536 in
set_option maxHeartbeats 40000000 in
theorem rm9 (l : Launch) (Z : State) (a0 : Array Value) (hw : ∀ d ∈ tables_1, d.before a0 Z = true) (ws : List Jvm.Cond) (a1 : Addr) (mx : Int64) (sx : Int64) (hd : Int64) (h0 : Heap) (n0 : Nat) (Z0 : n0 ≤ h0.size) (F0 : Fld Z h0 a1 "com/example/kuusi/kuusi/core/ElementLimit" "maximum" "J" (.long mx)) (F1 : Fld Z h0 a1 "com/example/kuusi/kuusi/core/ElementLimit" "steps" "J" (.long sx)) (F2 : Fld Z h0 a1 "com/example/kuusi/kuusi/core/ElementLimit" "held" "J" (.long hd)) (F3 : Fld Z h0 a1 "com/example/kuusi/kuusi/core/ElementLimit" "spent" "J" (.long (0 : Int64))) (F4 : Fld Z h0 a1 "com/example/kuusi/kuusi/core/ElementLimit" "whole" "Lcom/example/kuusi/kuusi/core/ElementLimit;" .null) (F5 : Fld Z h0 a1 "com/example/kuusi/kuusi/core/ElementLimit" "sharing" "Lcom/example/kuusi/kuusi/core/ElementLimit$Sharing;" .null) (E1 : Exa Z h0 a1 "com/example/kuusi/kuusi/core/ElementLimit") (hq : ¬ (sx - (0 : Int64)) < (0 : Int64)) :
    MetFree l (⟨"com/example/kuusi/kuusi/core/ElementLimit", "hasSteps", "(J)Z"⟩ : MethodName) (head1 (Jvm.Cond.code (⟨"com/example/kuusi/kuusi/core/ElementLimit", "hasSteps", "(J)Z"⟩ : MethodName) prog_31_method_12_code 3 (some .boolean) :: ws) ({ frames := 0, cells := 0, slots := 0, locals := 0 } : Room)) (fun a U => a = #[(.ref a1), (.long (0 : Int64))] ∧ Z.Warmed39 U.vm ∧ U.heap = h0) (fun _ _ _ _ _ => True) (fun _ U o U' => ∃ v L, o = .returned v ∧ Q9 Z a1 mx sx hd h0 n0 v U'.heap L ∧ FrameEnd U o U' L ({ frames := 0, cells := 0, slots := 0, locals := 0 } : Room).cells ({ frames := 0, cells := 0, slots := 0, locals := 0 } : Room).slots) := by
  refine MetFree.of_bodySF pn9 hisR ?_
  intro p e s m args below meth c s₁ Bd hml0 hP hK
  obtain ⟨rfl, hZ, hh⟩ := hP
  have hx := Bd.exec
  have hby := Bd.bytes
  have hml : c.maxLocals = 3 := hml0
  have hown : s.vm.findClass "com/example/kuusi/kuusi/core/ElementLimit" = some m.cls := findClass_of_methodNamed Bd.named
  have hnm := (name_of_methodNamed Bd.named Bd.method).1
  have X0 : Stand p l e ({ frames := 0, cells := 0, slots := 0, locals := 0 } : Room) s m #[(.ref a1), (.long (0 : Int64))] below meth c s₁ [] 0 0 := Stand.of_body Bd
  have e0 : s₁.heap = h0 := by rw [← hh, Bd.state]; rfl
  have N0 := Fr.nil n0
  have p0 : Go p.tables e below (s₁.setTop (entryFrame m #[(.ref a1), (.long (0 : Int64))] 3)) (s₁.setTop (mkF m 0 #[.val (.ref a1), .val (.long (0 : Int64)), .second] [])) := fun t k => castTop (ef_rm9 m a1 mx sx hd) k
  have p101 : Go p.tables e below _ (s₁.setTop (mkF m 1 #[.val (.ref a1), .val (.long (0 : Int64)), .second] [(.ref a1)])) := fun t k => p0 t (by
    show Steps p.tables e below (s₁.setTop (mkF m 0 #[.val (.ref a1), .val (.long (0 : Int64)), .second] [])) _
    refine XS.aloadN X0.here hx rfl (hb hby d9_0) rfl rfl ?_
    show Steps p.tables e below (s₁.setTop (mkF m 1 #[.val (.ref a1), .val (.long (0 : Int64)), .second] [(.ref a1)])) _
    exact k)
  obtain ⟨T102, X102, e102, st102⟩ := getF X0 hx hZ hown (host := "") (Or.inl (own_w hw 18 rfl)) Via.refl e0 F4 (g := (mkF m 1 #[.val (.ref a1), .val (.long (0 : Int64)), .second] [(.ref a1)])) rfl rfl (hb hby d9_1)
  have p103 : Go p.tables e below _ (T102.setTop (mkF m 4 #[.val (.ref a1), .val (.long (0 : Int64)), .second] [.null])) := fun t k => p101 t (st102 t k)
  have p104 : Go p.tables e below _ (T102.setTop (mkF m 20 #[.val (.ref a1), .val (.long (0 : Int64)), .second] [(.ref a1), (.long (0 : Int64))])) := fun t k => p103 t (by
    show Steps p.tables e below (T102.setTop (mkF m 4 #[.val (.ref a1), .val (.long (0 : Int64)), .second] [.null])) _
    refine XS.ifnullYes X102.here hx rfl (pc0 := 4) (pc' := 18) rfl (hb hby d9_4) rfl (by decide) (by decide) ?_
    show Steps p.tables e below (T102.setTop (mkF m 18 #[.val (.ref a1), .val (.long (0 : Int64)), .second] [])) _
    refine XS.lloadN X102.here hx rfl (hb hby d9_18) rfl ?_
    show Steps p.tables e below (T102.setTop (mkF m 19 #[.val (.ref a1), .val (.long (0 : Int64)), .second] [(.long (0 : Int64))])) _
    refine XS.aloadN X102.here hx rfl (hb hby d9_19) rfl rfl ?_
    show Steps p.tables e below (T102.setTop (mkF m 20 #[.val (.ref a1), .val (.long (0 : Int64)), .second] [(.ref a1), (.long (0 : Int64))])) _
    exact k)
  obtain ⟨T105, X105, e105, st105⟩ := getF X102 hx hZ hown (host := "") (Or.inl (own_w hw 16 rfl)) Via.refl e102 F1 (g := (mkF m 20 #[.val (.ref a1), .val (.long (0 : Int64)), .second] [(.ref a1), (.long (0 : Int64))])) rfl rfl (hb hby d9_20)
  have p106 : Go p.tables e below _ (T105.setTop (mkF m 23 #[.val (.ref a1), .val (.long (0 : Int64)), .second] [(.long sx), (.long (0 : Int64))])) := fun t k => p104 t (st105 t k)
  have p107 : Go p.tables e below _ (T105.setTop (mkF m 24 #[.val (.ref a1), .val (.long (0 : Int64)), .second] [(.ref a1), (.long sx), (.long (0 : Int64))])) := fun t k => p106 t (by
    show Steps p.tables e below (T105.setTop (mkF m 23 #[.val (.ref a1), .val (.long (0 : Int64)), .second] [(.long sx), (.long (0 : Int64))])) _
    refine XS.aloadN X105.here hx rfl (hb hby d9_23) rfl rfl ?_
    show Steps p.tables e below (T105.setTop (mkF m 24 #[.val (.ref a1), .val (.long (0 : Int64)), .second] [(.ref a1), (.long sx), (.long (0 : Int64))])) _
    exact k)
  obtain ⟨T108, X108, e108, st108⟩ := getF X105 hx hZ hown (host := "") (Or.inl (own_w hw 52 rfl)) Via.refl e105 F3 (g := (mkF m 24 #[.val (.ref a1), .val (.long (0 : Int64)), .second] [(.ref a1), (.long sx), (.long (0 : Int64))])) rfl rfl (hb hby d9_24)
  have p109 : Go p.tables e below _ (T108.setTop (mkF m 27 #[.val (.ref a1), .val (.long (0 : Int64)), .second] [(.long (0 : Int64)), (.long sx), (.long (0 : Int64))])) := fun t k => p107 t (st108 t k)
  have p110 : Go p.tables e below _ (T108.setTop (mkF m 29 #[.val (.ref a1), .val (.long (0 : Int64)), .second] [(.int (lcmpW (0 : Int64) (sx - (0 : Int64))))])) := fun t k => p109 t (by
    show Steps p.tables e below (T108.setTop (mkF m 27 #[.val (.ref a1), .val (.long (0 : Int64)), .second] [(.long (0 : Int64)), (.long sx), (.long (0 : Int64))])) _
    refine XS.lsub X108.here hx rfl (hb hby d9_27) rfl ?_
    show Steps p.tables e below (T108.setTop (mkF m 28 #[.val (.ref a1), .val (.long (0 : Int64)), .second] [(.long (sx - (0 : Int64))), (.long (0 : Int64))])) _
    refine XS.lcmp X108.here hx rfl (hb hby d9_28) rfl ?_
    show Steps p.tables e below (T108.setTop (mkF m 29 #[.val (.ref a1), .val (.long (0 : Int64)), .second] [(.int (lcmpW (0 : Int64) (sx - (0 : Int64))))])) _
    exact k)
  have c111 : ¬ ((sx - (0 : Int64)) < (0 : Int64)) := hq
  have p112 : Go p.tables e below _ (T108.setTop (mkF m 37 #[.val (.ref a1), .val (.long (0 : Int64)), .second] [(.int (1 : Int32))])) := fun t k => p110 t (by
    show Steps p.tables e below (T108.setTop (mkF m 29 #[.val (.ref a1), .val (.long (0 : Int64)), .second] [(.int (lcmpW (0 : Int64) (sx - (0 : Int64))))])) _
    refine XS.ifNo X108.here hx rfl (hb hby d9_29) rfl ((if0 _ _).trans (flt (mt (lw_gt _ _).mp c111)).2.2.1) ?_
    show Steps p.tables e below (T108.setTop (mkF m 32 #[.val (.ref a1), .val (.long (0 : Int64)), .second] [])) _
    refine XS.iconst X108.here hx rfl (hb hby d9_32) ?_
    show Steps p.tables e below (T108.setTop (mkF m 33 #[.val (.ref a1), .val (.long (0 : Int64)), .second] [(.int (1 : Int32))])) _
    refine XS.goto X108.here hx rfl (pc0 := 33) (pc' := 37) rfl (hb hby d9_33) (by decide) (by decide) ?_
    show Steps p.tables e below (T108.setTop (mkF m 37 #[.val (.ref a1), .val (.long (0 : Int64)), .second] [(.int (1 : Int32))])) _
    exact k)
  obtain ⟨fs, hr, hrun, hended, hW, hsame⟩ := X108.leave (v := some (.int (1 : Int32))) (fun h => by rw [Bd.returns] at h; cases h)
  refine ⟨_, _, p112 _ (retN X108 hx (t := .boolean) Bd.returns (by simp) (hb hby d9_37) hr), hrun, hended, _, _, rfl, ?_, ⟨_, rfl⟩, hW, hsame.mono (by decide) (by decide)⟩
  show Q9 Z a1 mx sx hd h0 n0 _ T108.heap _
  rw [e108]
  exact ⟨rfl, N0, rfl⟩
theorem d10_0 : decode prog_31_method_15_code 0 = .ok (.aload_n 0, 1) := by decide +kernel
theorem d10_1 : decode prog_31_method_15_code 1 = .ok (.getfield 37, 3) := by decide +kernel
theorem d10_4 : decode prog_31_method_15_code 4 = .ok (.ifnull 16, 3) := by decide +kernel
theorem d10_20 : decode prog_31_method_15_code 20 = .ok (.aload_n 0, 1) := by decide +kernel
theorem d10_21 : decode prog_31_method_15_code 21 = .ok (.getfield 33, 3) := by decide +kernel
theorem d10_24 : decode prog_31_method_15_code 24 = .ok (.ifnull 18, 3) := by decide +kernel
theorem d10_42 : decode prog_31_method_15_code 42 = .ok (.iconst 0, 1) := by decide +kernel
theorem d10_43 : decode prog_31_method_15_code 43 = .ok (.ireturn, 1) := by decide +kernel
theorem pn10 : plainFor (⟨"com/example/kuusi/kuusi/core/ElementLimit", "endsTurnWithin", "(J)Z"⟩ : MethodName) = true := plainFor_of_name (by first | (simp [plainName, overriddenIn]; done) | decide +kernel)
theorem ef_rm10 (m : MethodId) (a1 : Addr) (mx : Int64) (sx : Int64) (hd : Int64) : entryFrame m #[(.ref a1), (.long (0 : Int64))] 3 = mkF m 0 #[.val (.ref a1), .val (.long (0 : Int64)), .second] [] := by first | (simp [entryFrame, mkF, argsToLocals, Value.category]; done) | rfl
def Q10 (Z : State) (a1 : Addr) (mx : Int64) (sx : Int64) (hd : Int64) (h0 : Heap) (n0 : Nat) (v : Option Value) (h : Heap) (L : List Loc) : Prop := v = some (.int (0 : Int32)) ∧ Fr n0 L ∧ (h = h0)
set_option maxRecDepth 65536 in
set_option maxHeartbeats 40000000 in
theorem rm10 (l : Launch) (Z : State) (a0 : Array Value) (hw : ∀ d ∈ tables_1, d.before a0 Z = true) (ws : List Jvm.Cond) (a1 : Addr) (mx : Int64) (sx : Int64) (hd : Int64) (h0 : Heap) (n0 : Nat) (Z0 : n0 ≤ h0.size) (F0 : Fld Z h0 a1 "com/example/kuusi/kuusi/core/ElementLimit" "maximum" "J" (.long mx)) (F1 : Fld Z h0 a1 "com/example/kuusi/kuusi/core/ElementLimit" "steps" "J" (.long sx)) (F2 : Fld Z h0 a1 "com/example/kuusi/kuusi/core/ElementLimit" "held" "J" (.long hd)) (F3 : Fld Z h0 a1 "com/example/kuusi/kuusi/core/ElementLimit" "spent" "J" (.long (0 : Int64))) (F4 : Fld Z h0 a1 "com/example/kuusi/kuusi/core/ElementLimit" "whole" "Lcom/example/kuusi/kuusi/core/ElementLimit;" .null) (F5 : Fld Z h0 a1 "com/example/kuusi/kuusi/core/ElementLimit" "sharing" "Lcom/example/kuusi/kuusi/core/ElementLimit$Sharing;" .null) (E1 : Exa Z h0 a1 "com/example/kuusi/kuusi/core/ElementLimit") :
    MetFree l (⟨"com/example/kuusi/kuusi/core/ElementLimit", "endsTurnWithin", "(J)Z"⟩ : MethodName) (head1 (Jvm.Cond.code (⟨"com/example/kuusi/kuusi/core/ElementLimit", "endsTurnWithin", "(J)Z"⟩ : MethodName) prog_31_method_15_code 3 (some .boolean) :: ws) ({ frames := 0, cells := 0, slots := 0, locals := 0 } : Room)) (fun a U => a = #[(.ref a1), (.long (0 : Int64))] ∧ Z.Warmed39 U.vm ∧ U.heap = h0) (fun _ _ _ _ _ => True) (fun _ U o U' => ∃ v L, o = .returned v ∧ Q10 Z a1 mx sx hd h0 n0 v U'.heap L ∧ FrameEnd U o U' L ({ frames := 0, cells := 0, slots := 0, locals := 0 } : Room).cells ({ frames := 0, cells := 0, slots := 0, locals := 0 } : Room).slots) := by
  refine MetFree.of_bodySF pn10 hisR ?_
  intro p e s m args below meth c s₁ Bd hml0 hP hK
  obtain ⟨rfl, hZ, hh⟩ := hP
  have hx := Bd.exec
  have hby := Bd.bytes
  have hml : c.maxLocals = 3 := hml0
  have hown : s.vm.findClass "com/example/kuusi/kuusi/core/ElementLimit" = some m.cls := findClass_of_methodNamed Bd.named
  have hnm := (name_of_methodNamed Bd.named Bd.method).1
  have X0 : Stand p l e ({ frames := 0, cells := 0, slots := 0, locals := 0 } : Room) s m #[(.ref a1), (.long (0 : Int64))] below meth c s₁ [] 0 0 := Stand.of_body Bd
  have e0 : s₁.heap = h0 := by rw [← hh, Bd.state]; rfl
  have N0 := Fr.nil n0
  have p0 : Go p.tables e below (s₁.setTop (entryFrame m #[(.ref a1), (.long (0 : Int64))] 3)) (s₁.setTop (mkF m 0 #[.val (.ref a1), .val (.long (0 : Int64)), .second] [])) := fun t k => castTop (ef_rm10 m a1 mx sx hd) k
  have p101 : Go p.tables e below _ (s₁.setTop (mkF m 1 #[.val (.ref a1), .val (.long (0 : Int64)), .second] [(.ref a1)])) := fun t k => p0 t (by
    show Steps p.tables e below (s₁.setTop (mkF m 0 #[.val (.ref a1), .val (.long (0 : Int64)), .second] [])) _
    refine XS.aloadN X0.here hx rfl (hb hby d10_0) rfl rfl ?_
    show Steps p.tables e below (s₁.setTop (mkF m 1 #[.val (.ref a1), .val (.long (0 : Int64)), .second] [(.ref a1)])) _
    exact k)
  obtain ⟨T102, X102, e102, st102⟩ := getF X0 hx hZ hown (host := "") (Or.inl (own_w hw 20 rfl)) Via.refl e0 F5 (g := (mkF m 1 #[.val (.ref a1), .val (.long (0 : Int64)), .second] [(.ref a1)])) rfl rfl (hb hby d10_1)
  have p103 : Go p.tables e below _ (T102.setTop (mkF m 4 #[.val (.ref a1), .val (.long (0 : Int64)), .second] [.null])) := fun t k => p101 t (st102 t k)
  have p104 : Go p.tables e below _ (T102.setTop (mkF m 21 #[.val (.ref a1), .val (.long (0 : Int64)), .second] [(.ref a1)])) := fun t k => p103 t (by
    show Steps p.tables e below (T102.setTop (mkF m 4 #[.val (.ref a1), .val (.long (0 : Int64)), .second] [.null])) _
    refine XS.ifnullYes X102.here hx rfl (pc0 := 4) (pc' := 20) rfl (hb hby d10_4) rfl (by decide) (by decide) ?_
    show Steps p.tables e below (T102.setTop (mkF m 20 #[.val (.ref a1), .val (.long (0 : Int64)), .second] [])) _
    refine XS.aloadN X102.here hx rfl (hb hby d10_20) rfl rfl ?_
    show Steps p.tables e below (T102.setTop (mkF m 21 #[.val (.ref a1), .val (.long (0 : Int64)), .second] [(.ref a1)])) _
    exact k)
  obtain ⟨T105, X105, e105, st105⟩ := getF X102 hx hZ hown (host := "") (Or.inl (own_w hw 18 rfl)) Via.refl e102 F4 (g := (mkF m 21 #[.val (.ref a1), .val (.long (0 : Int64)), .second] [(.ref a1)])) rfl rfl (hb hby d10_21)
  have p106 : Go p.tables e below _ (T105.setTop (mkF m 24 #[.val (.ref a1), .val (.long (0 : Int64)), .second] [.null])) := fun t k => p104 t (st105 t k)
  have p107 : Go p.tables e below _ (T105.setTop (mkF m 43 #[.val (.ref a1), .val (.long (0 : Int64)), .second] [(.int (0 : Int32))])) := fun t k => p106 t (by
    show Steps p.tables e below (T105.setTop (mkF m 24 #[.val (.ref a1), .val (.long (0 : Int64)), .second] [.null])) _
    refine XS.ifnullYes X105.here hx rfl (pc0 := 24) (pc' := 42) rfl (hb hby d10_24) rfl (by decide) (by decide) ?_
    show Steps p.tables e below (T105.setTop (mkF m 42 #[.val (.ref a1), .val (.long (0 : Int64)), .second] [])) _
    refine XS.iconst X105.here hx rfl (hb hby d10_42) ?_
    show Steps p.tables e below (T105.setTop (mkF m 43 #[.val (.ref a1), .val (.long (0 : Int64)), .second] [(.int (0 : Int32))])) _
    exact k)
  obtain ⟨fs, hr, hrun, hended, hW, hsame⟩ := X105.leave (v := some (.int (0 : Int32))) (fun h => by rw [Bd.returns] at h; cases h)
  refine ⟨_, _, p107 _ (retN X105 hx (t := .boolean) Bd.returns (by simp) (hb hby d10_43) hr), hrun, hended, _, _, rfl, ?_, ⟨_, rfl⟩, hW, hsame.mono (by decide) (by decide)⟩
  show Q10 Z a1 mx sx hd h0 n0 _ T105.heap _
  rw [e105]
  exact ⟨rfl, N0, rfl⟩
theorem d11_0 : decode prog_31_method_13_code 0 = .ok (.aload_n 0, 1) := by decide +kernel
theorem d11_1 : decode prog_31_method_13_code 1 = .ok (.getfield 33, 3) := by decide +kernel
theorem d11_4 : decode prog_31_method_13_code 4 = .ok (.ifnull 11, 3) := by decide +kernel
theorem d11_15 : decode prog_31_method_13_code 15 = .ok (.aload_n 0, 1) := by decide +kernel
theorem d11_16 : decode prog_31_method_13_code 16 = .ok (.dup, 1) := by decide +kernel
theorem d11_17 : decode prog_31_method_13_code 17 = .ok (.getfield 99, 3) := by decide +kernel
theorem d11_20 : decode prog_31_method_13_code 20 = .ok (.lload_n 1, 1) := by decide +kernel
theorem d11_21 : decode prog_31_method_13_code 21 = .ok (.ladd, 1) := by decide +kernel
theorem d11_22 : decode prog_31_method_13_code 22 = .ok (.putfield 99, 3) := by decide +kernel
theorem d11_25 : decode prog_31_method_13_code 25 = .ok (.aload_n 0, 1) := by decide +kernel
theorem d11_26 : decode prog_31_method_13_code 26 = .ok (.getfield 37, 3) := by decide +kernel
theorem d11_29 : decode prog_31_method_13_code 29 = .ok (.ifnull 13, 3) := by decide +kernel
theorem d11_42 : decode prog_31_method_13_code 42 = .ok (.return_, 1) := by decide +kernel
theorem pn11 : plainFor (⟨"com/example/kuusi/kuusi/core/ElementLimit", "countSteps", "(J)V"⟩ : MethodName) = true := plainFor_of_name (by first | (simp [plainName, overriddenIn]; done) | decide +kernel)
theorem ef_rm11 (m : MethodId) (a1 : Addr) (mx : Int64) (sx : Int64) (hd : Int64) : entryFrame m #[(.ref a1), (.long (0 : Int64))] 3 = mkF m 0 #[.val (.ref a1), .val (.long (0 : Int64)), .second] [] := by first | (simp [entryFrame, mkF, argsToLocals, Value.category]; done) | rfl
def Q11 (Z : State) (a1 : Addr) (mx : Int64) (sx : Int64) (hd : Int64) (h0 : Heap) (n0 : Nat) (v : Option Value) (h : Heap) (L : List Loc) : Prop := v = none ∧ Fr n0 L ∧ (Keep h0 h [a1]) ∧ (Fld Z h a1 "com/example/kuusi/kuusi/core/ElementLimit" "maximum" "J" (.long mx)) ∧ (Fld Z h a1 "com/example/kuusi/kuusi/core/ElementLimit" "steps" "J" (.long sx)) ∧ (Fld Z h a1 "com/example/kuusi/kuusi/core/ElementLimit" "held" "J" (.long hd)) ∧ (Fld Z h a1 "com/example/kuusi/kuusi/core/ElementLimit" "spent" "J" (.long (0 : Int64))) ∧ (Fld Z h a1 "com/example/kuusi/kuusi/core/ElementLimit" "whole" "Lcom/example/kuusi/kuusi/core/ElementLimit;" .null) ∧ (Fld Z h a1 "com/example/kuusi/kuusi/core/ElementLimit" "sharing" "Lcom/example/kuusi/kuusi/core/ElementLimit$Sharing;" .null) ∧ (Exa Z h a1 "com/example/kuusi/kuusi/core/ElementLimit")
set_option maxRecDepth 65536 in
set_option maxHeartbeats 40000000 in
theorem rm11 (l : Launch) (Z : State) (a0 : Array Value) (hw : ∀ d ∈ tables_1, d.before a0 Z = true) (ws : List Jvm.Cond) (a1 : Addr) (mx : Int64) (sx : Int64) (hd : Int64) (h0 : Heap) (n0 : Nat) (Z0 : n0 ≤ h0.size) (F0 : Fld Z h0 a1 "com/example/kuusi/kuusi/core/ElementLimit" "maximum" "J" (.long mx)) (F1 : Fld Z h0 a1 "com/example/kuusi/kuusi/core/ElementLimit" "steps" "J" (.long sx)) (F2 : Fld Z h0 a1 "com/example/kuusi/kuusi/core/ElementLimit" "held" "J" (.long hd)) (F3 : Fld Z h0 a1 "com/example/kuusi/kuusi/core/ElementLimit" "spent" "J" (.long (0 : Int64))) (F4 : Fld Z h0 a1 "com/example/kuusi/kuusi/core/ElementLimit" "whole" "Lcom/example/kuusi/kuusi/core/ElementLimit;" .null) (F5 : Fld Z h0 a1 "com/example/kuusi/kuusi/core/ElementLimit" "sharing" "Lcom/example/kuusi/kuusi/core/ElementLimit$Sharing;" .null) (E1 : Exa Z h0 a1 "com/example/kuusi/kuusi/core/ElementLimit") (g1 : n0 ≤ a1) :
    MetFree l (⟨"com/example/kuusi/kuusi/core/ElementLimit", "countSteps", "(J)V"⟩ : MethodName) (head1 (Jvm.Cond.code (⟨"com/example/kuusi/kuusi/core/ElementLimit", "countSteps", "(J)V"⟩ : MethodName) prog_31_method_13_code 3 none :: ws) ({ frames := 0, cells := 0, slots := 0, locals := 0 } : Room)) (fun a U => a = #[(.ref a1), (.long (0 : Int64))] ∧ Z.Warmed39 U.vm ∧ U.heap = h0) (fun _ _ _ _ _ => True) (fun _ U o U' => ∃ v L, o = .returned v ∧ Q11 Z a1 mx sx hd h0 n0 v U'.heap L ∧ FrameEnd U o U' L ({ frames := 0, cells := 0, slots := 0, locals := 0 } : Room).cells ({ frames := 0, cells := 0, slots := 0, locals := 0 } : Room).slots) := by
  refine MetFree.of_bodySF pn11 hisR ?_
  intro p e s m args below meth c s₁ Bd hml0 hP hK
  obtain ⟨rfl, hZ, hh⟩ := hP
  have hx := Bd.exec
  have hby := Bd.bytes
  have hml : c.maxLocals = 3 := hml0
  have hown : s.vm.findClass "com/example/kuusi/kuusi/core/ElementLimit" = some m.cls := findClass_of_methodNamed Bd.named
  have hnm := (name_of_methodNamed Bd.named Bd.method).1
  have X0 : Stand p l e ({ frames := 0, cells := 0, slots := 0, locals := 0 } : Room) s m #[(.ref a1), (.long (0 : Int64))] below meth c s₁ [] 0 0 := Stand.of_body Bd
  have e0 : s₁.heap = h0 := by rw [← hh, Bd.state]; rfl
  have N0 := Fr.nil n0
  have p0 : Go p.tables e below (s₁.setTop (entryFrame m #[(.ref a1), (.long (0 : Int64))] 3)) (s₁.setTop (mkF m 0 #[.val (.ref a1), .val (.long (0 : Int64)), .second] [])) := fun t k => castTop (ef_rm11 m a1 mx sx hd) k
  have p101 : Go p.tables e below _ (s₁.setTop (mkF m 1 #[.val (.ref a1), .val (.long (0 : Int64)), .second] [(.ref a1)])) := fun t k => p0 t (by
    show Steps p.tables e below (s₁.setTop (mkF m 0 #[.val (.ref a1), .val (.long (0 : Int64)), .second] [])) _
    refine XS.aloadN X0.here hx rfl (hb hby d11_0) rfl rfl ?_
    show Steps p.tables e below (s₁.setTop (mkF m 1 #[.val (.ref a1), .val (.long (0 : Int64)), .second] [(.ref a1)])) _
    exact k)
  obtain ⟨T102, X102, e102, st102⟩ := getF X0 hx hZ hown (host := "") (Or.inl (own_w hw 18 rfl)) Via.refl e0 F4 (g := (mkF m 1 #[.val (.ref a1), .val (.long (0 : Int64)), .second] [(.ref a1)])) rfl rfl (hb hby d11_1)
  have p103 : Go p.tables e below _ (T102.setTop (mkF m 4 #[.val (.ref a1), .val (.long (0 : Int64)), .second] [.null])) := fun t k => p101 t (st102 t k)
  have p104 : Go p.tables e below _ (T102.setTop (mkF m 17 #[.val (.ref a1), .val (.long (0 : Int64)), .second] [(.ref a1), (.ref a1)])) := fun t k => p103 t (by
    show Steps p.tables e below (T102.setTop (mkF m 4 #[.val (.ref a1), .val (.long (0 : Int64)), .second] [.null])) _
    refine XS.ifnullYes X102.here hx rfl (pc0 := 4) (pc' := 15) rfl (hb hby d11_4) rfl (by decide) (by decide) ?_
    show Steps p.tables e below (T102.setTop (mkF m 15 #[.val (.ref a1), .val (.long (0 : Int64)), .second] [])) _
    refine XS.aloadN X102.here hx rfl (hb hby d11_15) rfl rfl ?_
    show Steps p.tables e below (T102.setTop (mkF m 16 #[.val (.ref a1), .val (.long (0 : Int64)), .second] [(.ref a1)])) _
    refine XS.dup X102.here hx rfl (hb hby d11_16) rfl rfl ?_
    show Steps p.tables e below (T102.setTop (mkF m 17 #[.val (.ref a1), .val (.long (0 : Int64)), .second] [(.ref a1), (.ref a1)])) _
    exact k)
  obtain ⟨T105, X105, e105, st105⟩ := getF X102 hx hZ hown (host := "") (Or.inl (own_w hw 52 rfl)) Via.refl e102 F3 (g := (mkF m 17 #[.val (.ref a1), .val (.long (0 : Int64)), .second] [(.ref a1), (.ref a1)])) rfl rfl (hb hby d11_17)
  have p106 : Go p.tables e below _ (T105.setTop (mkF m 20 #[.val (.ref a1), .val (.long (0 : Int64)), .second] [(.long (0 : Int64)), (.ref a1)])) := fun t k => p104 t (st105 t k)
  have p107 : Go p.tables e below _ (T105.setTop (mkF m 22 #[.val (.ref a1), .val (.long (0 : Int64)), .second] [(.long (0 : Int64)), (.ref a1)])) := fun t k => p106 t (by
    show Steps p.tables e below (T105.setTop (mkF m 20 #[.val (.ref a1), .val (.long (0 : Int64)), .second] [(.long (0 : Int64)), (.ref a1)])) _
    refine XS.lloadN X105.here hx rfl (hb hby d11_20) rfl ?_
    show Steps p.tables e below (T105.setTop (mkF m 21 #[.val (.ref a1), .val (.long (0 : Int64)), .second] [(.long (0 : Int64)), (.long (0 : Int64)), (.ref a1)])) _
    refine XS.ladd X105.here hx rfl (hb hby d11_21) rfl ?_
    show Steps p.tables e below (T105.setTop (mkF m 22 #[.val (.ref a1), .val (.long (0 : Int64)), .second] [(.long (0 : Int64)), (.ref a1)])) _
    exact k)
  obtain ⟨T108, h108, X108, e108, W108, st108⟩ := putF X105 hx hZ hown (host := "") (Or.inl (own_w hw 52 rfl)) Via.refl e105 F3 E1 (Or.inl (own_w hw 53 rfl)) (own_w hw 6 rfl) (ty := .long) (by decide) rfl rfl (g := (mkF m 22 #[.val (.ref a1), .val (.long (0 : Int64)), .second] [(.long (0 : Int64)), (.ref a1)])) rfl rfl (hb hby d11_22)
  have K109 : Keep h0 h108 [a1] := (Keep.refl h0 [a1]).wr W108 (Or.inl (List.mem_of_getElem? (i := 0) rfl))
  have N108 := Fr.snoc X108 N0 g1
  have p110 : Go p.tables e below _ (T108.setTop (mkF m 25 #[.val (.ref a1), .val (.long (0 : Int64)), .second] [])) := fun t k => p107 t (st108 t k)
  have F108 : Fld Z h108 a1 "com/example/kuusi/kuusi/core/ElementLimit" "spent" "J" (.long (0 : Int64)) := F3.same W108
  have p111 : Go p.tables e below _ (T108.setTop (mkF m 26 #[.val (.ref a1), .val (.long (0 : Int64)), .second] [(.ref a1)])) := fun t k => p110 t (by
    show Steps p.tables e below (T108.setTop (mkF m 25 #[.val (.ref a1), .val (.long (0 : Int64)), .second] [])) _
    refine XS.aloadN X108.here hx rfl (hb hby d11_25) rfl rfl ?_
    show Steps p.tables e below (T108.setTop (mkF m 26 #[.val (.ref a1), .val (.long (0 : Int64)), .second] [(.ref a1)])) _
    exact k)
  have f112 := (F5.other W108 (Or.inr (slot_ne (Or.inr (own_w hw 21 rfl)) (Or.inl (own_w hw 53 rfl)) (by decide) (t := (.object "com/example/kuusi/kuusi/core/ElementLimit$Sharing")) (t' := .long) (by decide) (by decide))))
  obtain ⟨T113, X113, e113, st113⟩ := getF X108 hx hZ hown (host := "") (Or.inl (own_w hw 20 rfl)) Via.refl e108 f112 (g := (mkF m 26 #[.val (.ref a1), .val (.long (0 : Int64)), .second] [(.ref a1)])) rfl rfl (hb hby d11_26)
  have p114 : Go p.tables e below _ (T113.setTop (mkF m 29 #[.val (.ref a1), .val (.long (0 : Int64)), .second] [.null])) := fun t k => p111 t (st113 t k)
  have p115 : Go p.tables e below _ (T113.setTop (mkF m 42 #[.val (.ref a1), .val (.long (0 : Int64)), .second] [])) := fun t k => p114 t (by
    show Steps p.tables e below (T113.setTop (mkF m 29 #[.val (.ref a1), .val (.long (0 : Int64)), .second] [.null])) _
    refine XS.ifnullYes X113.here hx rfl (pc0 := 29) (pc' := 42) rfl (hb hby d11_29) rfl (by decide) (by decide) ?_
    show Steps p.tables e below (T113.setTop (mkF m 42 #[.val (.ref a1), .val (.long (0 : Int64)), .second] [])) _
    exact k)
  have f116 := (F0.other W108 (Or.inr (slot_ne (Or.inr (own_w hw 15 rfl)) (Or.inl (own_w hw 53 rfl)) (by decide) (t := .long) (t' := .long) (by decide) (by decide))))
  have f117 := (F1.other W108 (Or.inr (slot_ne (Or.inr (own_w hw 17 rfl)) (Or.inl (own_w hw 53 rfl)) (by decide) (t := .long) (t' := .long) (by decide) (by decide))))
  have f118 := (F2.other W108 (Or.inr (slot_ne (Or.inl (own_w hw 37 rfl)) (Or.inl (own_w hw 53 rfl)) (by decide) (t := .long) (t' := .long) (by decide) (by decide))))
  have f119 := (F4.other W108 (Or.inr (slot_ne (Or.inr (own_w hw 19 rfl)) (Or.inl (own_w hw 53 rfl)) (by decide) (t := (.object "com/example/kuusi/kuusi/core/ElementLimit")) (t' := .long) (by decide) (by decide))))
  have f120 := (E1.wr W108)
  obtain ⟨fs, hr, hrun, hended, hW, hsame⟩ := X113.leave (v := none) (fun _ => rfl)
  refine ⟨_, _, p115 _ (X113.returnOut hx Bd.returns (hb hby d11_42) hr), hrun, hended, _, _, rfl, ?_, ⟨_, rfl⟩, hW, hsame.mono (by decide) (by decide)⟩
  show Q11 Z a1 mx sx hd h0 n0 _ T113.heap _
  rw [e113]
  exact ⟨rfl, N108, K109, f116, f117, f118, F108, f119, f112, f120⟩
theorem d8_0 : decode prog_31_method_14_code 0 = .ok (.aload_n 0, 1) := by decide +kernel
theorem d8_1 : decode prog_31_method_14_code 1 = .ok (.lload_n 1, 1) := by decide +kernel
theorem d8_2 : decode prog_31_method_14_code 2 = .ok (.invokevirtual 89, 3) := by decide +kernel
theorem d8_5 : decode prog_31_method_14_code 5 = .ok (.ifCond .eq 23, 3) := by decide +kernel
theorem d8_8 : decode prog_31_method_14_code 8 = .ok (.aload_n 0, 1) := by decide +kernel
theorem d8_9 : decode prog_31_method_14_code 9 = .ok (.lload_n 3, 1) := by decide +kernel
theorem d8_10 : decode prog_31_method_14_code 10 = .ok (.invokevirtual 69, 3) := by decide +kernel
theorem d8_13 : decode prog_31_method_14_code 13 = .ok (.ifCond .eq 15, 3) := by decide +kernel
theorem d8_16 : decode prog_31_method_14_code 16 = .ok (.aload_n 0, 1) := by decide +kernel
theorem d8_17 : decode prog_31_method_14_code 17 = .ok (.lload_n 1, 1) := by decide +kernel
theorem d8_18 : decode prog_31_method_14_code 18 = .ok (.invokevirtual 104, 3) := by decide +kernel
theorem d8_21 : decode prog_31_method_14_code 21 = .ok (.ifCond .ne 7, 3) := by decide +kernel
theorem d8_24 : decode prog_31_method_14_code 24 = .ok (.iconst 1, 1) := by decide +kernel
theorem d8_25 : decode prog_31_method_14_code 25 = .ok (.goto 4, 3) := by decide +kernel
theorem d8_28 : decode prog_31_method_14_code 28 = .ok (.iconst 0, 1) := by decide +kernel
theorem d8_29 : decode prog_31_method_14_code 29 = .ok (.istore 5, 2) := by decide +kernel
theorem d8_31 : decode prog_31_method_14_code 31 = .ok (.iload 5, 2) := by decide +kernel
theorem d8_33 : decode prog_31_method_14_code 33 = .ok (.ifCond .eq 8, 3) := by decide +kernel
theorem d8_36 : decode prog_31_method_14_code 36 = .ok (.aload_n 0, 1) := by decide +kernel
theorem d8_37 : decode prog_31_method_14_code 37 = .ok (.lload_n 1, 1) := by decide +kernel
theorem d8_38 : decode prog_31_method_14_code 38 = .ok (.invokevirtual 96, 3) := by decide +kernel
theorem d8_41 : decode prog_31_method_14_code 41 = .ok (.iload 5, 2) := by decide +kernel
theorem d8_43 : decode prog_31_method_14_code 43 = .ok (.ireturn, 1) := by decide +kernel
theorem pn8 : plainFor (⟨"com/example/kuusi/kuusi/core/ElementLimit", "recount", "(JJ)Z"⟩ : MethodName) = true := plainFor_of_name (by first | (simp [plainName, overriddenIn]; done) | decide +kernel)
theorem ef_rm8 (m : MethodId) (a1 : Addr) (q2 : Int64) (mx : Int64) (sx : Int64) (hd : Int64) : entryFrame m #[(.ref a1), (.long (0 : Int64)), (.long q2)] 6 = mkF m 0 #[.val (.ref a1), .val (.long (0 : Int64)), .second, .val (.long q2), .second, .unset] [] := by first | (simp [entryFrame, mkF, argsToLocals, Value.category]; done) | rfl
def Q8 (Z : State) (a1 : Addr) (q2 : Int64) (mx : Int64) (sx : Int64) (hd : Int64) (h0 : Heap) (n0 : Nat) (v : Option Value) (h : Heap) (L : List Loc) : Prop := v = some (.int (own_hr mx hd q2)) ∧ Fr n0 L ∧ (Keep h0 h [a1]) ∧ (Fld Z h a1 "com/example/kuusi/kuusi/core/ElementLimit" "maximum" "J" (.long mx)) ∧ (Fld Z h a1 "com/example/kuusi/kuusi/core/ElementLimit" "steps" "J" (.long sx)) ∧ (Fld Z h a1 "com/example/kuusi/kuusi/core/ElementLimit" "held" "J" (.long hd)) ∧ (Fld Z h a1 "com/example/kuusi/kuusi/core/ElementLimit" "spent" "J" (.long (0 : Int64))) ∧ (Fld Z h a1 "com/example/kuusi/kuusi/core/ElementLimit" "whole" "Lcom/example/kuusi/kuusi/core/ElementLimit;" .null) ∧ (Fld Z h a1 "com/example/kuusi/kuusi/core/ElementLimit" "sharing" "Lcom/example/kuusi/kuusi/core/ElementLimit$Sharing;" .null) ∧ (Exa Z h a1 "com/example/kuusi/kuusi/core/ElementLimit")
set_option maxRecDepth 65536 in
set_option maxHeartbeats 40000000 in
theorem rm8 (l : Launch) (Z : State) (a0 : Array Value) (hw : ∀ d ∈ tables_1, d.before a0 Z = true) (ws : List Jvm.Cond) (a1 : Addr) (q2 : Int64) (mx : Int64) (sx : Int64) (hd : Int64) (h0 : Heap) (n0 : Nat) (Z0 : n0 ≤ h0.size) (F0 : Fld Z h0 a1 "com/example/kuusi/kuusi/core/ElementLimit" "maximum" "J" (.long mx)) (F1 : Fld Z h0 a1 "com/example/kuusi/kuusi/core/ElementLimit" "steps" "J" (.long sx)) (F2 : Fld Z h0 a1 "com/example/kuusi/kuusi/core/ElementLimit" "held" "J" (.long hd)) (F3 : Fld Z h0 a1 "com/example/kuusi/kuusi/core/ElementLimit" "spent" "J" (.long (0 : Int64))) (F4 : Fld Z h0 a1 "com/example/kuusi/kuusi/core/ElementLimit" "whole" "Lcom/example/kuusi/kuusi/core/ElementLimit;" .null) (F5 : Fld Z h0 a1 "com/example/kuusi/kuusi/core/ElementLimit" "sharing" "Lcom/example/kuusi/kuusi/core/ElementLimit$Sharing;" .null) (E1 : Exa Z h0 a1 "com/example/kuusi/kuusi/core/ElementLimit") (g1 : n0 ≤ a1) (hq : ¬ (sx - (0 : Int64)) < (0 : Int64)) :
    MetFree l (⟨"com/example/kuusi/kuusi/core/ElementLimit", "recount", "(JJ)Z"⟩ : MethodName) (head1 (Jvm.Cond.code (⟨"com/example/kuusi/kuusi/core/ElementLimit", "recount", "(JJ)Z"⟩ : MethodName) prog_31_method_14_code 6 (some .boolean) :: ws) ({ frames := 1, cells := 0, slots := 0, locals := 14 } : Room)) (fun a U => a = #[(.ref a1), (.long (0 : Int64)), (.long q2)] ∧ Z.Warmed39 U.vm ∧ U.heap = h0) (fun _ _ _ _ _ => True) (fun _ U o U' => ∃ v L, o = .returned v ∧ Q8 Z a1 q2 mx sx hd h0 n0 v U'.heap L ∧ FrameEnd U o U' L ({ frames := 1, cells := 0, slots := 0, locals := 14 } : Room).cells ({ frames := 1, cells := 0, slots := 0, locals := 14 } : Room).slots) := by
  refine MetFree.of_bodySF pn8 hisR ?_
  intro p e s m args below meth c s₁ Bd hml0 hP hK
  obtain ⟨rfl, hZ, hh⟩ := hP
  have hx := Bd.exec
  have hby := Bd.bytes
  have hml : c.maxLocals = 6 := hml0
  have hown : s.vm.findClass "com/example/kuusi/kuusi/core/ElementLimit" = some m.cls := findClass_of_methodNamed Bd.named
  have hnm := (name_of_methodNamed Bd.named Bd.method).1
  have X0 : Stand p l e ({ frames := 1, cells := 0, slots := 0, locals := 14 } : Room) s m #[(.ref a1), (.long (0 : Int64)), (.long q2)] below meth c s₁ [] 0 0 := Stand.of_body Bd
  have e0 : s₁.heap = h0 := by rw [← hh, Bd.state]; rfl
  have N0 := Fr.nil n0
  have p0 : Go p.tables e below (s₁.setTop (entryFrame m #[(.ref a1), (.long (0 : Int64)), (.long q2)] 6)) (s₁.setTop (mkF m 0 #[.val (.ref a1), .val (.long (0 : Int64)), .second, .val (.long q2), .second, .unset] [])) := fun t k => castTop (ef_rm8 m a1 q2 mx sx hd) k
  have p101 : Go p.tables e below _ (s₁.setTop (mkF m 2 #[.val (.ref a1), .val (.long (0 : Int64)), .second, .val (.long q2), .second, .unset] [(.long (0 : Int64)), (.ref a1)])) := fun t k => p0 t (by
    show Steps p.tables e below (s₁.setTop (mkF m 0 #[.val (.ref a1), .val (.long (0 : Int64)), .second, .val (.long q2), .second, .unset] [])) _
    refine XS.aloadN X0.here hx rfl (hb hby d8_0) rfl rfl ?_
    show Steps p.tables e below (s₁.setTop (mkF m 1 #[.val (.ref a1), .val (.long (0 : Int64)), .second, .val (.long q2), .second, .unset] [(.ref a1)])) _
    refine XS.lloadN X0.here hx rfl (hb hby d8_1) rfl ?_
    show Steps p.tables e below (s₁.setTop (mkF m 2 #[.val (.ref a1), .val (.long (0 : Int64)), .second, .val (.long q2), .second, .unset] [(.long (0 : Int64)), (.ref a1)])) _
    exact k)
  obtain ⟨cq102, q102, q102'⟩ := E1.cell
  obtain ⟨_, _, ⟨T102, L102, k102, n102⟩, -, X102, ⟨Lc102, hQ102, l102, y102, z102⟩, st102⟩ := X0.privateBack hx (y := (⟨"com/example/kuusi/kuusi/core/ElementLimit", "hasSteps", "(J)Z"⟩ : MethodName)) hown (mvT hZ (own_w hw 48 rfl)) (mvT hZ (own_w hw 49 rfl)) (selPriv (mvT hZ (own_w hw 25 rfl)) rfl (Cond.privateMethod_at (mvP hZ (own_w hw 50 rfl) (args := #[]))) (mvT hZ (own_w hw 49 rfl)) (by decide)) (Cond.privateMethod_at (mvP hZ (own_w hw 50 rfl) (args := #[]))) (mvT hZ (own_w hw 51 rfl)) (by decide) (backOf (W := 0) (rm9 l Z a0 hw [] a1 mx sx hd h0 n0 (Nat.le_trans Z0 (Keep.refl h0 [a1]).1) F0 F1 F2 F3 F4 F5 E1 hq) hZ (own_w hw 51 rfl) (own_w hw 7 rfl) (by decide) (by decide)) (g := (mkF m 2 #[.val (.ref a1), .val (.long (0 : Int64)), .second, .val (.long q2), .second, .unset] [(.long (0 : Int64)), (.ref a1)])) rfl (by rw [hml]; rfl) (Steps.refl _) (a := a1) (by rw [e0]; exact q102) q102' (argsL := [(.long (0 : Int64))]) (rest := []) (lenOf pd0 rfl) rfl (by show 2 * 0 + _ ≤ _; exact Nat.le_of_eq rfl) (hb hby d8_2) (fun _ _ => ⟨rfl, e0, (by decide : 0 + 0 ≤ _), (by decide : 0 + 0 ≤ _)⟩)
  dsimp only [Pt.U, Pt.locs, Pt.cells, Pt.slots] at X102 l102 y102 z102 st102 hQ102
  subst l102 y102 z102
  obtain ⟨rfl, N102q, q102_hh⟩ := hQ102
  have N102 := Fr.app N0 N102q
  have p103 : Go p.tables e below _ (T102.setTop (mkF m 5 #[.val (.ref a1), .val (.long (0 : Int64)), .second, .val (.long q2), .second, .unset] [(.int (1 : Int32))])) := fun t k => p101 t (st102.trans k)
  have p104 : Go p.tables e below _ (T102.setTop (mkF m 10 #[.val (.ref a1), .val (.long (0 : Int64)), .second, .val (.long q2), .second, .unset] [(.long q2), (.ref a1)])) := fun t k => p103 t (by
    show Steps p.tables e below (T102.setTop (mkF m 5 #[.val (.ref a1), .val (.long (0 : Int64)), .second, .val (.long q2), .second, .unset] [(.int (1 : Int32))])) _
    refine XS.ifNo X102.here hx rfl (hb hby d8_5) rfl ((if0 _ _).trans (feq (by decide : ¬ ((1 : Int32) = (0 : Int32)))).1) ?_
    show Steps p.tables e below (T102.setTop (mkF m 8 #[.val (.ref a1), .val (.long (0 : Int64)), .second, .val (.long q2), .second, .unset] [])) _
    refine XS.aloadN X102.here hx rfl (hb hby d8_8) rfl rfl ?_
    show Steps p.tables e below (T102.setTop (mkF m 9 #[.val (.ref a1), .val (.long (0 : Int64)), .second, .val (.long q2), .second, .unset] [(.ref a1)])) _
    refine XS.lloadN X102.here hx rfl (hb hby d8_9) rfl ?_
    show Steps p.tables e below (T102.setTop (mkF m 10 #[.val (.ref a1), .val (.long (0 : Int64)), .second, .val (.long q2), .second, .unset] [(.long q2), (.ref a1)])) _
    exact k)
  obtain ⟨cq105, q105, q105'⟩ := E1.cell
  obtain ⟨_, _, ⟨T105, L105, k105, n105⟩, -, X105, ⟨Lc105, hQ105, l105, y105, z105⟩, st105⟩ := X102.privateBack hx (y := (⟨"com/example/kuusi/kuusi/core/ElementLimit", "hasRoom", "(J)Z"⟩ : MethodName)) hown (mvT hZ (own_w hw 32 rfl)) (mvT hZ (own_w hw 33 rfl)) (selPriv (mvT hZ (own_w hw 25 rfl)) rfl (Cond.privateMethod_at (mvP hZ (own_w hw 34 rfl) (args := #[]))) (mvT hZ (own_w hw 33 rfl)) (by decide)) (Cond.privateMethod_at (mvP hZ (own_w hw 34 rfl) (args := #[]))) (mvT hZ (own_w hw 35 rfl)) (by decide) (backOf (W := 0) (rm6 l Z a0 hw [] a1 q2 mx sx hd h0 n0 (Nat.le_trans Z0 (Keep.refl h0 [a1]).1) F0 F1 F2 F3 F4 F5 E1) hZ (own_w hw 35 rfl) (own_w hw 7 rfl) (by decide) (by decide)) (g := (mkF m 10 #[.val (.ref a1), .val (.long (0 : Int64)), .second, .val (.long q2), .second, .unset] [(.long q2), (.ref a1)])) rfl (by rw [hml]; rfl) (Steps.refl _) (a := a1) (by rw [q102_hh]; exact q105) q105' (argsL := [(.long q2)]) (rest := []) (lenOf pd0 rfl) rfl (by show 2 * 0 + _ ≤ _; exact Nat.le_of_eq rfl) (hb hby d8_10) (fun _ _ => ⟨rfl, q102_hh, (by decide : 0 + 0 ≤ _), (by decide : 0 + 0 ≤ _)⟩)
  dsimp only [Pt.U, Pt.locs, Pt.cells, Pt.slots] at X105 l105 y105 z105 st105 hQ105
  subst l105 y105 z105
  obtain ⟨rfl, N105q, q105_hh⟩ := hQ105
  have N105 := Fr.app N102 N105q
  have p106 : Go p.tables e below _ (T105.setTop (mkF m 13 #[.val (.ref a1), .val (.long (0 : Int64)), .second, .val (.long q2), .second, .unset] [(.int (own_hr mx hd q2))])) := fun t k => p104 t (st105.trans k)
  by_cases c107 : (own_hr mx hd q2) = (0 : Int32)
  · have p108 : Go p.tables e below _ (T105.setTop (mkF m 28 #[.val (.ref a1), .val (.long (0 : Int64)), .second, .val (.long q2), .second, .unset] [])) := fun t k => p106 t (by
      show Steps p.tables e below (T105.setTop (mkF m 13 #[.val (.ref a1), .val (.long (0 : Int64)), .second, .val (.long q2), .second, .unset] [(.int (own_hr mx hd q2))])) _
      refine XS.ifYes X105.here hx rfl (pc0 := 13) (pc' := 28) rfl (hb hby d8_13) rfl ((if0 _ _).trans (teq c107).1) (by decide) (by decide) ?_
      show Steps p.tables e below (T105.setTop (mkF m 28 #[.val (.ref a1), .val (.long (0 : Int64)), .second, .val (.long q2), .second, .unset] [])) _
      exact k)
    have p109 : Go p.tables e below _ (T105.setTop (mkF m 43 #[.val (.ref a1), .val (.long (0 : Int64)), .second, .val (.long q2), .second, .val (.int (0 : Int32))] [(.int (0 : Int32))])) := fun t k => p108 t (by
      show Steps p.tables e below (T105.setTop (mkF m 28 #[.val (.ref a1), .val (.long (0 : Int64)), .second, .val (.long q2), .second, .unset] [])) _
      refine XS.iconst X105.here hx rfl (hb hby d8_28) ?_
      show Steps p.tables e below (T105.setTop (mkF m 29 #[.val (.ref a1), .val (.long (0 : Int64)), .second, .val (.long q2), .second, .unset] [(.int (0 : Int32))])) _
      refine XS.istore X105.here hx rfl (hb hby d8_29) rfl (l' := #[.val (.ref a1), .val (.long (0 : Int64)), .second, .val (.long q2), .second, .val (.int (0 : Int32))]) rfl ?_
      show Steps p.tables e below (T105.setTop (mkF m 31 #[.val (.ref a1), .val (.long (0 : Int64)), .second, .val (.long q2), .second, .val (.int (0 : Int32))] [])) _
      refine XS.iload X105.here hx rfl (hb hby d8_31) rfl ?_
      show Steps p.tables e below (T105.setTop (mkF m 33 #[.val (.ref a1), .val (.long (0 : Int64)), .second, .val (.long q2), .second, .val (.int (0 : Int32))] [(.int (0 : Int32))])) _
      refine XS.ifYes X105.here hx rfl (pc0 := 33) (pc' := 41) rfl (hb hby d8_33) rfl ((if0 _ _).trans (teq (by decide : ((0 : Int32) = (0 : Int32)))).1) (by decide) (by decide) ?_
      show Steps p.tables e below (T105.setTop (mkF m 41 #[.val (.ref a1), .val (.long (0 : Int64)), .second, .val (.long q2), .second, .val (.int (0 : Int32))] [])) _
      refine XS.iload X105.here hx rfl (hb hby d8_41) rfl ?_
      show Steps p.tables e below (T105.setTop (mkF m 43 #[.val (.ref a1), .val (.long (0 : Int64)), .second, .val (.long q2), .second, .val (.int (0 : Int32))] [(.int (0 : Int32))])) _
      exact k)
    obtain ⟨fs, hr, hrun, hended, hW, hsame⟩ := X105.leave (v := some (.int (0 : Int32))) (fun h => by rw [Bd.returns] at h; cases h)
    refine ⟨_, _, p109 _ (retN X105 hx (t := .boolean) Bd.returns (by simp) (hb hby d8_43) hr), hrun, hended, _, _, rfl, ?_, ⟨_, rfl⟩, hW, hsame.mono (by decide) (by decide)⟩
    show Q8 Z a1 q2 mx sx hd h0 n0 _ T105.heap _
    rw [q105_hh]
    exact ⟨by rw [c107], N105, (Keep.refl h0 [a1]), F0, F1, F2, F3, F4, F5, E1⟩
  · have p110 : Go p.tables e below _ (T105.setTop (mkF m 16 #[.val (.ref a1), .val (.long (0 : Int64)), .second, .val (.long q2), .second, .unset] [])) := fun t k => p106 t (by
      show Steps p.tables e below (T105.setTop (mkF m 13 #[.val (.ref a1), .val (.long (0 : Int64)), .second, .val (.long q2), .second, .unset] [(.int (own_hr mx hd q2))])) _
      refine XS.ifNo X105.here hx rfl (hb hby d8_13) rfl ((if0 _ _).trans (feq c107).1) ?_
      show Steps p.tables e below (T105.setTop (mkF m 16 #[.val (.ref a1), .val (.long (0 : Int64)), .second, .val (.long q2), .second, .unset] [])) _
      exact k)
    have p111 : Go p.tables e below _ (T105.setTop (mkF m 18 #[.val (.ref a1), .val (.long (0 : Int64)), .second, .val (.long q2), .second, .unset] [(.long (0 : Int64)), (.ref a1)])) := fun t k => p110 t (by
      show Steps p.tables e below (T105.setTop (mkF m 16 #[.val (.ref a1), .val (.long (0 : Int64)), .second, .val (.long q2), .second, .unset] [])) _
      refine XS.aloadN X105.here hx rfl (hb hby d8_16) rfl rfl ?_
      show Steps p.tables e below (T105.setTop (mkF m 17 #[.val (.ref a1), .val (.long (0 : Int64)), .second, .val (.long q2), .second, .unset] [(.ref a1)])) _
      refine XS.lloadN X105.here hx rfl (hb hby d8_17) rfl ?_
      show Steps p.tables e below (T105.setTop (mkF m 18 #[.val (.ref a1), .val (.long (0 : Int64)), .second, .val (.long q2), .second, .unset] [(.long (0 : Int64)), (.ref a1)])) _
      exact k)
    obtain ⟨cq112, q112, q112'⟩ := E1.cell
    obtain ⟨_, _, ⟨T112, L112, k112, n112⟩, -, X112, ⟨Lc112, hQ112, l112, y112, z112⟩, st112⟩ := X105.privateBack hx (y := (⟨"com/example/kuusi/kuusi/core/ElementLimit", "endsTurnWithin", "(J)Z"⟩ : MethodName)) hown (mvT hZ (own_w hw 54 rfl)) (mvT hZ (own_w hw 55 rfl)) (selPriv (mvT hZ (own_w hw 25 rfl)) rfl (Cond.privateMethod_at (mvP hZ (own_w hw 56 rfl) (args := #[]))) (mvT hZ (own_w hw 55 rfl)) (by decide)) (Cond.privateMethod_at (mvP hZ (own_w hw 56 rfl) (args := #[]))) (mvT hZ (own_w hw 57 rfl)) (by decide) (backOf (W := 0) (rm10 l Z a0 hw [] a1 mx sx hd h0 n0 (Nat.le_trans Z0 (Keep.refl h0 [a1]).1) F0 F1 F2 F3 F4 F5 E1) hZ (own_w hw 57 rfl) (own_w hw 7 rfl) (by decide) (by decide)) (g := (mkF m 18 #[.val (.ref a1), .val (.long (0 : Int64)), .second, .val (.long q2), .second, .unset] [(.long (0 : Int64)), (.ref a1)])) rfl (by rw [hml]; rfl) (Steps.refl _) (a := a1) (by rw [q105_hh]; exact q112) q112' (argsL := [(.long (0 : Int64))]) (rest := []) (lenOf pd0 rfl) rfl (by show 2 * 0 + _ ≤ _; exact Nat.le_of_eq rfl) (hb hby d8_18) (fun _ _ => ⟨rfl, q105_hh, (by decide : 0 + 0 ≤ _), (by decide : 0 + 0 ≤ _)⟩)
    dsimp only [Pt.U, Pt.locs, Pt.cells, Pt.slots] at X112 l112 y112 z112 st112 hQ112
    subst l112 y112 z112
    obtain ⟨rfl, N112q, q112_hh⟩ := hQ112
    have N112 := Fr.app N105 N112q
    have p113 : Go p.tables e below _ (T112.setTop (mkF m 21 #[.val (.ref a1), .val (.long (0 : Int64)), .second, .val (.long q2), .second, .unset] [(.int (0 : Int32))])) := fun t k => p111 t (st112.trans k)
    have p114 : Go p.tables e below _ (T112.setTop (mkF m 38 #[.val (.ref a1), .val (.long (0 : Int64)), .second, .val (.long q2), .second, .val (.int (1 : Int32))] [(.long (0 : Int64)), (.ref a1)])) := fun t k => p113 t (by
      show Steps p.tables e below (T112.setTop (mkF m 21 #[.val (.ref a1), .val (.long (0 : Int64)), .second, .val (.long q2), .second, .unset] [(.int (0 : Int32))])) _
      refine XS.ifNo X112.here hx rfl (hb hby d8_21) rfl ((if0 _ _).trans (teq (by decide : ((0 : Int32) = (0 : Int32)))).2) ?_
      show Steps p.tables e below (T112.setTop (mkF m 24 #[.val (.ref a1), .val (.long (0 : Int64)), .second, .val (.long q2), .second, .unset] [])) _
      refine XS.iconst X112.here hx rfl (hb hby d8_24) ?_
      show Steps p.tables e below (T112.setTop (mkF m 25 #[.val (.ref a1), .val (.long (0 : Int64)), .second, .val (.long q2), .second, .unset] [(.int (1 : Int32))])) _
      refine XS.goto X112.here hx rfl (pc0 := 25) (pc' := 29) rfl (hb hby d8_25) (by decide) (by decide) ?_
      show Steps p.tables e below (T112.setTop (mkF m 29 #[.val (.ref a1), .val (.long (0 : Int64)), .second, .val (.long q2), .second, .unset] [(.int (1 : Int32))])) _
      refine XS.istore X112.here hx rfl (hb hby d8_29) rfl (l' := #[.val (.ref a1), .val (.long (0 : Int64)), .second, .val (.long q2), .second, .val (.int (1 : Int32))]) rfl ?_
      show Steps p.tables e below (T112.setTop (mkF m 31 #[.val (.ref a1), .val (.long (0 : Int64)), .second, .val (.long q2), .second, .val (.int (1 : Int32))] [])) _
      refine XS.iload X112.here hx rfl (hb hby d8_31) rfl ?_
      show Steps p.tables e below (T112.setTop (mkF m 33 #[.val (.ref a1), .val (.long (0 : Int64)), .second, .val (.long q2), .second, .val (.int (1 : Int32))] [(.int (1 : Int32))])) _
      refine XS.ifNo X112.here hx rfl (hb hby d8_33) rfl ((if0 _ _).trans (feq (by decide : ¬ ((1 : Int32) = (0 : Int32)))).1) ?_
      show Steps p.tables e below (T112.setTop (mkF m 36 #[.val (.ref a1), .val (.long (0 : Int64)), .second, .val (.long q2), .second, .val (.int (1 : Int32))] [])) _
      refine XS.aloadN X112.here hx rfl (hb hby d8_36) rfl rfl ?_
      show Steps p.tables e below (T112.setTop (mkF m 37 #[.val (.ref a1), .val (.long (0 : Int64)), .second, .val (.long q2), .second, .val (.int (1 : Int32))] [(.ref a1)])) _
      refine XS.lloadN X112.here hx rfl (hb hby d8_37) rfl ?_
      show Steps p.tables e below (T112.setTop (mkF m 38 #[.val (.ref a1), .val (.long (0 : Int64)), .second, .val (.long q2), .second, .val (.int (1 : Int32))] [(.long (0 : Int64)), (.ref a1)])) _
      exact k)
    obtain ⟨cq115, q115, q115'⟩ := E1.cell
    obtain ⟨_, _, ⟨T115, L115, k115, n115⟩, -, X115, ⟨Lc115, hQ115, l115, y115, z115⟩, st115⟩ := X112.privateBack hx (y := (⟨"com/example/kuusi/kuusi/core/ElementLimit", "countSteps", "(J)V"⟩ : MethodName)) hown (mvT hZ (own_w hw 58 rfl)) (mvT hZ (own_w hw 59 rfl)) (selPriv (mvT hZ (own_w hw 25 rfl)) rfl (Cond.privateMethod_at (mvP hZ (own_w hw 60 rfl) (args := #[]))) (mvT hZ (own_w hw 59 rfl)) (by decide)) (Cond.privateMethod_at (mvP hZ (own_w hw 60 rfl) (args := #[]))) (mvT hZ (own_w hw 61 rfl)) (by decide) (backOf (W := 0) (rm11 l Z a0 hw [] a1 mx sx hd h0 n0 (Nat.le_trans Z0 (Keep.refl h0 [a1]).1) F0 F1 F2 F3 F4 F5 E1 g1) hZ (own_w hw 61 rfl) (own_w hw 7 rfl) (by decide) (by decide)) (g := (mkF m 38 #[.val (.ref a1), .val (.long (0 : Int64)), .second, .val (.long q2), .second, .val (.int (1 : Int32))] [(.long (0 : Int64)), (.ref a1)])) rfl (by rw [hml]; rfl) (Steps.refl _) (a := a1) (by rw [q112_hh]; exact q115) q115' (argsL := [(.long (0 : Int64))]) (rest := []) (lenOf pd1 rfl) rfl (by show 2 * 0 + _ ≤ _; exact Nat.le_of_eq rfl) (hb hby d8_38) (fun _ _ => ⟨rfl, q112_hh, (by decide : 0 + 0 ≤ _), (by decide : 0 + 0 ≤ _)⟩)
    dsimp only [Pt.U, Pt.locs, Pt.cells, Pt.slots] at X115 l115 y115 z115 st115 hQ115
    subst l115 y115 z115
    obtain ⟨rfl, N115q, q115_K, q115_F0, q115_F1, q115_F2, q115_F3, q115_F4, q115_F5, q115_E1⟩ := hQ115
    have N115 := Fr.app N112 N115q
    have K116 : Keep h0 T115.heap [a1] := (Keep.refl h0 [a1]).trans q115_K (allS (Or.inl (List.mem_of_getElem? (i := 0) rfl)) all0)
    have p117 : Go p.tables e below _ (T115.setTop (mkF m 41 #[.val (.ref a1), .val (.long (0 : Int64)), .second, .val (.long q2), .second, .val (.int (1 : Int32))] [])) := fun t k => p114 t (st115.trans k)
    have p118 : Go p.tables e below _ (T115.setTop (mkF m 43 #[.val (.ref a1), .val (.long (0 : Int64)), .second, .val (.long q2), .second, .val (.int (1 : Int32))] [(.int (1 : Int32))])) := fun t k => p117 t (by
      show Steps p.tables e below (T115.setTop (mkF m 41 #[.val (.ref a1), .val (.long (0 : Int64)), .second, .val (.long q2), .second, .val (.int (1 : Int32))] [])) _
      refine XS.iload X115.here hx rfl (hb hby d8_41) rfl ?_
      show Steps p.tables e below (T115.setTop (mkF m 43 #[.val (.ref a1), .val (.long (0 : Int64)), .second, .val (.long q2), .second, .val (.int (1 : Int32))] [(.int (1 : Int32))])) _
      exact k)
    obtain ⟨fs, hr, hrun, hended, hW, hsame⟩ := X115.leave (v := some (.int (1 : Int32))) (fun h => by rw [Bd.returns] at h; cases h)
    refine ⟨_, _, p118 _ (retN X115 hx (t := .boolean) Bd.returns (by simp) (hb hby d8_43) hr), hrun, hended, _, _, rfl, ?_, ⟨_, rfl⟩, hW, hsame.mono (by decide) (by decide)⟩
    show Q8 Z a1 q2 mx sx hd h0 n0 _ T115.heap _
    exact ⟨by rw [own_hr01 c107], N115, K116, q115_F0, q115_F1, q115_F2, q115_F3, q115_F4, q115_F5, q115_E1⟩
theorem d12_0 : decode prog_31_method_16_code 0 = .ok (.aload_n 0, 1) := by decide +kernel
theorem d12_1 : decode prog_31_method_16_code 1 = .ok (.getfield 99, 3) := by decide +kernel
theorem d12_4 : decode prog_31_method_16_code 4 = .ok (.lreturn, 1) := by decide +kernel
theorem pn12 : plainFor (⟨"com/example/kuusi/kuusi/core/ElementLimit", "spent", "()J"⟩ : MethodName) = true := plainFor_of_name (by first | (simp [plainName, overriddenIn]; done) | decide +kernel)
theorem ef_rm12 (m : MethodId) (a1 : Addr) (mx : Int64) (sx : Int64) (hd : Int64) : entryFrame m #[(.ref a1)] 1 = mkF m 0 #[.val (.ref a1)] [] := by first | (simp [entryFrame, mkF, argsToLocals, Value.category]; done) | rfl
def Q12 (Z : State) (a1 : Addr) (mx : Int64) (sx : Int64) (hd : Int64) (h0 : Heap) (n0 : Nat) (v : Option Value) (h : Heap) (L : List Loc) : Prop := v = some (.long (0 : Int64)) ∧ Fr n0 L ∧ (h = h0)
set_option maxRecDepth 65536 in
set_option maxHeartbeats 40000000 in
theorem rm12 (l : Launch) (Z : State) (a0 : Array Value) (hw : ∀ d ∈ tables_1, d.before a0 Z = true) (ws : List Jvm.Cond) (a1 : Addr) (mx : Int64) (sx : Int64) (hd : Int64) (h0 : Heap) (n0 : Nat) (Z0 : n0 ≤ h0.size) (F0 : Fld Z h0 a1 "com/example/kuusi/kuusi/core/ElementLimit" "maximum" "J" (.long mx)) (F1 : Fld Z h0 a1 "com/example/kuusi/kuusi/core/ElementLimit" "steps" "J" (.long sx)) (F2 : Fld Z h0 a1 "com/example/kuusi/kuusi/core/ElementLimit" "held" "J" (.long hd)) (F3 : Fld Z h0 a1 "com/example/kuusi/kuusi/core/ElementLimit" "spent" "J" (.long (0 : Int64))) (F4 : Fld Z h0 a1 "com/example/kuusi/kuusi/core/ElementLimit" "whole" "Lcom/example/kuusi/kuusi/core/ElementLimit;" .null) (F5 : Fld Z h0 a1 "com/example/kuusi/kuusi/core/ElementLimit" "sharing" "Lcom/example/kuusi/kuusi/core/ElementLimit$Sharing;" .null) (E1 : Exa Z h0 a1 "com/example/kuusi/kuusi/core/ElementLimit") :
    MetFree l (⟨"com/example/kuusi/kuusi/core/ElementLimit", "spent", "()J"⟩ : MethodName) (head1 (Jvm.Cond.code (⟨"com/example/kuusi/kuusi/core/ElementLimit", "spent", "()J"⟩ : MethodName) prog_31_method_16_code 1 (some .long) :: ws) ({ frames := 0, cells := 0, slots := 0, locals := 0 } : Room)) (fun a U => a = #[(.ref a1)] ∧ Z.Warmed39 U.vm ∧ U.heap = h0) (fun _ _ _ _ _ => True) (fun _ U o U' => ∃ v L, o = .returned v ∧ Q12 Z a1 mx sx hd h0 n0 v U'.heap L ∧ FrameEnd U o U' L ({ frames := 0, cells := 0, slots := 0, locals := 0 } : Room).cells ({ frames := 0, cells := 0, slots := 0, locals := 0 } : Room).slots) := by
  refine MetFree.of_bodySF pn12 hisR ?_
  intro p e s m args below meth c s₁ Bd hml0 hP hK
  obtain ⟨rfl, hZ, hh⟩ := hP
  have hx := Bd.exec
  have hby := Bd.bytes
  have hml : c.maxLocals = 1 := hml0
  have hown : s.vm.findClass "com/example/kuusi/kuusi/core/ElementLimit" = some m.cls := findClass_of_methodNamed Bd.named
  have hnm := (name_of_methodNamed Bd.named Bd.method).1
  have X0 : Stand p l e ({ frames := 0, cells := 0, slots := 0, locals := 0 } : Room) s m #[(.ref a1)] below meth c s₁ [] 0 0 := Stand.of_body Bd
  have e0 : s₁.heap = h0 := by rw [← hh, Bd.state]; rfl
  have N0 := Fr.nil n0
  have p0 : Go p.tables e below (s₁.setTop (entryFrame m #[(.ref a1)] 1)) (s₁.setTop (mkF m 0 #[.val (.ref a1)] [])) := fun t k => castTop (ef_rm12 m a1 mx sx hd) k
  have p101 : Go p.tables e below _ (s₁.setTop (mkF m 1 #[.val (.ref a1)] [(.ref a1)])) := fun t k => p0 t (by
    show Steps p.tables e below (s₁.setTop (mkF m 0 #[.val (.ref a1)] [])) _
    refine XS.aloadN X0.here hx rfl (hb hby d12_0) rfl rfl ?_
    show Steps p.tables e below (s₁.setTop (mkF m 1 #[.val (.ref a1)] [(.ref a1)])) _
    exact k)
  obtain ⟨T102, X102, e102, st102⟩ := getF X0 hx hZ hown (host := "") (Or.inl (own_w hw 52 rfl)) Via.refl e0 F3 (g := (mkF m 1 #[.val (.ref a1)] [(.ref a1)])) rfl rfl (hb hby d12_1)
  have p103 : Go p.tables e below _ (T102.setTop (mkF m 4 #[.val (.ref a1)] [(.long (0 : Int64))])) := fun t k => p101 t (st102 t k)
  obtain ⟨fs, hr, hrun, hended, hW, hsame⟩ := X102.leave (v := some (.long (0 : Int64))) (fun h => by rw [Bd.returns] at h; cases h)
  refine ⟨_, _, p103 _ (retOut X102 hx (w := (.long (0 : Int64))) (t := .long) (i := .lreturn) Bd.returns rfl (Or.inr (Or.inl ⟨rfl, rfl, _, rfl⟩)) (hb hby d12_4) hr), hrun, hended, _, _, rfl, ?_, ⟨_, rfl⟩, hW, hsame.mono (by decide) (by decide)⟩
  show Q12 Z a1 mx sx hd h0 n0 _ T102.heap _
  rw [e102]
  exact ⟨rfl, N0, rfl⟩
theorem pd2 : parseMethodDescriptor "(JJ)J" = some ⟨[.long, .long], some .long⟩ := by decide +kernel
theorem pd3 : parseMethodDescriptor "(JJ)V" = some ⟨[.long, .long], none⟩ := by decide +kernel
theorem pd4 : parseMethodDescriptor "(JJ)Z" = some ⟨[.long, .long], some .boolean⟩ := by decide +kernel
theorem pd5 : parseMethodDescriptor "()J" = some ⟨[], some .long⟩ := by decide +kernel
theorem pn0 : plainFor (⟨"com/example/kuusi/kuusi/core/ElementLimitReleasePinLaw", "law", "(JJJJJJ)Z"⟩ : MethodName) = true := plainFor_of_name (by first | (simp [plainName, overriddenIn]; done) | decide +kernel)
theorem ef_rm0 (m : MethodId) (q1 : Int64) (q2 : Int64) (q3 : Int64) (q4 : Int64) (q5 : Int64) (q6 : Int64) : entryFrame m #[(.long q1), (.long q2), (.long q3), (.long q4), (.long q5), (.long q6)] maxLocals = mkF m 0 #[.val (.long q1), .second, .val (.long q2), .second, .val (.long q3), .second, .val (.long q4), .second, .val (.long q5), .second, .val (.long q6), .second, .unset, .unset, .unset, .unset, .unset, .unset, .unset, .unset, .unset, .unset, .unset, .unset, .unset, .unset, .unset, .unset, .unset, .unset] [] := by first | (simp [entryFrame, mkF, argsToLocals, Value.category, maxLocals]; done) | rfl
def Q0 (Z : State) (q1 : Int64) (q2 : Int64) (q3 : Int64) (q4 : Int64) (q5 : Int64) (q6 : Int64) (h0 : Heap) (n0 : Nat) (v : Option Value) (h : Heap) (L : List Loc) : Prop := v = some (.int (1 : Int32)) ∧ Fr n0 L
set_option maxRecDepth 65536 in
set_option maxHeartbeats 40000000 in
theorem rm0 (l : Launch) (Z : State) (a0 : Array Value) (hw : ∀ d ∈ tables_1, d.before a0 Z = true) (ws : List Jvm.Cond) (q1 : Int64) (q2 : Int64) (q3 : Int64) (q4 : Int64) (q5 : Int64) (q6 : Int64) (h0 : Heap) (n0 : Nat) (Z0 : n0 ≤ h0.size) :
    MetFree l x (head1 (Jvm.Cond.code x code maxLocals ret :: ws) room_1) (fun a U => a = #[(.long q1), (.long q2), (.long q3), (.long q4), (.long q5), (.long q6)] ∧ Z.Warmed39 U.vm ∧ U.heap = h0) (fun _ _ _ _ _ => True) (fun _ U o U' => ∃ v L, o = .returned v ∧ Q0 Z q1 q2 q3 q4 q5 q6 h0 n0 v U'.heap L ∧ FrameEnd U o U' L room_1.cells room_1.slots) := by
  refine MetFree.of_bodySF pn0 hisR ?_
  intro p e s m args below meth c s₁ Bd hml0 hP hK
  obtain ⟨rfl, hZ, hh⟩ := hP
  have hx := Bd.exec
  have hby := Bd.bytes
  have hml : c.maxLocals = 30 := hml0
  have hown : s.vm.findClass "com/example/kuusi/kuusi/core/ElementLimitReleasePinLaw" = some m.cls := findClass_of_methodNamed Bd.named
  have hnm := (name_of_methodNamed Bd.named Bd.method).1
  have X0 : Stand p l e room_1 s m #[(.long q1), (.long q2), (.long q3), (.long q4), (.long q5), (.long q6)] below meth c s₁ [] 0 0 := Stand.of_body Bd
  have e0 : s₁.heap = h0 := by rw [← hh, Bd.state]; rfl
  have N0 := Fr.nil n0
  have p0 : Go p.tables e below (s₁.setTop (entryFrame m #[(.long q1), (.long q2), (.long q3), (.long q4), (.long q5), (.long q6)] maxLocals)) (s₁.setTop (mkF m 0 #[.val (.long q1), .second, .val (.long q2), .second, .val (.long q3), .second, .val (.long q4), .second, .val (.long q5), .second, .val (.long q6), .second, .unset, .unset, .unset, .unset, .unset, .unset, .unset, .unset, .unset, .unset, .unset, .unset, .unset, .unset, .unset, .unset, .unset, .unset] [])) := fun t k => castTop (ef_rm0 m q1 q2 q3 q4 q5 q6) k
  have p101 : Go p.tables e below _ (s₁.setTop (mkF m 7 #[.val (.long q1), .second, .val (.long q2), .second, .val (.long q3), .second, .val (.long q4), .second, .val (.long q5), .second, .val (.long q6), .second, .val (.long (q1 &&& (9223372036854775807 : Int64))), .second, .unset, .unset, .unset, .unset, .unset, .unset, .unset, .unset, .unset, .unset, .unset, .unset, .unset, .unset, .unset, .unset] [])) := fun t k => p0 t (by
    show Steps p.tables e below (s₁.setTop (mkF m 0 #[.val (.long q1), .second, .val (.long q2), .second, .val (.long q3), .second, .val (.long q4), .second, .val (.long q5), .second, .val (.long q6), .second, .unset, .unset, .unset, .unset, .unset, .unset, .unset, .unset, .unset, .unset, .unset, .unset, .unset, .unset, .unset, .unset, .unset, .unset] [])) _
    refine XS.lloadN X0.here hx rfl (hb hby at_0) rfl ?_
    show Steps p.tables e below (s₁.setTop (mkF m 1 #[.val (.long q1), .second, .val (.long q2), .second, .val (.long q3), .second, .val (.long q4), .second, .val (.long q5), .second, .val (.long q6), .second, .unset, .unset, .unset, .unset, .unset, .unset, .unset, .unset, .unset, .unset, .unset, .unset, .unset, .unset, .unset, .unset, .unset, .unset] [(.long q1)])) _
    refine X0.ldc2Long hx hown (mvT hZ (own_w hw 0 rfl)) (g := (mkF m 1 #[.val (.long q1), .second, .val (.long q2), .second, .val (.long q3), .second, .val (.long q4), .second, .val (.long q5), .second, .val (.long q6), .second, .unset, .unset, .unset, .unset, .unset, .unset, .unset, .unset, .unset, .unset, .unset, .unset, .unset, .unset, .unset, .unset, .unset, .unset] [(.long q1)])) rfl (hb hby at_1) _ ?_
    show Steps p.tables e below (s₁.setTop (mkF m 4 #[.val (.long q1), .second, .val (.long q2), .second, .val (.long q3), .second, .val (.long q4), .second, .val (.long q5), .second, .val (.long q6), .second, .unset, .unset, .unset, .unset, .unset, .unset, .unset, .unset, .unset, .unset, .unset, .unset, .unset, .unset, .unset, .unset, .unset, .unset] [(.long (9223372036854775807 : Int64)), (.long q1)])) _
    refine XS.land X0.here hx rfl (hb hby at_4) rfl ?_
    show Steps p.tables e below (s₁.setTop (mkF m 5 #[.val (.long q1), .second, .val (.long q2), .second, .val (.long q3), .second, .val (.long q4), .second, .val (.long q5), .second, .val (.long q6), .second, .unset, .unset, .unset, .unset, .unset, .unset, .unset, .unset, .unset, .unset, .unset, .unset, .unset, .unset, .unset, .unset, .unset, .unset] [(.long (q1 &&& (9223372036854775807 : Int64)))])) _
    refine XS.lstore X0.here hx rfl (hb hby at_5) rfl (l' := #[.val (.long q1), .second, .val (.long q2), .second, .val (.long q3), .second, .val (.long q4), .second, .val (.long q5), .second, .val (.long q6), .second, .val (.long (q1 &&& (9223372036854775807 : Int64))), .second, .unset, .unset, .unset, .unset, .unset, .unset, .unset, .unset, .unset, .unset, .unset, .unset, .unset, .unset, .unset, .unset]) rfl ?_
    show Steps p.tables e below (s₁.setTop (mkF m 7 #[.val (.long q1), .second, .val (.long q2), .second, .val (.long q3), .second, .val (.long q4), .second, .val (.long q5), .second, .val (.long q6), .second, .val (.long (q1 &&& (9223372036854775807 : Int64))), .second, .unset, .unset, .unset, .unset, .unset, .unset, .unset, .unset, .unset, .unset, .unset, .unset, .unset, .unset, .unset, .unset] [])) _
    exact k)
  obtain ⟨mm, hmm⟩ : ∃ z, z = (q1 &&& (9223372036854775807 : Int64)) := ⟨_, rfl⟩
  have p102 : Go p.tables e below (s₁.setTop (entryFrame m #[(.long q1), (.long q2), (.long q3), (.long q4), (.long q5), (.long q6)] maxLocals)) (s₁.setTop (mkF m 7 #[.val (.long q1), .second, .val (.long q2), .second, .val (.long q3), .second, .val (.long q4), .second, .val (.long q5), .second, .val (.long q6), .second, .val (.long mm), .second, .unset, .unset, .unset, .unset, .unset, .unset, .unset, .unset, .unset, .unset, .unset, .unset, .unset, .unset, .unset, .unset] [])) := by rw [hmm]; exact p101
  have nm : ¬ mm < (0 : Int64) := by rw [hmm, own_lt]; have := own_max q1; simpa using this
  have p103 : Go p.tables e below _ (s₁.setTop (mkF m 14 #[.val (.long q1), .second, .val (.long q2), .second, .val (.long q3), .second, .val (.long q4), .second, .val (.long q5), .second, .val (.long q6), .second, .val (.long mm), .second, .val (.long (q2 &&& (9223372036854775807 : Int64))), .second, .unset, .unset, .unset, .unset, .unset, .unset, .unset, .unset, .unset, .unset, .unset, .unset, .unset, .unset] [])) := fun t k => p102 t (by
    show Steps p.tables e below (s₁.setTop (mkF m 7 #[.val (.long q1), .second, .val (.long q2), .second, .val (.long q3), .second, .val (.long q4), .second, .val (.long q5), .second, .val (.long q6), .second, .val (.long mm), .second, .unset, .unset, .unset, .unset, .unset, .unset, .unset, .unset, .unset, .unset, .unset, .unset, .unset, .unset, .unset, .unset] [])) _
    refine XS.lloadN X0.here hx rfl (hb hby at_7) rfl ?_
    show Steps p.tables e below (s₁.setTop (mkF m 8 #[.val (.long q1), .second, .val (.long q2), .second, .val (.long q3), .second, .val (.long q4), .second, .val (.long q5), .second, .val (.long q6), .second, .val (.long mm), .second, .unset, .unset, .unset, .unset, .unset, .unset, .unset, .unset, .unset, .unset, .unset, .unset, .unset, .unset, .unset, .unset] [(.long q2)])) _
    refine X0.ldc2Long hx hown (mvT hZ (own_w hw 0 rfl)) (g := (mkF m 8 #[.val (.long q1), .second, .val (.long q2), .second, .val (.long q3), .second, .val (.long q4), .second, .val (.long q5), .second, .val (.long q6), .second, .val (.long mm), .second, .unset, .unset, .unset, .unset, .unset, .unset, .unset, .unset, .unset, .unset, .unset, .unset, .unset, .unset, .unset, .unset] [(.long q2)])) rfl (hb hby at_8) _ ?_
    show Steps p.tables e below (s₁.setTop (mkF m 11 #[.val (.long q1), .second, .val (.long q2), .second, .val (.long q3), .second, .val (.long q4), .second, .val (.long q5), .second, .val (.long q6), .second, .val (.long mm), .second, .unset, .unset, .unset, .unset, .unset, .unset, .unset, .unset, .unset, .unset, .unset, .unset, .unset, .unset, .unset, .unset] [(.long (9223372036854775807 : Int64)), (.long q2)])) _
    refine XS.land X0.here hx rfl (hb hby at_11) rfl ?_
    show Steps p.tables e below (s₁.setTop (mkF m 12 #[.val (.long q1), .second, .val (.long q2), .second, .val (.long q3), .second, .val (.long q4), .second, .val (.long q5), .second, .val (.long q6), .second, .val (.long mm), .second, .unset, .unset, .unset, .unset, .unset, .unset, .unset, .unset, .unset, .unset, .unset, .unset, .unset, .unset, .unset, .unset] [(.long (q2 &&& (9223372036854775807 : Int64)))])) _
    refine XS.lstore X0.here hx rfl (hb hby at_12) rfl (l' := #[.val (.long q1), .second, .val (.long q2), .second, .val (.long q3), .second, .val (.long q4), .second, .val (.long q5), .second, .val (.long q6), .second, .val (.long mm), .second, .val (.long (q2 &&& (9223372036854775807 : Int64))), .second, .unset, .unset, .unset, .unset, .unset, .unset, .unset, .unset, .unset, .unset, .unset, .unset, .unset, .unset]) rfl ?_
    show Steps p.tables e below (s₁.setTop (mkF m 14 #[.val (.long q1), .second, .val (.long q2), .second, .val (.long q3), .second, .val (.long q4), .second, .val (.long q5), .second, .val (.long q6), .second, .val (.long mm), .second, .val (.long (q2 &&& (9223372036854775807 : Int64))), .second, .unset, .unset, .unset, .unset, .unset, .unset, .unset, .unset, .unset, .unset, .unset, .unset, .unset, .unset] [])) _
    exact k)
  obtain ⟨ss, hss⟩ : ∃ z, z = (q2 &&& (9223372036854775807 : Int64)) := ⟨_, rfl⟩
  have p104 : Go p.tables e below (s₁.setTop (entryFrame m #[(.long q1), (.long q2), (.long q3), (.long q4), (.long q5), (.long q6)] maxLocals)) (s₁.setTop (mkF m 14 #[.val (.long q1), .second, .val (.long q2), .second, .val (.long q3), .second, .val (.long q4), .second, .val (.long q5), .second, .val (.long q6), .second, .val (.long mm), .second, .val (.long ss), .second, .unset, .unset, .unset, .unset, .unset, .unset, .unset, .unset, .unset, .unset, .unset, .unset, .unset, .unset] [])) := by rw [hss]; exact p103
  have ns : ¬ ss < (0 : Int64) := by rw [hss, own_lt]; have := own_max q2; simpa using this
  have p105 : Go p.tables e below _ (s₁.setTop (mkF m 18 #[.val (.long q1), .second, .val (.long q2), .second, .val (.long q3), .second, .val (.long q4), .second, .val (.long q5), .second, .val (.long q6), .second, .val (.long mm), .second, .val (.long ss), .second, .unset, .unset, .unset, .unset, .unset, .unset, .unset, .unset, .unset, .unset, .unset, .unset, .unset, .unset] [(.long mm), (.long q3)])) := fun t k => p104 t (by
    show Steps p.tables e below (s₁.setTop (mkF m 14 #[.val (.long q1), .second, .val (.long q2), .second, .val (.long q3), .second, .val (.long q4), .second, .val (.long q5), .second, .val (.long q6), .second, .val (.long mm), .second, .val (.long ss), .second, .unset, .unset, .unset, .unset, .unset, .unset, .unset, .unset, .unset, .unset, .unset, .unset, .unset, .unset] [])) _
    refine XS.lload X0.here hx rfl (hb hby at_14) rfl ?_
    show Steps p.tables e below (s₁.setTop (mkF m 16 #[.val (.long q1), .second, .val (.long q2), .second, .val (.long q3), .second, .val (.long q4), .second, .val (.long q5), .second, .val (.long q6), .second, .val (.long mm), .second, .val (.long ss), .second, .unset, .unset, .unset, .unset, .unset, .unset, .unset, .unset, .unset, .unset, .unset, .unset, .unset, .unset] [(.long q3)])) _
    refine XS.lload X0.here hx rfl (hb hby at_16) rfl ?_
    show Steps p.tables e below (s₁.setTop (mkF m 18 #[.val (.long q1), .second, .val (.long q2), .second, .val (.long q3), .second, .val (.long q4), .second, .val (.long q5), .second, .val (.long q6), .second, .val (.long mm), .second, .val (.long ss), .second, .unset, .unset, .unset, .unset, .unset, .unset, .unset, .unset, .unset, .unset, .unset, .unset, .unset, .unset] [(.long mm), (.long q3)])) _
    exact k)
  obtain ⟨_, _, ⟨T106, L106, k106, n106⟩, -, X106, ⟨Lc106, hQ106, l106, y106, z106⟩, st106⟩ := Jvm.LawKit.callS X0 hx (y := (⟨"com/example/kuusi/kuusi/core/ElementLimitReleasePinLaw", "upTo", "(JJ)J"⟩ : MethodName)) hown (mvT hZ (own_w hw 1 rfl)) (mvT hZ (own_w hw 2 rfl)) (mvT hZ (own_w hw 3 rfl)) (mvT hZ (own_w hw 4 rfl)) (by decide) (backOf (W := 0) (rm1 l Z a0 hw [] q3 mm h0 n0 (Nat.le_trans Z0 (Keep.refl h0 []).1) nm) hZ (own_w hw 4 rfl) (own_w hw 3 rfl) (by decide) (by decide)) (g := (mkF m 18 #[.val (.long q1), .second, .val (.long q2), .second, .val (.long q3), .second, .val (.long q4), .second, .val (.long q5), .second, .val (.long q6), .second, .val (.long mm), .second, .val (.long ss), .second, .unset, .unset, .unset, .unset, .unset, .unset, .unset, .unset, .unset, .unset, .unset, .unset, .unset, .unset] [(.long mm), (.long q3)])) rfl (by rw [hml]; rfl) (argsL := [(.long q3), (.long mm)]) (rest := []) (lenOf pd2 rfl) rfl (by show 2 * 0 + _ ≤ _; exact Nat.le_of_eq rfl) (hb hby at_18) (fun _ _ => ⟨rfl, e0, (by decide : 0 + 0 ≤ _), (by decide : 0 + 0 ≤ _)⟩)
  dsimp only [Pt.U, Pt.locs, Pt.cells, Pt.slots] at X106 l106 y106 z106 st106 hQ106
  subst l106 y106 z106
  obtain ⟨rfl, N106q, q106_hh⟩ := hQ106
  have N106 := Fr.app N0 N106q
  have p107 : Go p.tables e below _ (T106.setTop (mkF m 21 #[.val (.long q1), .second, .val (.long q2), .second, .val (.long q3), .second, .val (.long q4), .second, .val (.long q5), .second, .val (.long q6), .second, .val (.long mm), .second, .val (.long ss), .second, .unset, .unset, .unset, .unset, .unset, .unset, .unset, .unset, .unset, .unset, .unset, .unset, .unset, .unset] [(.long (own_up q3 mm))])) := fun t k => p105 t (st106 _ k)
  have p108 : Go p.tables e below _ (T106.setTop (mkF m 23 #[.val (.long q1), .second, .val (.long q2), .second, .val (.long q3), .second, .val (.long q4), .second, .val (.long q5), .second, .val (.long q6), .second, .val (.long mm), .second, .val (.long ss), .second, .val (.long (own_up q3 mm)), .second, .unset, .unset, .unset, .unset, .unset, .unset, .unset, .unset, .unset, .unset, .unset, .unset] [])) := fun t k => p107 t (by
    show Steps p.tables e below (T106.setTop (mkF m 21 #[.val (.long q1), .second, .val (.long q2), .second, .val (.long q3), .second, .val (.long q4), .second, .val (.long q5), .second, .val (.long q6), .second, .val (.long mm), .second, .val (.long ss), .second, .unset, .unset, .unset, .unset, .unset, .unset, .unset, .unset, .unset, .unset, .unset, .unset, .unset, .unset] [(.long (own_up q3 mm))])) _
    refine XS.lstore X106.here hx rfl (hb hby at_21) rfl (l' := #[.val (.long q1), .second, .val (.long q2), .second, .val (.long q3), .second, .val (.long q4), .second, .val (.long q5), .second, .val (.long q6), .second, .val (.long mm), .second, .val (.long ss), .second, .val (.long (own_up q3 mm)), .second, .unset, .unset, .unset, .unset, .unset, .unset, .unset, .unset, .unset, .unset, .unset, .unset]) rfl ?_
    show Steps p.tables e below (T106.setTop (mkF m 23 #[.val (.long q1), .second, .val (.long q2), .second, .val (.long q3), .second, .val (.long q4), .second, .val (.long q5), .second, .val (.long q6), .second, .val (.long mm), .second, .val (.long ss), .second, .val (.long (own_up q3 mm)), .second, .unset, .unset, .unset, .unset, .unset, .unset, .unset, .unset, .unset, .unset, .unset, .unset] [])) _
    exact k)
  obtain ⟨hh1, hhh1⟩ : ∃ z, z = (own_up q3 mm) := ⟨_, rfl⟩
  have p109 : Go p.tables e below (s₁.setTop (entryFrame m #[(.long q1), (.long q2), (.long q3), (.long q4), (.long q5), (.long q6)] maxLocals)) (T106.setTop (mkF m 23 #[.val (.long q1), .second, .val (.long q2), .second, .val (.long q3), .second, .val (.long q4), .second, .val (.long q5), .second, .val (.long q6), .second, .val (.long mm), .second, .val (.long ss), .second, .val (.long hh1), .second, .unset, .unset, .unset, .unset, .unset, .unset, .unset, .unset, .unset, .unset, .unset, .unset] [])) := by rw [hhh1]; exact p108
  have nh : ¬ hh1 < (0 : Int64) ∧ ¬ mm < hh1 := by rw [hhh1]; exact own_up_le _ _ nm
  have p110 : Go p.tables e below _ (T106.setTop (mkF m 27 #[.val (.long q1), .second, .val (.long q2), .second, .val (.long q3), .second, .val (.long q4), .second, .val (.long q5), .second, .val (.long q6), .second, .val (.long mm), .second, .val (.long ss), .second, .val (.long hh1), .second, .unset, .unset, .unset, .unset, .unset, .unset, .unset, .unset, .unset, .unset, .unset, .unset] [(.long hh1), (.long q4)])) := fun t k => p109 t (by
    show Steps p.tables e below (T106.setTop (mkF m 23 #[.val (.long q1), .second, .val (.long q2), .second, .val (.long q3), .second, .val (.long q4), .second, .val (.long q5), .second, .val (.long q6), .second, .val (.long mm), .second, .val (.long ss), .second, .val (.long hh1), .second, .unset, .unset, .unset, .unset, .unset, .unset, .unset, .unset, .unset, .unset, .unset, .unset] [])) _
    refine XS.lload X106.here hx rfl (hb hby at_23) rfl ?_
    show Steps p.tables e below (T106.setTop (mkF m 25 #[.val (.long q1), .second, .val (.long q2), .second, .val (.long q3), .second, .val (.long q4), .second, .val (.long q5), .second, .val (.long q6), .second, .val (.long mm), .second, .val (.long ss), .second, .val (.long hh1), .second, .unset, .unset, .unset, .unset, .unset, .unset, .unset, .unset, .unset, .unset, .unset, .unset] [(.long q4)])) _
    refine XS.lload X106.here hx rfl (hb hby at_25) rfl ?_
    show Steps p.tables e below (T106.setTop (mkF m 27 #[.val (.long q1), .second, .val (.long q2), .second, .val (.long q3), .second, .val (.long q4), .second, .val (.long q5), .second, .val (.long q6), .second, .val (.long mm), .second, .val (.long ss), .second, .val (.long hh1), .second, .unset, .unset, .unset, .unset, .unset, .unset, .unset, .unset, .unset, .unset, .unset, .unset] [(.long hh1), (.long q4)])) _
    exact k)
  obtain ⟨_, _, ⟨T111, L111, k111, n111⟩, -, X111, ⟨Lc111, hQ111, l111, y111, z111⟩, st111⟩ := Jvm.LawKit.callS X106 hx (y := (⟨"com/example/kuusi/kuusi/core/ElementLimitReleasePinLaw", "upTo", "(JJ)J"⟩ : MethodName)) hown (mvT hZ (own_w hw 1 rfl)) (mvT hZ (own_w hw 2 rfl)) (mvT hZ (own_w hw 3 rfl)) (mvT hZ (own_w hw 4 rfl)) (by decide) (backOf (W := 0) (rm1 l Z a0 hw [] q4 hh1 h0 n0 (Nat.le_trans Z0 (Keep.refl h0 []).1) nh.1) hZ (own_w hw 4 rfl) (own_w hw 3 rfl) (by decide) (by decide)) (g := (mkF m 27 #[.val (.long q1), .second, .val (.long q2), .second, .val (.long q3), .second, .val (.long q4), .second, .val (.long q5), .second, .val (.long q6), .second, .val (.long mm), .second, .val (.long ss), .second, .val (.long hh1), .second, .unset, .unset, .unset, .unset, .unset, .unset, .unset, .unset, .unset, .unset, .unset, .unset] [(.long hh1), (.long q4)])) rfl (by rw [hml]; rfl) (argsL := [(.long q4), (.long hh1)]) (rest := []) (lenOf pd2 rfl) rfl (by show 2 * 0 + _ ≤ _; exact Nat.le_of_eq rfl) (hb hby at_27) (fun _ _ => ⟨rfl, q106_hh, (by decide : 0 + 0 ≤ _), (by decide : 0 + 0 ≤ _)⟩)
  dsimp only [Pt.U, Pt.locs, Pt.cells, Pt.slots] at X111 l111 y111 z111 st111 hQ111
  subst l111 y111 z111
  obtain ⟨rfl, N111q, q111_hh⟩ := hQ111
  have N111 := Fr.app N106 N111q
  have p112 : Go p.tables e below _ (T111.setTop (mkF m 30 #[.val (.long q1), .second, .val (.long q2), .second, .val (.long q3), .second, .val (.long q4), .second, .val (.long q5), .second, .val (.long q6), .second, .val (.long mm), .second, .val (.long ss), .second, .val (.long hh1), .second, .unset, .unset, .unset, .unset, .unset, .unset, .unset, .unset, .unset, .unset, .unset, .unset] [(.long (own_up q4 hh1))])) := fun t k => p110 t (st111 _ k)
  have p113 : Go p.tables e below _ (T111.setTop (mkF m 32 #[.val (.long q1), .second, .val (.long q2), .second, .val (.long q3), .second, .val (.long q4), .second, .val (.long q5), .second, .val (.long q6), .second, .val (.long mm), .second, .val (.long ss), .second, .val (.long hh1), .second, .val (.long (own_up q4 hh1)), .second, .unset, .unset, .unset, .unset, .unset, .unset, .unset, .unset, .unset, .unset] [])) := fun t k => p112 t (by
    show Steps p.tables e below (T111.setTop (mkF m 30 #[.val (.long q1), .second, .val (.long q2), .second, .val (.long q3), .second, .val (.long q4), .second, .val (.long q5), .second, .val (.long q6), .second, .val (.long mm), .second, .val (.long ss), .second, .val (.long hh1), .second, .unset, .unset, .unset, .unset, .unset, .unset, .unset, .unset, .unset, .unset, .unset, .unset] [(.long (own_up q4 hh1))])) _
    refine XS.lstore X111.here hx rfl (hb hby at_30) rfl (l' := #[.val (.long q1), .second, .val (.long q2), .second, .val (.long q3), .second, .val (.long q4), .second, .val (.long q5), .second, .val (.long q6), .second, .val (.long mm), .second, .val (.long ss), .second, .val (.long hh1), .second, .val (.long (own_up q4 hh1)), .second, .unset, .unset, .unset, .unset, .unset, .unset, .unset, .unset, .unset, .unset]) rfl ?_
    show Steps p.tables e below (T111.setTop (mkF m 32 #[.val (.long q1), .second, .val (.long q2), .second, .val (.long q3), .second, .val (.long q4), .second, .val (.long q5), .second, .val (.long q6), .second, .val (.long mm), .second, .val (.long ss), .second, .val (.long hh1), .second, .val (.long (own_up q4 hh1)), .second, .unset, .unset, .unset, .unset, .unset, .unset, .unset, .unset, .unset, .unset] [])) _
    exact k)
  obtain ⟨r1, hr1⟩ : ∃ z, z = (own_up q4 hh1) := ⟨_, rfl⟩
  have p114 : Go p.tables e below (s₁.setTop (entryFrame m #[(.long q1), (.long q2), (.long q3), (.long q4), (.long q5), (.long q6)] maxLocals)) (T111.setTop (mkF m 32 #[.val (.long q1), .second, .val (.long q2), .second, .val (.long q3), .second, .val (.long q4), .second, .val (.long q5), .second, .val (.long q6), .second, .val (.long mm), .second, .val (.long ss), .second, .val (.long hh1), .second, .val (.long r1), .second, .unset, .unset, .unset, .unset, .unset, .unset, .unset, .unset, .unset, .unset] [])) := by rw [hr1]; exact p113
  have nr1 : ¬ r1 < (0 : Int64) ∧ ¬ hh1 < r1 := by rw [hr1]; exact own_up_le _ _ nh.1
  have nd1 := own_subn hh1 r1 nh.1 nr1.1 nr1.2
  have p115 : Go p.tables e below _ (T111.setTop (mkF m 39 #[.val (.long q1), .second, .val (.long q2), .second, .val (.long q3), .second, .val (.long q4), .second, .val (.long q5), .second, .val (.long q6), .second, .val (.long mm), .second, .val (.long ss), .second, .val (.long hh1), .second, .val (.long r1), .second, .unset, .unset, .unset, .unset, .unset, .unset, .unset, .unset, .unset, .unset] [(.long (hh1 - r1)), (.long q5)])) := fun t k => p114 t (by
    show Steps p.tables e below (T111.setTop (mkF m 32 #[.val (.long q1), .second, .val (.long q2), .second, .val (.long q3), .second, .val (.long q4), .second, .val (.long q5), .second, .val (.long q6), .second, .val (.long mm), .second, .val (.long ss), .second, .val (.long hh1), .second, .val (.long r1), .second, .unset, .unset, .unset, .unset, .unset, .unset, .unset, .unset, .unset, .unset] [])) _
    refine XS.lload X111.here hx rfl (hb hby at_32) rfl ?_
    show Steps p.tables e below (T111.setTop (mkF m 34 #[.val (.long q1), .second, .val (.long q2), .second, .val (.long q3), .second, .val (.long q4), .second, .val (.long q5), .second, .val (.long q6), .second, .val (.long mm), .second, .val (.long ss), .second, .val (.long hh1), .second, .val (.long r1), .second, .unset, .unset, .unset, .unset, .unset, .unset, .unset, .unset, .unset, .unset] [(.long q5)])) _
    refine XS.lload X111.here hx rfl (hb hby at_34) rfl ?_
    show Steps p.tables e below (T111.setTop (mkF m 36 #[.val (.long q1), .second, .val (.long q2), .second, .val (.long q3), .second, .val (.long q4), .second, .val (.long q5), .second, .val (.long q6), .second, .val (.long mm), .second, .val (.long ss), .second, .val (.long hh1), .second, .val (.long r1), .second, .unset, .unset, .unset, .unset, .unset, .unset, .unset, .unset, .unset, .unset] [(.long hh1), (.long q5)])) _
    refine XS.lload X111.here hx rfl (hb hby at_36) rfl ?_
    show Steps p.tables e below (T111.setTop (mkF m 38 #[.val (.long q1), .second, .val (.long q2), .second, .val (.long q3), .second, .val (.long q4), .second, .val (.long q5), .second, .val (.long q6), .second, .val (.long mm), .second, .val (.long ss), .second, .val (.long hh1), .second, .val (.long r1), .second, .unset, .unset, .unset, .unset, .unset, .unset, .unset, .unset, .unset, .unset] [(.long r1), (.long hh1), (.long q5)])) _
    refine XS.lsub X111.here hx rfl (hb hby at_38) rfl ?_
    show Steps p.tables e below (T111.setTop (mkF m 39 #[.val (.long q1), .second, .val (.long q2), .second, .val (.long q3), .second, .val (.long q4), .second, .val (.long q5), .second, .val (.long q6), .second, .val (.long mm), .second, .val (.long ss), .second, .val (.long hh1), .second, .val (.long r1), .second, .unset, .unset, .unset, .unset, .unset, .unset, .unset, .unset, .unset, .unset] [(.long (hh1 - r1)), (.long q5)])) _
    exact k)
  obtain ⟨_, _, ⟨T116, L116, k116, n116⟩, -, X116, ⟨Lc116, hQ116, l116, y116, z116⟩, st116⟩ := Jvm.LawKit.callS X111 hx (y := (⟨"com/example/kuusi/kuusi/core/ElementLimitReleasePinLaw", "upTo", "(JJ)J"⟩ : MethodName)) hown (mvT hZ (own_w hw 1 rfl)) (mvT hZ (own_w hw 2 rfl)) (mvT hZ (own_w hw 3 rfl)) (mvT hZ (own_w hw 4 rfl)) (by decide) (backOf (W := 0) (rm1 l Z a0 hw [] q5 (hh1 - r1) h0 n0 (Nat.le_trans Z0 (Keep.refl h0 []).1) nd1) hZ (own_w hw 4 rfl) (own_w hw 3 rfl) (by decide) (by decide)) (g := (mkF m 39 #[.val (.long q1), .second, .val (.long q2), .second, .val (.long q3), .second, .val (.long q4), .second, .val (.long q5), .second, .val (.long q6), .second, .val (.long mm), .second, .val (.long ss), .second, .val (.long hh1), .second, .val (.long r1), .second, .unset, .unset, .unset, .unset, .unset, .unset, .unset, .unset, .unset, .unset] [(.long (hh1 - r1)), (.long q5)])) rfl (by rw [hml]; rfl) (argsL := [(.long q5), (.long (hh1 - r1))]) (rest := []) (lenOf pd2 rfl) rfl (by show 2 * 0 + _ ≤ _; exact Nat.le_of_eq rfl) (hb hby at_39) (fun _ _ => ⟨rfl, q111_hh, (by decide : 0 + 0 ≤ _), (by decide : 0 + 0 ≤ _)⟩)
  dsimp only [Pt.U, Pt.locs, Pt.cells, Pt.slots] at X116 l116 y116 z116 st116 hQ116
  subst l116 y116 z116
  obtain ⟨rfl, N116q, q116_hh⟩ := hQ116
  have N116 := Fr.app N111 N116q
  have p117 : Go p.tables e below _ (T116.setTop (mkF m 42 #[.val (.long q1), .second, .val (.long q2), .second, .val (.long q3), .second, .val (.long q4), .second, .val (.long q5), .second, .val (.long q6), .second, .val (.long mm), .second, .val (.long ss), .second, .val (.long hh1), .second, .val (.long r1), .second, .unset, .unset, .unset, .unset, .unset, .unset, .unset, .unset, .unset, .unset] [(.long (own_up q5 (hh1 - r1)))])) := fun t k => p115 t (st116 _ k)
  have p118 : Go p.tables e below _ (T116.setTop (mkF m 44 #[.val (.long q1), .second, .val (.long q2), .second, .val (.long q3), .second, .val (.long q4), .second, .val (.long q5), .second, .val (.long q6), .second, .val (.long mm), .second, .val (.long ss), .second, .val (.long hh1), .second, .val (.long r1), .second, .val (.long (own_up q5 (hh1 - r1))), .second, .unset, .unset, .unset, .unset, .unset, .unset, .unset, .unset] [])) := fun t k => p117 t (by
    show Steps p.tables e below (T116.setTop (mkF m 42 #[.val (.long q1), .second, .val (.long q2), .second, .val (.long q3), .second, .val (.long q4), .second, .val (.long q5), .second, .val (.long q6), .second, .val (.long mm), .second, .val (.long ss), .second, .val (.long hh1), .second, .val (.long r1), .second, .unset, .unset, .unset, .unset, .unset, .unset, .unset, .unset, .unset, .unset] [(.long (own_up q5 (hh1 - r1)))])) _
    refine XS.lstore X116.here hx rfl (hb hby at_42) rfl (l' := #[.val (.long q1), .second, .val (.long q2), .second, .val (.long q3), .second, .val (.long q4), .second, .val (.long q5), .second, .val (.long q6), .second, .val (.long mm), .second, .val (.long ss), .second, .val (.long hh1), .second, .val (.long r1), .second, .val (.long (own_up q5 (hh1 - r1))), .second, .unset, .unset, .unset, .unset, .unset, .unset, .unset, .unset]) rfl ?_
    show Steps p.tables e below (T116.setTop (mkF m 44 #[.val (.long q1), .second, .val (.long q2), .second, .val (.long q3), .second, .val (.long q4), .second, .val (.long q5), .second, .val (.long q6), .second, .val (.long mm), .second, .val (.long ss), .second, .val (.long hh1), .second, .val (.long r1), .second, .val (.long (own_up q5 (hh1 - r1))), .second, .unset, .unset, .unset, .unset, .unset, .unset, .unset, .unset] [])) _
    exact k)
  obtain ⟨r2, hr2⟩ : ∃ z, z = (own_up q5 (hh1 - r1)) := ⟨_, rfl⟩
  have p119 : Go p.tables e below (s₁.setTop (entryFrame m #[(.long q1), (.long q2), (.long q3), (.long q4), (.long q5), (.long q6)] maxLocals)) (T116.setTop (mkF m 44 #[.val (.long q1), .second, .val (.long q2), .second, .val (.long q3), .second, .val (.long q4), .second, .val (.long q5), .second, .val (.long q6), .second, .val (.long mm), .second, .val (.long ss), .second, .val (.long hh1), .second, .val (.long r1), .second, .val (.long r2), .second, .unset, .unset, .unset, .unset, .unset, .unset, .unset, .unset] [])) := by rw [hr2]; exact p118
  have nr2 : ¬ r2 < (0 : Int64) ∧ ¬ (hh1 - r1) < r2 := by rw [hr2]; exact own_up_le _ _ nd1
  obtain ⟨T120, h120, X120, e120, E120, A120, D120, -, st120⟩ := newO X116 hx hZ hown (own_w hw 5 rfl) (own_w hw 6 rfl) (own_w hw 7 rfl) q116_hh (g := (mkF m 44 #[.val (.long q1), .second, .val (.long q2), .second, .val (.long q3), .second, .val (.long q4), .second, .val (.long q5), .second, .val (.long q6), .second, .val (.long mm), .second, .val (.long ss), .second, .val (.long hh1), .second, .val (.long r1), .second, .val (.long r2), .second, .unset, .unset, .unset, .unset, .unset, .unset, .unset, .unset] [])) rfl (hb hby at_44) (by decide) (by decide)
  obtain ⟨b120, g120⟩ : ∃ z, z = h0.size := ⟨_, rfl⟩
  rw [← g120] at A120 D120 st120
  have ge_b120 : n0 ≤ b120 := Nat.le_trans (Nat.le_trans Z0 (Keep.refl h0 []).1) (Nat.le_of_eq g120.symm)
  have sz_b120 : h0.size ≤ b120 := Nat.le_trans (Keep.refl h0 []).1 (Nat.le_of_eq g120.symm)
  have K121 : Keep h0 h120 [] := (Keep.refl h0 []).ext E120
  have p122 : Go p.tables e below _ (T120.setTop (mkF m 47 #[.val (.long q1), .second, .val (.long q2), .second, .val (.long q3), .second, .val (.long q4), .second, .val (.long q5), .second, .val (.long q6), .second, .val (.long mm), .second, .val (.long ss), .second, .val (.long hh1), .second, .val (.long r1), .second, .val (.long r2), .second, .unset, .unset, .unset, .unset, .unset, .unset, .unset, .unset] [(.ref b120)])) := fun t k => p119 t (st120 t k)
  have F120_maximum : Fld Z h120 b120 "com/example/kuusi/kuusi/core/ElementLimit" "maximum" "J" (.long (0 : Int64)) := D120 (Or.inr (own_w hw 15 rfl)) (ty := .long) (by decide)
  have F120_steps : Fld Z h120 b120 "com/example/kuusi/kuusi/core/ElementLimit" "steps" "J" (.long (0 : Int64)) := D120 (Or.inr (own_w hw 17 rfl)) (ty := .long) (by decide)
  have F120_whole : Fld Z h120 b120 "com/example/kuusi/kuusi/core/ElementLimit" "whole" "Lcom/example/kuusi/kuusi/core/ElementLimit;" .null := D120 (Or.inr (own_w hw 19 rfl)) (ty := (.object "com/example/kuusi/kuusi/core/ElementLimit")) (by decide)
  have F120_sharing : Fld Z h120 b120 "com/example/kuusi/kuusi/core/ElementLimit" "sharing" "Lcom/example/kuusi/kuusi/core/ElementLimit$Sharing;" .null := D120 (Or.inr (own_w hw 21 rfl)) (ty := (.object "com/example/kuusi/kuusi/core/ElementLimit$Sharing")) (by decide)
  have F120_held : Fld Z h120 b120 "com/example/kuusi/kuusi/core/ElementLimit" "held" "J" (.long (0 : Int64)) := D120 (Or.inl (own_w hw 37 rfl)) (ty := .long) (by decide)
  have F120_spent : Fld Z h120 b120 "com/example/kuusi/kuusi/core/ElementLimit" "spent" "J" (.long (0 : Int64)) := D120 (Or.inl (own_w hw 53 rfl)) (ty := .long) (by decide)
  have p123 : Go p.tables e below _ (T120.setTop (mkF m 52 #[.val (.long q1), .second, .val (.long q2), .second, .val (.long q3), .second, .val (.long q4), .second, .val (.long q5), .second, .val (.long q6), .second, .val (.long mm), .second, .val (.long ss), .second, .val (.long hh1), .second, .val (.long r1), .second, .val (.long r2), .second, .unset, .unset, .unset, .unset, .unset, .unset, .unset, .unset] [(.long ss), (.long mm), (.ref b120), (.ref b120)])) := fun t k => p122 t (by
    show Steps p.tables e below (T120.setTop (mkF m 47 #[.val (.long q1), .second, .val (.long q2), .second, .val (.long q3), .second, .val (.long q4), .second, .val (.long q5), .second, .val (.long q6), .second, .val (.long mm), .second, .val (.long ss), .second, .val (.long hh1), .second, .val (.long r1), .second, .val (.long r2), .second, .unset, .unset, .unset, .unset, .unset, .unset, .unset, .unset] [(.ref b120)])) _
    refine XS.dup X120.here hx rfl (hb hby at_47) rfl rfl ?_
    show Steps p.tables e below (T120.setTop (mkF m 48 #[.val (.long q1), .second, .val (.long q2), .second, .val (.long q3), .second, .val (.long q4), .second, .val (.long q5), .second, .val (.long q6), .second, .val (.long mm), .second, .val (.long ss), .second, .val (.long hh1), .second, .val (.long r1), .second, .val (.long r2), .second, .unset, .unset, .unset, .unset, .unset, .unset, .unset, .unset] [(.ref b120), (.ref b120)])) _
    refine XS.lload X120.here hx rfl (hb hby at_48) rfl ?_
    show Steps p.tables e below (T120.setTop (mkF m 50 #[.val (.long q1), .second, .val (.long q2), .second, .val (.long q3), .second, .val (.long q4), .second, .val (.long q5), .second, .val (.long q6), .second, .val (.long mm), .second, .val (.long ss), .second, .val (.long hh1), .second, .val (.long r1), .second, .val (.long r2), .second, .unset, .unset, .unset, .unset, .unset, .unset, .unset, .unset] [(.long mm), (.ref b120), (.ref b120)])) _
    refine XS.lload X120.here hx rfl (hb hby at_50) rfl ?_
    show Steps p.tables e below (T120.setTop (mkF m 52 #[.val (.long q1), .second, .val (.long q2), .second, .val (.long q3), .second, .val (.long q4), .second, .val (.long q5), .second, .val (.long q6), .second, .val (.long mm), .second, .val (.long ss), .second, .val (.long hh1), .second, .val (.long r1), .second, .val (.long r2), .second, .unset, .unset, .unset, .unset, .unset, .unset, .unset, .unset] [(.long ss), (.long mm), (.ref b120), (.ref b120)])) _
    exact k)
  obtain ⟨_, _, ⟨T124, L124, k124, n124⟩, -, X124, ⟨Lc124, hQ124, l124, y124, z124⟩, st124⟩ := X120.specialBack hx (y := (⟨"com/example/kuusi/kuusi/core/ElementLimit", "<init>", "(JJ)V"⟩ : MethodName)) rfl hown (mvT hZ (own_w hw 8 rfl)) (mvT hZ (own_w hw 9 rfl)) (mvT hZ (own_w hw 10 rfl)) (by decide) (backOf (W := 1) (rm2 l Z a0 hw [] b120 mm ss h120 n0 (Nat.le_trans Z0 K121.1) F120_maximum F120_steps F120_held F120_spent F120_whole F120_sharing A120 ge_b120 nm ns) hZ (own_w hw 10 rfl) (own_w hw 7 rfl) (by decide) (by decide)) (g := (mkF m 52 #[.val (.long q1), .second, .val (.long q2), .second, .val (.long q3), .second, .val (.long q4), .second, .val (.long q5), .second, .val (.long q6), .second, .val (.long mm), .second, .val (.long ss), .second, .val (.long hh1), .second, .val (.long r1), .second, .val (.long r2), .second, .unset, .unset, .unset, .unset, .unset, .unset, .unset, .unset] [(.long ss), (.long mm), (.ref b120), (.ref b120)])) rfl (by rw [hml]; rfl) (Steps.refl _) (a := b120) (argsL := [(.long mm), (.long ss)]) (rest := [(.ref b120)]) (lenOf pd3 rfl) rfl (by show 2 * 0 + _ ≤ _; exact Nat.le_of_eq rfl) (hb hby at_52) (fun _ _ => ⟨rfl, e120, (by decide : 1 + 0 ≤ _), (by decide : 6 + 0 ≤ _)⟩)
  dsimp only [Pt.U, Pt.locs, Pt.cells, Pt.slots] at X124 l124 y124 z124 st124 hQ124
  subst l124 y124 z124
  obtain ⟨rfl, N124q, q124_K, q124_F0, q124_F1, q124_F2, q124_F3, q124_F4, q124_F5, q124_E1⟩ := hQ124
  have N124 := Fr.app N116 N124q
  have K125 : Keep h0 T124.heap [] := K121.trans q124_K (allS (Or.inr sz_b120) all0)
  have p126 : Go p.tables e below _ (T124.setTop (mkF m 55 #[.val (.long q1), .second, .val (.long q2), .second, .val (.long q3), .second, .val (.long q4), .second, .val (.long q5), .second, .val (.long q6), .second, .val (.long mm), .second, .val (.long ss), .second, .val (.long hh1), .second, .val (.long r1), .second, .val (.long r2), .second, .unset, .unset, .unset, .unset, .unset, .unset, .unset, .unset] [(.ref b120)])) := fun t k => p123 t (st124.trans k)
  have p127 : Go p.tables e below _ (T124.setTop (mkF m 61 #[.val (.long q1), .second, .val (.long q2), .second, .val (.long q3), .second, .val (.long q4), .second, .val (.long q5), .second, .val (.long q6), .second, .val (.long mm), .second, .val (.long ss), .second, .val (.long hh1), .second, .val (.long r1), .second, .val (.long r2), .second, .val (.ref b120), .unset, .unset, .unset, .unset, .unset, .unset, .unset] [(.long hh1), (.ref b120)])) := fun t k => p126 t (by
    show Steps p.tables e below (T124.setTop (mkF m 55 #[.val (.long q1), .second, .val (.long q2), .second, .val (.long q3), .second, .val (.long q4), .second, .val (.long q5), .second, .val (.long q6), .second, .val (.long mm), .second, .val (.long ss), .second, .val (.long hh1), .second, .val (.long r1), .second, .val (.long r2), .second, .unset, .unset, .unset, .unset, .unset, .unset, .unset, .unset] [(.ref b120)])) _
    refine XS.astore X124.here hx rfl (hb hby at_55) rfl rfl (l' := #[.val (.long q1), .second, .val (.long q2), .second, .val (.long q3), .second, .val (.long q4), .second, .val (.long q5), .second, .val (.long q6), .second, .val (.long mm), .second, .val (.long ss), .second, .val (.long hh1), .second, .val (.long r1), .second, .val (.long r2), .second, .val (.ref b120), .unset, .unset, .unset, .unset, .unset, .unset, .unset]) rfl ?_
    show Steps p.tables e below (T124.setTop (mkF m 57 #[.val (.long q1), .second, .val (.long q2), .second, .val (.long q3), .second, .val (.long q4), .second, .val (.long q5), .second, .val (.long q6), .second, .val (.long mm), .second, .val (.long ss), .second, .val (.long hh1), .second, .val (.long r1), .second, .val (.long r2), .second, .val (.ref b120), .unset, .unset, .unset, .unset, .unset, .unset, .unset] [])) _
    refine XS.aload X124.here hx rfl (hb hby at_57) rfl rfl ?_
    show Steps p.tables e below (T124.setTop (mkF m 59 #[.val (.long q1), .second, .val (.long q2), .second, .val (.long q3), .second, .val (.long q4), .second, .val (.long q5), .second, .val (.long q6), .second, .val (.long mm), .second, .val (.long ss), .second, .val (.long hh1), .second, .val (.long r1), .second, .val (.long r2), .second, .val (.ref b120), .unset, .unset, .unset, .unset, .unset, .unset, .unset] [(.ref b120)])) _
    refine XS.lload X124.here hx rfl (hb hby at_59) rfl ?_
    show Steps p.tables e below (T124.setTop (mkF m 61 #[.val (.long q1), .second, .val (.long q2), .second, .val (.long q3), .second, .val (.long q4), .second, .val (.long q5), .second, .val (.long q6), .second, .val (.long mm), .second, .val (.long ss), .second, .val (.long hh1), .second, .val (.long r1), .second, .val (.long r2), .second, .val (.ref b120), .unset, .unset, .unset, .unset, .unset, .unset, .unset] [(.long hh1), (.ref b120)])) _
    exact k)
  obtain ⟨cq128, kq128, q128a, q128b, q128c⟩ := isOf hZ rfl q124_E1
  obtain ⟨_, _, ⟨T128, L128, k128, n128⟩, -, X128, ⟨Lc128, hQ128, l128, y128, z128⟩, st128⟩ := X124.virtualBack hx (y := (⟨"com/example/kuusi/kuusi/core/ElementLimit", "hold", "(J)V"⟩ : MethodName)) (z := (⟨"com/example/kuusi/kuusi/core/ElementLimit", "hold", "(J)V"⟩ : MethodName)) hown (mvT hZ (own_w hw 22 rfl)) (mvT hZ (own_w hw 23 rfl)) (notFace_of_selects (args := #[]) (mvT hZ (own_w hw 25 rfl))) (mvT hZ (own_w hw 25 rfl)) (mvT hZ (own_w hw 24 rfl)) (by decide) (backOf (W := 0) (rm4 l Z a0 hw [] b120 hh1 mm ss T124.heap n0 (Nat.le_trans Z0 K125.1) q124_F0 q124_F1 q124_F2 q124_F3 q124_F4 q124_F5 q124_E1 ge_b120 (by simpa using nh.2)) hZ (own_w hw 26 rfl) (own_w hw 7 rfl) (by decide) (by decide)) q128a q128c (g := (mkF m 61 #[.val (.long q1), .second, .val (.long q2), .second, .val (.long q3), .second, .val (.long q4), .second, .val (.long q5), .second, .val (.long q6), .second, .val (.long mm), .second, .val (.long ss), .second, .val (.long hh1), .second, .val (.long r1), .second, .val (.long r2), .second, .val (.ref b120), .unset, .unset, .unset, .unset, .unset, .unset, .unset] [(.long hh1), (.ref b120)])) rfl (by rw [hml]; rfl) (Steps.refl _) (argsL := [(.long hh1)]) (rest := []) (lenOf pd1 rfl) rfl (by show 2 * 0 + _ ≤ _; exact Nat.le_of_eq rfl) (hb hby at_61) (fun _ _ => ⟨rfl, rfl, (by decide : 1 + 0 ≤ _), (by decide : 6 + 0 ≤ _)⟩)
  dsimp only [Pt.U, Pt.locs, Pt.cells, Pt.slots] at X128 l128 y128 z128 st128 hQ128
  subst l128 y128 z128
  obtain ⟨rfl, N128q, q128_K, q128_F0, q128_F1, q128_F2, q128_F3, q128_F4, q128_F5, q128_E1⟩ := hQ128
  have N128 := Fr.app N124 N128q
  have K129 : Keep h0 T128.heap [] := K125.trans q128_K (allS (Or.inr sz_b120) all0)
  have p130 : Go p.tables e below _ (T128.setTop (mkF m 64 #[.val (.long q1), .second, .val (.long q2), .second, .val (.long q3), .second, .val (.long q4), .second, .val (.long q5), .second, .val (.long q6), .second, .val (.long mm), .second, .val (.long ss), .second, .val (.long hh1), .second, .val (.long r1), .second, .val (.long r2), .second, .val (.ref b120), .unset, .unset, .unset, .unset, .unset, .unset, .unset] [])) := fun t k => p127 t (st128.trans k)
  have p131 : Go p.tables e below _ (T128.setTop (mkF m 68 #[.val (.long q1), .second, .val (.long q2), .second, .val (.long q3), .second, .val (.long q4), .second, .val (.long q5), .second, .val (.long q6), .second, .val (.long mm), .second, .val (.long ss), .second, .val (.long hh1), .second, .val (.long r1), .second, .val (.long r2), .second, .val (.ref b120), .unset, .unset, .unset, .unset, .unset, .unset, .unset] [(.long r1), (.ref b120)])) := fun t k => p130 t (by
    show Steps p.tables e below (T128.setTop (mkF m 64 #[.val (.long q1), .second, .val (.long q2), .second, .val (.long q3), .second, .val (.long q4), .second, .val (.long q5), .second, .val (.long q6), .second, .val (.long mm), .second, .val (.long ss), .second, .val (.long hh1), .second, .val (.long r1), .second, .val (.long r2), .second, .val (.ref b120), .unset, .unset, .unset, .unset, .unset, .unset, .unset] [])) _
    refine XS.aload X128.here hx rfl (hb hby at_64) rfl rfl ?_
    show Steps p.tables e below (T128.setTop (mkF m 66 #[.val (.long q1), .second, .val (.long q2), .second, .val (.long q3), .second, .val (.long q4), .second, .val (.long q5), .second, .val (.long q6), .second, .val (.long mm), .second, .val (.long ss), .second, .val (.long hh1), .second, .val (.long r1), .second, .val (.long r2), .second, .val (.ref b120), .unset, .unset, .unset, .unset, .unset, .unset, .unset] [(.ref b120)])) _
    refine XS.lload X128.here hx rfl (hb hby at_66) rfl ?_
    show Steps p.tables e below (T128.setTop (mkF m 68 #[.val (.long q1), .second, .val (.long q2), .second, .val (.long q3), .second, .val (.long q4), .second, .val (.long q5), .second, .val (.long q6), .second, .val (.long mm), .second, .val (.long ss), .second, .val (.long hh1), .second, .val (.long r1), .second, .val (.long r2), .second, .val (.ref b120), .unset, .unset, .unset, .unset, .unset, .unset, .unset] [(.long r1), (.ref b120)])) _
    exact k)
  obtain ⟨cq132, kq132, q132a, q132b, q132c⟩ := isOf hZ rfl q128_E1
  obtain ⟨_, _, ⟨T132, L132, k132, n132⟩, -, X132, ⟨Lc132, hQ132, l132, y132, z132⟩, st132⟩ := X128.virtualBack hx (y := (⟨"com/example/kuusi/kuusi/core/ElementLimit", "release", "(J)V"⟩ : MethodName)) (z := (⟨"com/example/kuusi/kuusi/core/ElementLimit", "release", "(J)V"⟩ : MethodName)) hown (mvT hZ (own_w hw 38 rfl)) (mvT hZ (own_w hw 39 rfl)) (notFace_of_selects (args := #[]) (mvT hZ (own_w hw 41 rfl))) (mvT hZ (own_w hw 41 rfl)) (mvT hZ (own_w hw 40 rfl)) (by decide) (backOf (W := 0) (rm7 l Z a0 hw [] b120 r1 mm ss hh1 T128.heap n0 (Nat.le_trans Z0 K129.1) q128_F0 q128_F1 q128_F2 q128_F3 q128_F4 q128_F5 q128_E1 ge_b120 nr1.2) hZ (own_w hw 42 rfl) (own_w hw 7 rfl) (by decide) (by decide)) q132a q132c (g := (mkF m 68 #[.val (.long q1), .second, .val (.long q2), .second, .val (.long q3), .second, .val (.long q4), .second, .val (.long q5), .second, .val (.long q6), .second, .val (.long mm), .second, .val (.long ss), .second, .val (.long hh1), .second, .val (.long r1), .second, .val (.long r2), .second, .val (.ref b120), .unset, .unset, .unset, .unset, .unset, .unset, .unset] [(.long r1), (.ref b120)])) rfl (by rw [hml]; rfl) (Steps.refl _) (argsL := [(.long r1)]) (rest := []) (lenOf pd1 rfl) rfl (by show 2 * 0 + _ ≤ _; exact Nat.le_of_eq rfl) (hb hby at_68) (fun _ _ => ⟨rfl, rfl, (by decide : 1 + 0 ≤ _), (by decide : 6 + 0 ≤ _)⟩)
  dsimp only [Pt.U, Pt.locs, Pt.cells, Pt.slots] at X132 l132 y132 z132 st132 hQ132
  subst l132 y132 z132
  obtain ⟨rfl, N132q, q132_K, q132_F0, q132_F1, q132_F2, q132_F3, q132_F4, q132_F5, q132_E1⟩ := hQ132
  have N132 := Fr.app N128 N132q
  have K133 : Keep h0 T132.heap [] := K129.trans q132_K (allS (Or.inr sz_b120) all0)
  have p134 : Go p.tables e below _ (T132.setTop (mkF m 71 #[.val (.long q1), .second, .val (.long q2), .second, .val (.long q3), .second, .val (.long q4), .second, .val (.long q5), .second, .val (.long q6), .second, .val (.long mm), .second, .val (.long ss), .second, .val (.long hh1), .second, .val (.long r1), .second, .val (.long r2), .second, .val (.ref b120), .unset, .unset, .unset, .unset, .unset, .unset, .unset] [])) := fun t k => p131 t (st132.trans k)
  have p135 : Go p.tables e below _ (T132.setTop (mkF m 75 #[.val (.long q1), .second, .val (.long q2), .second, .val (.long q3), .second, .val (.long q4), .second, .val (.long q5), .second, .val (.long q6), .second, .val (.long mm), .second, .val (.long ss), .second, .val (.long hh1), .second, .val (.long r1), .second, .val (.long r2), .second, .val (.ref b120), .unset, .unset, .unset, .unset, .unset, .unset, .unset] [(.long r2), (.ref b120)])) := fun t k => p134 t (by
    show Steps p.tables e below (T132.setTop (mkF m 71 #[.val (.long q1), .second, .val (.long q2), .second, .val (.long q3), .second, .val (.long q4), .second, .val (.long q5), .second, .val (.long q6), .second, .val (.long mm), .second, .val (.long ss), .second, .val (.long hh1), .second, .val (.long r1), .second, .val (.long r2), .second, .val (.ref b120), .unset, .unset, .unset, .unset, .unset, .unset, .unset] [])) _
    refine XS.aload X132.here hx rfl (hb hby at_71) rfl rfl ?_
    show Steps p.tables e below (T132.setTop (mkF m 73 #[.val (.long q1), .second, .val (.long q2), .second, .val (.long q3), .second, .val (.long q4), .second, .val (.long q5), .second, .val (.long q6), .second, .val (.long mm), .second, .val (.long ss), .second, .val (.long hh1), .second, .val (.long r1), .second, .val (.long r2), .second, .val (.ref b120), .unset, .unset, .unset, .unset, .unset, .unset, .unset] [(.ref b120)])) _
    refine XS.lload X132.here hx rfl (hb hby at_73) rfl ?_
    show Steps p.tables e below (T132.setTop (mkF m 75 #[.val (.long q1), .second, .val (.long q2), .second, .val (.long q3), .second, .val (.long q4), .second, .val (.long q5), .second, .val (.long q6), .second, .val (.long mm), .second, .val (.long ss), .second, .val (.long hh1), .second, .val (.long r1), .second, .val (.long r2), .second, .val (.ref b120), .unset, .unset, .unset, .unset, .unset, .unset, .unset] [(.long r2), (.ref b120)])) _
    exact k)
  obtain ⟨cq136, kq136, q136a, q136b, q136c⟩ := isOf hZ rfl q132_E1
  obtain ⟨_, _, ⟨T136, L136, k136, n136⟩, -, X136, ⟨Lc136, hQ136, l136, y136, z136⟩, st136⟩ := X132.virtualBack hx (y := (⟨"com/example/kuusi/kuusi/core/ElementLimit", "release", "(J)V"⟩ : MethodName)) (z := (⟨"com/example/kuusi/kuusi/core/ElementLimit", "release", "(J)V"⟩ : MethodName)) hown (mvT hZ (own_w hw 38 rfl)) (mvT hZ (own_w hw 39 rfl)) (notFace_of_selects (args := #[]) (mvT hZ (own_w hw 41 rfl))) (mvT hZ (own_w hw 41 rfl)) (mvT hZ (own_w hw 40 rfl)) (by decide) (backOf (W := 0) (rm7 l Z a0 hw [] b120 r2 mm ss (hh1 - r1) T132.heap n0 (Nat.le_trans Z0 K133.1) q132_F0 q132_F1 q132_F2 q132_F3 q132_F4 q132_F5 q132_E1 ge_b120 nr2.2) hZ (own_w hw 42 rfl) (own_w hw 7 rfl) (by decide) (by decide)) q136a q136c (g := (mkF m 75 #[.val (.long q1), .second, .val (.long q2), .second, .val (.long q3), .second, .val (.long q4), .second, .val (.long q5), .second, .val (.long q6), .second, .val (.long mm), .second, .val (.long ss), .second, .val (.long hh1), .second, .val (.long r1), .second, .val (.long r2), .second, .val (.ref b120), .unset, .unset, .unset, .unset, .unset, .unset, .unset] [(.long r2), (.ref b120)])) rfl (by rw [hml]; rfl) (Steps.refl _) (argsL := [(.long r2)]) (rest := []) (lenOf pd1 rfl) rfl (by show 2 * 0 + _ ≤ _; exact Nat.le_of_eq rfl) (hb hby at_75) (fun _ _ => ⟨rfl, rfl, (by decide : 1 + 0 ≤ _), (by decide : 6 + 0 ≤ _)⟩)
  dsimp only [Pt.U, Pt.locs, Pt.cells, Pt.slots] at X136 l136 y136 z136 st136 hQ136
  subst l136 y136 z136
  obtain ⟨rfl, N136q, q136_K, q136_F0, q136_F1, q136_F2, q136_F3, q136_F4, q136_F5, q136_E1⟩ := hQ136
  have N136 := Fr.app N132 N136q
  have K137 : Keep h0 T136.heap [] := K133.trans q136_K (allS (Or.inr sz_b120) all0)
  have p138 : Go p.tables e below _ (T136.setTop (mkF m 78 #[.val (.long q1), .second, .val (.long q2), .second, .val (.long q3), .second, .val (.long q4), .second, .val (.long q5), .second, .val (.long q6), .second, .val (.long mm), .second, .val (.long ss), .second, .val (.long hh1), .second, .val (.long r1), .second, .val (.long r2), .second, .val (.ref b120), .unset, .unset, .unset, .unset, .unset, .unset, .unset] [])) := fun t k => p135 t (st136.trans k)
  have p139 : Go p.tables e below _ (T136.setTop (mkF m 95 #[.val (.long q1), .second, .val (.long q2), .second, .val (.long q3), .second, .val (.long q4), .second, .val (.long q5), .second, .val (.long q6), .second, .val (.long mm), .second, .val (.long ss), .second, .val (.long hh1), .second, .val (.long r1), .second, .val (.long r2), .second, .val (.ref b120), .val (.long ((hh1 - r1) - r2)), .second, .val (.long (mm - ((hh1 - r1) - r2))), .second, .unset, .unset, .unset] [])) := fun t k => p138 t (by
    show Steps p.tables e below (T136.setTop (mkF m 78 #[.val (.long q1), .second, .val (.long q2), .second, .val (.long q3), .second, .val (.long q4), .second, .val (.long q5), .second, .val (.long q6), .second, .val (.long mm), .second, .val (.long ss), .second, .val (.long hh1), .second, .val (.long r1), .second, .val (.long r2), .second, .val (.ref b120), .unset, .unset, .unset, .unset, .unset, .unset, .unset] [])) _
    refine XS.lload X136.here hx rfl (hb hby at_78) rfl ?_
    show Steps p.tables e below (T136.setTop (mkF m 80 #[.val (.long q1), .second, .val (.long q2), .second, .val (.long q3), .second, .val (.long q4), .second, .val (.long q5), .second, .val (.long q6), .second, .val (.long mm), .second, .val (.long ss), .second, .val (.long hh1), .second, .val (.long r1), .second, .val (.long r2), .second, .val (.ref b120), .unset, .unset, .unset, .unset, .unset, .unset, .unset] [(.long hh1)])) _
    refine XS.lload X136.here hx rfl (hb hby at_80) rfl ?_
    show Steps p.tables e below (T136.setTop (mkF m 82 #[.val (.long q1), .second, .val (.long q2), .second, .val (.long q3), .second, .val (.long q4), .second, .val (.long q5), .second, .val (.long q6), .second, .val (.long mm), .second, .val (.long ss), .second, .val (.long hh1), .second, .val (.long r1), .second, .val (.long r2), .second, .val (.ref b120), .unset, .unset, .unset, .unset, .unset, .unset, .unset] [(.long r1), (.long hh1)])) _
    refine XS.lsub X136.here hx rfl (hb hby at_82) rfl ?_
    show Steps p.tables e below (T136.setTop (mkF m 83 #[.val (.long q1), .second, .val (.long q2), .second, .val (.long q3), .second, .val (.long q4), .second, .val (.long q5), .second, .val (.long q6), .second, .val (.long mm), .second, .val (.long ss), .second, .val (.long hh1), .second, .val (.long r1), .second, .val (.long r2), .second, .val (.ref b120), .unset, .unset, .unset, .unset, .unset, .unset, .unset] [(.long (hh1 - r1))])) _
    refine XS.lload X136.here hx rfl (hb hby at_83) rfl ?_
    show Steps p.tables e below (T136.setTop (mkF m 85 #[.val (.long q1), .second, .val (.long q2), .second, .val (.long q3), .second, .val (.long q4), .second, .val (.long q5), .second, .val (.long q6), .second, .val (.long mm), .second, .val (.long ss), .second, .val (.long hh1), .second, .val (.long r1), .second, .val (.long r2), .second, .val (.ref b120), .unset, .unset, .unset, .unset, .unset, .unset, .unset] [(.long r2), (.long (hh1 - r1))])) _
    refine XS.lsub X136.here hx rfl (hb hby at_85) rfl ?_
    show Steps p.tables e below (T136.setTop (mkF m 86 #[.val (.long q1), .second, .val (.long q2), .second, .val (.long q3), .second, .val (.long q4), .second, .val (.long q5), .second, .val (.long q6), .second, .val (.long mm), .second, .val (.long ss), .second, .val (.long hh1), .second, .val (.long r1), .second, .val (.long r2), .second, .val (.ref b120), .unset, .unset, .unset, .unset, .unset, .unset, .unset] [(.long ((hh1 - r1) - r2))])) _
    refine XS.lstore X136.here hx rfl (hb hby at_86) rfl (l' := #[.val (.long q1), .second, .val (.long q2), .second, .val (.long q3), .second, .val (.long q4), .second, .val (.long q5), .second, .val (.long q6), .second, .val (.long mm), .second, .val (.long ss), .second, .val (.long hh1), .second, .val (.long r1), .second, .val (.long r2), .second, .val (.ref b120), .val (.long ((hh1 - r1) - r2)), .second, .unset, .unset, .unset, .unset, .unset]) rfl ?_
    show Steps p.tables e below (T136.setTop (mkF m 88 #[.val (.long q1), .second, .val (.long q2), .second, .val (.long q3), .second, .val (.long q4), .second, .val (.long q5), .second, .val (.long q6), .second, .val (.long mm), .second, .val (.long ss), .second, .val (.long hh1), .second, .val (.long r1), .second, .val (.long r2), .second, .val (.ref b120), .val (.long ((hh1 - r1) - r2)), .second, .unset, .unset, .unset, .unset, .unset] [])) _
    refine XS.lload X136.here hx rfl (hb hby at_88) rfl ?_
    show Steps p.tables e below (T136.setTop (mkF m 90 #[.val (.long q1), .second, .val (.long q2), .second, .val (.long q3), .second, .val (.long q4), .second, .val (.long q5), .second, .val (.long q6), .second, .val (.long mm), .second, .val (.long ss), .second, .val (.long hh1), .second, .val (.long r1), .second, .val (.long r2), .second, .val (.ref b120), .val (.long ((hh1 - r1) - r2)), .second, .unset, .unset, .unset, .unset, .unset] [(.long mm)])) _
    refine XS.lload X136.here hx rfl (hb hby at_90) rfl ?_
    show Steps p.tables e below (T136.setTop (mkF m 92 #[.val (.long q1), .second, .val (.long q2), .second, .val (.long q3), .second, .val (.long q4), .second, .val (.long q5), .second, .val (.long q6), .second, .val (.long mm), .second, .val (.long ss), .second, .val (.long hh1), .second, .val (.long r1), .second, .val (.long r2), .second, .val (.ref b120), .val (.long ((hh1 - r1) - r2)), .second, .unset, .unset, .unset, .unset, .unset] [(.long ((hh1 - r1) - r2)), (.long mm)])) _
    refine XS.lsub X136.here hx rfl (hb hby at_92) rfl ?_
    show Steps p.tables e below (T136.setTop (mkF m 93 #[.val (.long q1), .second, .val (.long q2), .second, .val (.long q3), .second, .val (.long q4), .second, .val (.long q5), .second, .val (.long q6), .second, .val (.long mm), .second, .val (.long ss), .second, .val (.long hh1), .second, .val (.long r1), .second, .val (.long r2), .second, .val (.ref b120), .val (.long ((hh1 - r1) - r2)), .second, .unset, .unset, .unset, .unset, .unset] [(.long (mm - ((hh1 - r1) - r2)))])) _
    refine XS.lstore X136.here hx rfl (hb hby at_93) rfl (l' := #[.val (.long q1), .second, .val (.long q2), .second, .val (.long q3), .second, .val (.long q4), .second, .val (.long q5), .second, .val (.long q6), .second, .val (.long mm), .second, .val (.long ss), .second, .val (.long hh1), .second, .val (.long r1), .second, .val (.long r2), .second, .val (.ref b120), .val (.long ((hh1 - r1) - r2)), .second, .val (.long (mm - ((hh1 - r1) - r2))), .second, .unset, .unset, .unset]) rfl ?_
    show Steps p.tables e below (T136.setTop (mkF m 95 #[.val (.long q1), .second, .val (.long q2), .second, .val (.long q3), .second, .val (.long q4), .second, .val (.long q5), .second, .val (.long q6), .second, .val (.long mm), .second, .val (.long ss), .second, .val (.long hh1), .second, .val (.long r1), .second, .val (.long r2), .second, .val (.ref b120), .val (.long ((hh1 - r1) - r2)), .second, .val (.long (mm - ((hh1 - r1) - r2))), .second, .unset, .unset, .unset] [])) _
    exact k)
  obtain ⟨rm, hrm⟩ : ∃ z, z = (mm - ((hh1 - r1) - r2)) := ⟨_, rfl⟩
  have p140 : Go p.tables e below (s₁.setTop (entryFrame m #[(.long q1), (.long q2), (.long q3), (.long q4), (.long q5), (.long q6)] maxLocals)) (T136.setTop (mkF m 95 #[.val (.long q1), .second, .val (.long q2), .second, .val (.long q3), .second, .val (.long q4), .second, .val (.long q5), .second, .val (.long q6), .second, .val (.long mm), .second, .val (.long ss), .second, .val (.long hh1), .second, .val (.long r1), .second, .val (.long r2), .second, .val (.ref b120), .val (.long ((hh1 - r1) - r2)), .second, .val (.long rm), .second, .unset, .unset, .unset] [])) := by rw [hrm]; exact p139
  have p141 : Go p.tables e below _ (T136.setTop (mkF m 100 #[.val (.long q1), .second, .val (.long q2), .second, .val (.long q3), .second, .val (.long q4), .second, .val (.long q5), .second, .val (.long q6), .second, .val (.long mm), .second, .val (.long ss), .second, .val (.long hh1), .second, .val (.long r1), .second, .val (.long r2), .second, .val (.ref b120), .val (.long ((hh1 - r1) - r2)), .second, .val (.long rm), .second, .unset, .unset, .unset] [(.long rm), (.long (0 : Int64)), (.ref b120)])) := fun t k => p140 t (by
    show Steps p.tables e below (T136.setTop (mkF m 95 #[.val (.long q1), .second, .val (.long q2), .second, .val (.long q3), .second, .val (.long q4), .second, .val (.long q5), .second, .val (.long q6), .second, .val (.long mm), .second, .val (.long ss), .second, .val (.long hh1), .second, .val (.long r1), .second, .val (.long r2), .second, .val (.ref b120), .val (.long ((hh1 - r1) - r2)), .second, .val (.long rm), .second, .unset, .unset, .unset] [])) _
    refine XS.aload X136.here hx rfl (hb hby at_95) rfl rfl ?_
    show Steps p.tables e below (T136.setTop (mkF m 97 #[.val (.long q1), .second, .val (.long q2), .second, .val (.long q3), .second, .val (.long q4), .second, .val (.long q5), .second, .val (.long q6), .second, .val (.long mm), .second, .val (.long ss), .second, .val (.long hh1), .second, .val (.long r1), .second, .val (.long r2), .second, .val (.ref b120), .val (.long ((hh1 - r1) - r2)), .second, .val (.long rm), .second, .unset, .unset, .unset] [(.ref b120)])) _
    refine XS.lconst X136.here hx rfl (hb hby at_97) ?_
    show Steps p.tables e below (T136.setTop (mkF m 98 #[.val (.long q1), .second, .val (.long q2), .second, .val (.long q3), .second, .val (.long q4), .second, .val (.long q5), .second, .val (.long q6), .second, .val (.long mm), .second, .val (.long ss), .second, .val (.long hh1), .second, .val (.long r1), .second, .val (.long r2), .second, .val (.ref b120), .val (.long ((hh1 - r1) - r2)), .second, .val (.long rm), .second, .unset, .unset, .unset] [(.long (0 : Int64)), (.ref b120)])) _
    refine XS.lload X136.here hx rfl (hb hby at_98) rfl ?_
    show Steps p.tables e below (T136.setTop (mkF m 100 #[.val (.long q1), .second, .val (.long q2), .second, .val (.long q3), .second, .val (.long q4), .second, .val (.long q5), .second, .val (.long q6), .second, .val (.long mm), .second, .val (.long ss), .second, .val (.long hh1), .second, .val (.long r1), .second, .val (.long r2), .second, .val (.ref b120), .val (.long ((hh1 - r1) - r2)), .second, .val (.long rm), .second, .unset, .unset, .unset] [(.long rm), (.long (0 : Int64)), (.ref b120)])) _
    exact k)
  obtain ⟨cq142, kq142, q142a, q142b, q142c⟩ := isOf hZ rfl q136_E1
  obtain ⟨_, _, ⟨T142, L142, k142, n142⟩, -, X142, ⟨Lc142, hQ142, l142, y142, z142⟩, st142⟩ := X136.virtualBack hx (y := (⟨"com/example/kuusi/kuusi/core/ElementLimit", "recount", "(JJ)Z"⟩ : MethodName)) (z := (⟨"com/example/kuusi/kuusi/core/ElementLimit", "recount", "(JJ)Z"⟩ : MethodName)) hown (mvT hZ (own_w hw 43 rfl)) (mvT hZ (own_w hw 44 rfl)) (notFace_of_selects (args := #[]) (mvT hZ (own_w hw 46 rfl))) (mvT hZ (own_w hw 46 rfl)) (mvT hZ (own_w hw 45 rfl)) (by decide) (backOf (W := 0) (rm8 l Z a0 hw [] b120 rm mm ss ((hh1 - r1) - r2) T136.heap n0 (Nat.le_trans Z0 K137.1) q136_F0 q136_F1 q136_F2 q136_F3 q136_F4 q136_F5 q136_E1 ge_b120 (by simpa using ns)) hZ (own_w hw 47 rfl) (own_w hw 7 rfl) (by decide) (by decide)) q142a q142c (g := (mkF m 100 #[.val (.long q1), .second, .val (.long q2), .second, .val (.long q3), .second, .val (.long q4), .second, .val (.long q5), .second, .val (.long q6), .second, .val (.long mm), .second, .val (.long ss), .second, .val (.long hh1), .second, .val (.long r1), .second, .val (.long r2), .second, .val (.ref b120), .val (.long ((hh1 - r1) - r2)), .second, .val (.long rm), .second, .unset, .unset, .unset] [(.long rm), (.long (0 : Int64)), (.ref b120)])) rfl (by rw [hml]; rfl) (Steps.refl _) (argsL := [(.long (0 : Int64)), (.long rm)]) (rest := []) (lenOf pd4 rfl) rfl (by show 2 * 0 + _ ≤ _; exact Nat.le_of_eq rfl) (hb hby at_100) (fun _ _ => ⟨rfl, rfl, (by decide : 1 + 0 ≤ _), (by decide : 6 + 0 ≤ _)⟩)
  dsimp only [Pt.U, Pt.locs, Pt.cells, Pt.slots] at X142 l142 y142 z142 st142 hQ142
  subst l142 y142 z142
  obtain ⟨rfl, N142q, q142_K, q142_F0, q142_F1, q142_F2, q142_F3, q142_F4, q142_F5, q142_E1⟩ := hQ142
  have N142 := Fr.app N136 N142q
  have K143 : Keep h0 T142.heap [] := K137.trans q142_K (allS (Or.inr sz_b120) all0)
  have p144 : Go p.tables e below _ (T142.setTop (mkF m 103 #[.val (.long q1), .second, .val (.long q2), .second, .val (.long q3), .second, .val (.long q4), .second, .val (.long q5), .second, .val (.long q6), .second, .val (.long mm), .second, .val (.long ss), .second, .val (.long hh1), .second, .val (.long r1), .second, .val (.long r2), .second, .val (.ref b120), .val (.long ((hh1 - r1) - r2)), .second, .val (.long rm), .second, .unset, .unset, .unset] [(.int (own_hr mm ((hh1 - r1) - r2) rm))])) := fun t k => p141 t (st142.trans k)
  have p145 : Go p.tables e below _ (T142.setTop (mkF m 111 #[.val (.long q1), .second, .val (.long q2), .second, .val (.long q3), .second, .val (.long q4), .second, .val (.long q5), .second, .val (.long q6), .second, .val (.long mm), .second, .val (.long ss), .second, .val (.long hh1), .second, .val (.long r1), .second, .val (.long r2), .second, .val (.ref b120), .val (.long ((hh1 - r1) - r2)), .second, .val (.long rm), .second, .val (.int (own_hr mm ((hh1 - r1) - r2) rm)), .unset, .unset] [(.int (lcmpW rm (9223372036854775807 : Int64)))])) := fun t k => p144 t (by
    show Steps p.tables e below (T142.setTop (mkF m 103 #[.val (.long q1), .second, .val (.long q2), .second, .val (.long q3), .second, .val (.long q4), .second, .val (.long q5), .second, .val (.long q6), .second, .val (.long mm), .second, .val (.long ss), .second, .val (.long hh1), .second, .val (.long r1), .second, .val (.long r2), .second, .val (.ref b120), .val (.long ((hh1 - r1) - r2)), .second, .val (.long rm), .second, .unset, .unset, .unset] [(.int (own_hr mm ((hh1 - r1) - r2) rm))])) _
    refine XS.istore X142.here hx rfl (hb hby at_103) rfl (l' := #[.val (.long q1), .second, .val (.long q2), .second, .val (.long q3), .second, .val (.long q4), .second, .val (.long q5), .second, .val (.long q6), .second, .val (.long mm), .second, .val (.long ss), .second, .val (.long hh1), .second, .val (.long r1), .second, .val (.long r2), .second, .val (.ref b120), .val (.long ((hh1 - r1) - r2)), .second, .val (.long rm), .second, .val (.int (own_hr mm ((hh1 - r1) - r2) rm)), .unset, .unset]) rfl ?_
    show Steps p.tables e below (T142.setTop (mkF m 105 #[.val (.long q1), .second, .val (.long q2), .second, .val (.long q3), .second, .val (.long q4), .second, .val (.long q5), .second, .val (.long q6), .second, .val (.long mm), .second, .val (.long ss), .second, .val (.long hh1), .second, .val (.long r1), .second, .val (.long r2), .second, .val (.ref b120), .val (.long ((hh1 - r1) - r2)), .second, .val (.long rm), .second, .val (.int (own_hr mm ((hh1 - r1) - r2) rm)), .unset, .unset] [])) _
    refine XS.lload X142.here hx rfl (hb hby at_105) rfl ?_
    show Steps p.tables e below (T142.setTop (mkF m 107 #[.val (.long q1), .second, .val (.long q2), .second, .val (.long q3), .second, .val (.long q4), .second, .val (.long q5), .second, .val (.long q6), .second, .val (.long mm), .second, .val (.long ss), .second, .val (.long hh1), .second, .val (.long r1), .second, .val (.long r2), .second, .val (.ref b120), .val (.long ((hh1 - r1) - r2)), .second, .val (.long rm), .second, .val (.int (own_hr mm ((hh1 - r1) - r2) rm)), .unset, .unset] [(.long rm)])) _
    refine X142.ldc2Long hx hown (mvT hZ (own_w hw 0 rfl)) (g := (mkF m 107 #[.val (.long q1), .second, .val (.long q2), .second, .val (.long q3), .second, .val (.long q4), .second, .val (.long q5), .second, .val (.long q6), .second, .val (.long mm), .second, .val (.long ss), .second, .val (.long hh1), .second, .val (.long r1), .second, .val (.long r2), .second, .val (.ref b120), .val (.long ((hh1 - r1) - r2)), .second, .val (.long rm), .second, .val (.int (own_hr mm ((hh1 - r1) - r2) rm)), .unset, .unset] [(.long rm)])) rfl (hb hby at_107) _ ?_
    show Steps p.tables e below (T142.setTop (mkF m 110 #[.val (.long q1), .second, .val (.long q2), .second, .val (.long q3), .second, .val (.long q4), .second, .val (.long q5), .second, .val (.long q6), .second, .val (.long mm), .second, .val (.long ss), .second, .val (.long hh1), .second, .val (.long r1), .second, .val (.long r2), .second, .val (.ref b120), .val (.long ((hh1 - r1) - r2)), .second, .val (.long rm), .second, .val (.int (own_hr mm ((hh1 - r1) - r2) rm)), .unset, .unset] [(.long (9223372036854775807 : Int64)), (.long rm)])) _
    refine XS.lcmp X142.here hx rfl (hb hby at_110) rfl ?_
    show Steps p.tables e below (T142.setTop (mkF m 111 #[.val (.long q1), .second, .val (.long q2), .second, .val (.long q3), .second, .val (.long q4), .second, .val (.long q5), .second, .val (.long q6), .second, .val (.long mm), .second, .val (.long ss), .second, .val (.long hh1), .second, .val (.long r1), .second, .val (.long r2), .second, .val (.ref b120), .val (.long ((hh1 - r1) - r2)), .second, .val (.long rm), .second, .val (.int (own_hr mm ((hh1 - r1) - r2) rm)), .unset, .unset] [(.int (lcmpW rm (9223372036854775807 : Int64)))])) _
    exact k)
  by_cases c146 : rm = (9223372036854775807 : Int64)
  · have p147 : Go p.tables e below _ (T142.setTop (mkF m 114 #[.val (.long q1), .second, .val (.long q2), .second, .val (.long q3), .second, .val (.long q4), .second, .val (.long q5), .second, .val (.long q6), .second, .val (.long mm), .second, .val (.long ss), .second, .val (.long hh1), .second, .val (.long r1), .second, .val (.long r2), .second, .val (.ref b120), .val (.long ((hh1 - r1) - r2)), .second, .val (.long rm), .second, .val (.int (own_hr mm ((hh1 - r1) - r2) rm)), .unset, .unset] [])) := fun t k => p145 t (by
      show Steps p.tables e below (T142.setTop (mkF m 111 #[.val (.long q1), .second, .val (.long q2), .second, .val (.long q3), .second, .val (.long q4), .second, .val (.long q5), .second, .val (.long q6), .second, .val (.long mm), .second, .val (.long ss), .second, .val (.long hh1), .second, .val (.long r1), .second, .val (.long r2), .second, .val (.ref b120), .val (.long ((hh1 - r1) - r2)), .second, .val (.long rm), .second, .val (.int (own_hr mm ((hh1 - r1) - r2) rm)), .unset, .unset] [(.int (lcmpW rm (9223372036854775807 : Int64)))])) _
      refine XS.ifNo X142.here hx rfl (hb hby at_111) rfl ((if0 _ _).trans (teq ((lw_eq _ _).mpr c146)).2) ?_
      show Steps p.tables e below (T142.setTop (mkF m 114 #[.val (.long q1), .second, .val (.long q2), .second, .val (.long q3), .second, .val (.long q4), .second, .val (.long q5), .second, .val (.long q6), .second, .val (.long mm), .second, .val (.long ss), .second, .val (.long hh1), .second, .val (.long r1), .second, .val (.long r2), .second, .val (.ref b120), .val (.long ((hh1 - r1) - r2)), .second, .val (.long rm), .second, .val (.int (own_hr mm ((hh1 - r1) - r2) rm)), .unset, .unset] [])) _
      exact k)
    have p148 : Go p.tables e below _ (T142.setTop (mkF m 135 #[.val (.long q1), .second, .val (.long q2), .second, .val (.long q3), .second, .val (.long q4), .second, .val (.long q5), .second, .val (.long q6), .second, .val (.long mm), .second, .val (.long ss), .second, .val (.long hh1), .second, .val (.long r1), .second, .val (.long r2), .second, .val (.ref b120), .val (.long ((hh1 - r1) - r2)), .second, .val (.long rm), .second, .val (.int (own_hr mm ((hh1 - r1) - r2) rm)), .val (.int (0 : Int32)), .unset] [(.long q6), (.long (0 : Int64)), (.ref b120)])) := fun t k => p147 t (by
      show Steps p.tables e below (T142.setTop (mkF m 114 #[.val (.long q1), .second, .val (.long q2), .second, .val (.long q3), .second, .val (.long q4), .second, .val (.long q5), .second, .val (.long q6), .second, .val (.long mm), .second, .val (.long ss), .second, .val (.long hh1), .second, .val (.long r1), .second, .val (.long r2), .second, .val (.ref b120), .val (.long ((hh1 - r1) - r2)), .second, .val (.long rm), .second, .val (.int (own_hr mm ((hh1 - r1) - r2) rm)), .unset, .unset] [])) _
      refine XS.iconst X142.here hx rfl (hb hby at_114) ?_
      show Steps p.tables e below (T142.setTop (mkF m 115 #[.val (.long q1), .second, .val (.long q2), .second, .val (.long q3), .second, .val (.long q4), .second, .val (.long q5), .second, .val (.long q6), .second, .val (.long mm), .second, .val (.long ss), .second, .val (.long hh1), .second, .val (.long r1), .second, .val (.long r2), .second, .val (.ref b120), .val (.long ((hh1 - r1) - r2)), .second, .val (.long rm), .second, .val (.int (own_hr mm ((hh1 - r1) - r2) rm)), .unset, .unset] [(.int (0 : Int32))])) _
      refine XS.goto X142.here hx rfl (pc0 := 115) (pc' := 128) rfl (hb hby at_115) (by decide) (by decide) ?_
      show Steps p.tables e below (T142.setTop (mkF m 128 #[.val (.long q1), .second, .val (.long q2), .second, .val (.long q3), .second, .val (.long q4), .second, .val (.long q5), .second, .val (.long q6), .second, .val (.long mm), .second, .val (.long ss), .second, .val (.long hh1), .second, .val (.long r1), .second, .val (.long r2), .second, .val (.ref b120), .val (.long ((hh1 - r1) - r2)), .second, .val (.long rm), .second, .val (.int (own_hr mm ((hh1 - r1) - r2) rm)), .unset, .unset] [(.int (0 : Int32))])) _
      refine XS.istore X142.here hx rfl (hb hby at_128) rfl (l' := #[.val (.long q1), .second, .val (.long q2), .second, .val (.long q3), .second, .val (.long q4), .second, .val (.long q5), .second, .val (.long q6), .second, .val (.long mm), .second, .val (.long ss), .second, .val (.long hh1), .second, .val (.long r1), .second, .val (.long r2), .second, .val (.ref b120), .val (.long ((hh1 - r1) - r2)), .second, .val (.long rm), .second, .val (.int (own_hr mm ((hh1 - r1) - r2) rm)), .val (.int (0 : Int32)), .unset]) rfl ?_
      show Steps p.tables e below (T142.setTop (mkF m 130 #[.val (.long q1), .second, .val (.long q2), .second, .val (.long q3), .second, .val (.long q4), .second, .val (.long q5), .second, .val (.long q6), .second, .val (.long mm), .second, .val (.long ss), .second, .val (.long hh1), .second, .val (.long r1), .second, .val (.long r2), .second, .val (.ref b120), .val (.long ((hh1 - r1) - r2)), .second, .val (.long rm), .second, .val (.int (own_hr mm ((hh1 - r1) - r2) rm)), .val (.int (0 : Int32)), .unset] [])) _
      refine XS.aload X142.here hx rfl (hb hby at_130) rfl rfl ?_
      show Steps p.tables e below (T142.setTop (mkF m 132 #[.val (.long q1), .second, .val (.long q2), .second, .val (.long q3), .second, .val (.long q4), .second, .val (.long q5), .second, .val (.long q6), .second, .val (.long mm), .second, .val (.long ss), .second, .val (.long hh1), .second, .val (.long r1), .second, .val (.long r2), .second, .val (.ref b120), .val (.long ((hh1 - r1) - r2)), .second, .val (.long rm), .second, .val (.int (own_hr mm ((hh1 - r1) - r2) rm)), .val (.int (0 : Int32)), .unset] [(.ref b120)])) _
      refine XS.lconst X142.here hx rfl (hb hby at_132) ?_
      show Steps p.tables e below (T142.setTop (mkF m 133 #[.val (.long q1), .second, .val (.long q2), .second, .val (.long q3), .second, .val (.long q4), .second, .val (.long q5), .second, .val (.long q6), .second, .val (.long mm), .second, .val (.long ss), .second, .val (.long hh1), .second, .val (.long r1), .second, .val (.long r2), .second, .val (.ref b120), .val (.long ((hh1 - r1) - r2)), .second, .val (.long rm), .second, .val (.int (own_hr mm ((hh1 - r1) - r2) rm)), .val (.int (0 : Int32)), .unset] [(.long (0 : Int64)), (.ref b120)])) _
      refine XS.lload X142.here hx rfl (hb hby at_133) rfl ?_
      show Steps p.tables e below (T142.setTop (mkF m 135 #[.val (.long q1), .second, .val (.long q2), .second, .val (.long q3), .second, .val (.long q4), .second, .val (.long q5), .second, .val (.long q6), .second, .val (.long mm), .second, .val (.long ss), .second, .val (.long hh1), .second, .val (.long r1), .second, .val (.long r2), .second, .val (.ref b120), .val (.long ((hh1 - r1) - r2)), .second, .val (.long rm), .second, .val (.int (own_hr mm ((hh1 - r1) - r2) rm)), .val (.int (0 : Int32)), .unset] [(.long q6), (.long (0 : Int64)), (.ref b120)])) _
      exact k)
    obtain ⟨cq149, kq149, q149a, q149b, q149c⟩ := isOf hZ rfl q142_E1
    obtain ⟨_, _, ⟨T149, L149, k149, n149⟩, -, X149, ⟨Lc149, hQ149, l149, y149, z149⟩, st149⟩ := X142.virtualBack hx (y := (⟨"com/example/kuusi/kuusi/core/ElementLimit", "recount", "(JJ)Z"⟩ : MethodName)) (z := (⟨"com/example/kuusi/kuusi/core/ElementLimit", "recount", "(JJ)Z"⟩ : MethodName)) hown (mvT hZ (own_w hw 43 rfl)) (mvT hZ (own_w hw 44 rfl)) (notFace_of_selects (args := #[]) (mvT hZ (own_w hw 46 rfl))) (mvT hZ (own_w hw 46 rfl)) (mvT hZ (own_w hw 45 rfl)) (by decide) (backOf (W := 0) (rm8 l Z a0 hw [] b120 q6 mm ss ((hh1 - r1) - r2) T142.heap n0 (Nat.le_trans Z0 K143.1) q142_F0 q142_F1 q142_F2 q142_F3 q142_F4 q142_F5 q142_E1 ge_b120 (by simpa using ns)) hZ (own_w hw 47 rfl) (own_w hw 7 rfl) (by decide) (by decide)) q149a q149c (g := (mkF m 135 #[.val (.long q1), .second, .val (.long q2), .second, .val (.long q3), .second, .val (.long q4), .second, .val (.long q5), .second, .val (.long q6), .second, .val (.long mm), .second, .val (.long ss), .second, .val (.long hh1), .second, .val (.long r1), .second, .val (.long r2), .second, .val (.ref b120), .val (.long ((hh1 - r1) - r2)), .second, .val (.long rm), .second, .val (.int (own_hr mm ((hh1 - r1) - r2) rm)), .val (.int (0 : Int32)), .unset] [(.long q6), (.long (0 : Int64)), (.ref b120)])) rfl (by rw [hml]; rfl) (Steps.refl _) (argsL := [(.long (0 : Int64)), (.long q6)]) (rest := []) (lenOf pd4 rfl) rfl (by show 2 * 0 + _ ≤ _; exact Nat.le_of_eq rfl) (hb hby at_135) (fun _ _ => ⟨rfl, rfl, (by decide : 1 + 0 ≤ _), (by decide : 6 + 0 ≤ _)⟩)
    dsimp only [Pt.U, Pt.locs, Pt.cells, Pt.slots] at X149 l149 y149 z149 st149 hQ149
    subst l149 y149 z149
    obtain ⟨rfl, N149q, q149_K, q149_F0, q149_F1, q149_F2, q149_F3, q149_F4, q149_F5, q149_E1⟩ := hQ149
    have N149 := Fr.app N142 N149q
    have K150 : Keep h0 T149.heap [] := K143.trans q149_K (allS (Or.inr sz_b120) all0)
    have p151 : Go p.tables e below _ (T149.setTop (mkF m 138 #[.val (.long q1), .second, .val (.long q2), .second, .val (.long q3), .second, .val (.long q4), .second, .val (.long q5), .second, .val (.long q6), .second, .val (.long mm), .second, .val (.long ss), .second, .val (.long hh1), .second, .val (.long r1), .second, .val (.long r2), .second, .val (.ref b120), .val (.long ((hh1 - r1) - r2)), .second, .val (.long rm), .second, .val (.int (own_hr mm ((hh1 - r1) - r2) rm)), .val (.int (0 : Int32)), .unset] [(.int (own_hr mm ((hh1 - r1) - r2) q6))])) := fun t k => p148 t (st149.trans k)
    have p152 : Go p.tables e below _ (T149.setTop (mkF m 142 #[.val (.long q1), .second, .val (.long q2), .second, .val (.long q3), .second, .val (.long q4), .second, .val (.long q5), .second, .val (.long q6), .second, .val (.long mm), .second, .val (.long ss), .second, .val (.long hh1), .second, .val (.long r1), .second, .val (.long r2), .second, .val (.ref b120), .val (.long ((hh1 - r1) - r2)), .second, .val (.long rm), .second, .val (.int (own_hr mm ((hh1 - r1) - r2) rm)), .val (.int (0 : Int32)), .val (.int (own_hr mm ((hh1 - r1) - r2) q6))] [(.int (own_hr mm ((hh1 - r1) - r2) rm))])) := fun t k => p151 t (by
      show Steps p.tables e below (T149.setTop (mkF m 138 #[.val (.long q1), .second, .val (.long q2), .second, .val (.long q3), .second, .val (.long q4), .second, .val (.long q5), .second, .val (.long q6), .second, .val (.long mm), .second, .val (.long ss), .second, .val (.long hh1), .second, .val (.long r1), .second, .val (.long r2), .second, .val (.ref b120), .val (.long ((hh1 - r1) - r2)), .second, .val (.long rm), .second, .val (.int (own_hr mm ((hh1 - r1) - r2) rm)), .val (.int (0 : Int32)), .unset] [(.int (own_hr mm ((hh1 - r1) - r2) q6))])) _
      refine XS.istore X149.here hx rfl (hb hby at_138) rfl (l' := #[.val (.long q1), .second, .val (.long q2), .second, .val (.long q3), .second, .val (.long q4), .second, .val (.long q5), .second, .val (.long q6), .second, .val (.long mm), .second, .val (.long ss), .second, .val (.long hh1), .second, .val (.long r1), .second, .val (.long r2), .second, .val (.ref b120), .val (.long ((hh1 - r1) - r2)), .second, .val (.long rm), .second, .val (.int (own_hr mm ((hh1 - r1) - r2) rm)), .val (.int (0 : Int32)), .val (.int (own_hr mm ((hh1 - r1) - r2) q6))]) rfl ?_
      show Steps p.tables e below (T149.setTop (mkF m 140 #[.val (.long q1), .second, .val (.long q2), .second, .val (.long q3), .second, .val (.long q4), .second, .val (.long q5), .second, .val (.long q6), .second, .val (.long mm), .second, .val (.long ss), .second, .val (.long hh1), .second, .val (.long r1), .second, .val (.long r2), .second, .val (.ref b120), .val (.long ((hh1 - r1) - r2)), .second, .val (.long rm), .second, .val (.int (own_hr mm ((hh1 - r1) - r2) rm)), .val (.int (0 : Int32)), .val (.int (own_hr mm ((hh1 - r1) - r2) q6))] [])) _
      refine XS.iload X149.here hx rfl (hb hby at_140) rfl ?_
      show Steps p.tables e below (T149.setTop (mkF m 142 #[.val (.long q1), .second, .val (.long q2), .second, .val (.long q3), .second, .val (.long q4), .second, .val (.long q5), .second, .val (.long q6), .second, .val (.long mm), .second, .val (.long ss), .second, .val (.long hh1), .second, .val (.long r1), .second, .val (.long r2), .second, .val (.ref b120), .val (.long ((hh1 - r1) - r2)), .second, .val (.long rm), .second, .val (.int (own_hr mm ((hh1 - r1) - r2) rm)), .val (.int (0 : Int32)), .val (.int (own_hr mm ((hh1 - r1) - r2) q6))] [(.int (own_hr mm ((hh1 - r1) - r2) rm))])) _
      exact k)
    have c153 : ¬ ((own_hr mm ((hh1 - r1) - r2) rm) = (0 : Int32)) := by rw [hrm]; simp [own_hr]
    have p154 : Go p.tables e below _ (T149.setTop (mkF m 157 #[.val (.long q1), .second, .val (.long q2), .second, .val (.long q3), .second, .val (.long q4), .second, .val (.long q5), .second, .val (.long q6), .second, .val (.long mm), .second, .val (.long ss), .second, .val (.long hh1), .second, .val (.long r1), .second, .val (.long r2), .second, .val (.ref b120), .val (.long ((hh1 - r1) - r2)), .second, .val (.long rm), .second, .val (.int (own_hr mm ((hh1 - r1) - r2) rm)), .val (.int (0 : Int32)), .val (.int (own_hr mm ((hh1 - r1) - r2) q6))] [(.int (lcmpW q6 rm)), (.int (own_hr mm ((hh1 - r1) - r2) q6))])) := fun t k => p152 t (by
      show Steps p.tables e below (T149.setTop (mkF m 142 #[.val (.long q1), .second, .val (.long q2), .second, .val (.long q3), .second, .val (.long q4), .second, .val (.long q5), .second, .val (.long q6), .second, .val (.long mm), .second, .val (.long ss), .second, .val (.long hh1), .second, .val (.long r1), .second, .val (.long r2), .second, .val (.ref b120), .val (.long ((hh1 - r1) - r2)), .second, .val (.long rm), .second, .val (.int (own_hr mm ((hh1 - r1) - r2) rm)), .val (.int (0 : Int32)), .val (.int (own_hr mm ((hh1 - r1) - r2) q6))] [(.int (own_hr mm ((hh1 - r1) - r2) rm))])) _
      refine XS.ifNo X149.here hx rfl (hb hby at_142) rfl ((if0 _ _).trans (feq c153).1) ?_
      show Steps p.tables e below (T149.setTop (mkF m 145 #[.val (.long q1), .second, .val (.long q2), .second, .val (.long q3), .second, .val (.long q4), .second, .val (.long q5), .second, .val (.long q6), .second, .val (.long mm), .second, .val (.long ss), .second, .val (.long hh1), .second, .val (.long r1), .second, .val (.long r2), .second, .val (.ref b120), .val (.long ((hh1 - r1) - r2)), .second, .val (.long rm), .second, .val (.int (own_hr mm ((hh1 - r1) - r2) rm)), .val (.int (0 : Int32)), .val (.int (own_hr mm ((hh1 - r1) - r2) q6))] [])) _
      refine XS.iload X149.here hx rfl (hb hby at_145) rfl ?_
      show Steps p.tables e below (T149.setTop (mkF m 147 #[.val (.long q1), .second, .val (.long q2), .second, .val (.long q3), .second, .val (.long q4), .second, .val (.long q5), .second, .val (.long q6), .second, .val (.long mm), .second, .val (.long ss), .second, .val (.long hh1), .second, .val (.long r1), .second, .val (.long r2), .second, .val (.ref b120), .val (.long ((hh1 - r1) - r2)), .second, .val (.long rm), .second, .val (.int (own_hr mm ((hh1 - r1) - r2) rm)), .val (.int (0 : Int32)), .val (.int (own_hr mm ((hh1 - r1) - r2) q6))] [(.int (0 : Int32))])) _
      refine XS.ifNo X149.here hx rfl (hb hby at_147) rfl ((if0 _ _).trans (teq (by decide : ((0 : Int32) = (0 : Int32)))).2) ?_
      show Steps p.tables e below (T149.setTop (mkF m 150 #[.val (.long q1), .second, .val (.long q2), .second, .val (.long q3), .second, .val (.long q4), .second, .val (.long q5), .second, .val (.long q6), .second, .val (.long mm), .second, .val (.long ss), .second, .val (.long hh1), .second, .val (.long r1), .second, .val (.long r2), .second, .val (.ref b120), .val (.long ((hh1 - r1) - r2)), .second, .val (.long rm), .second, .val (.int (own_hr mm ((hh1 - r1) - r2) rm)), .val (.int (0 : Int32)), .val (.int (own_hr mm ((hh1 - r1) - r2) q6))] [])) _
      refine XS.iload X149.here hx rfl (hb hby at_150) rfl ?_
      show Steps p.tables e below (T149.setTop (mkF m 152 #[.val (.long q1), .second, .val (.long q2), .second, .val (.long q3), .second, .val (.long q4), .second, .val (.long q5), .second, .val (.long q6), .second, .val (.long mm), .second, .val (.long ss), .second, .val (.long hh1), .second, .val (.long r1), .second, .val (.long r2), .second, .val (.ref b120), .val (.long ((hh1 - r1) - r2)), .second, .val (.long rm), .second, .val (.int (own_hr mm ((hh1 - r1) - r2) rm)), .val (.int (0 : Int32)), .val (.int (own_hr mm ((hh1 - r1) - r2) q6))] [(.int (own_hr mm ((hh1 - r1) - r2) q6))])) _
      refine XS.lload X149.here hx rfl (hb hby at_152) rfl ?_
      show Steps p.tables e below (T149.setTop (mkF m 154 #[.val (.long q1), .second, .val (.long q2), .second, .val (.long q3), .second, .val (.long q4), .second, .val (.long q5), .second, .val (.long q6), .second, .val (.long mm), .second, .val (.long ss), .second, .val (.long hh1), .second, .val (.long r1), .second, .val (.long r2), .second, .val (.ref b120), .val (.long ((hh1 - r1) - r2)), .second, .val (.long rm), .second, .val (.int (own_hr mm ((hh1 - r1) - r2) rm)), .val (.int (0 : Int32)), .val (.int (own_hr mm ((hh1 - r1) - r2) q6))] [(.long q6), (.int (own_hr mm ((hh1 - r1) - r2) q6))])) _
      refine XS.lload X149.here hx rfl (hb hby at_154) rfl ?_
      show Steps p.tables e below (T149.setTop (mkF m 156 #[.val (.long q1), .second, .val (.long q2), .second, .val (.long q3), .second, .val (.long q4), .second, .val (.long q5), .second, .val (.long q6), .second, .val (.long mm), .second, .val (.long ss), .second, .val (.long hh1), .second, .val (.long r1), .second, .val (.long r2), .second, .val (.ref b120), .val (.long ((hh1 - r1) - r2)), .second, .val (.long rm), .second, .val (.int (own_hr mm ((hh1 - r1) - r2) rm)), .val (.int (0 : Int32)), .val (.int (own_hr mm ((hh1 - r1) - r2) q6))] [(.long rm), (.long q6), (.int (own_hr mm ((hh1 - r1) - r2) q6))])) _
      refine XS.lcmp X149.here hx rfl (hb hby at_156) rfl ?_
      show Steps p.tables e below (T149.setTop (mkF m 157 #[.val (.long q1), .second, .val (.long q2), .second, .val (.long q3), .second, .val (.long q4), .second, .val (.long q5), .second, .val (.long q6), .second, .val (.long mm), .second, .val (.long ss), .second, .val (.long hh1), .second, .val (.long r1), .second, .val (.long r2), .second, .val (.ref b120), .val (.long ((hh1 - r1) - r2)), .second, .val (.long rm), .second, .val (.int (own_hr mm ((hh1 - r1) - r2) rm)), .val (.int (0 : Int32)), .val (.int (own_hr mm ((hh1 - r1) - r2) q6))] [(.int (lcmpW q6 rm)), (.int (own_hr mm ((hh1 - r1) - r2) q6))])) _
      exact k)
    by_cases c155 : rm < q6
    · have p156 : Go p.tables e below _ (T149.setTop (mkF m 164 #[.val (.long q1), .second, .val (.long q2), .second, .val (.long q3), .second, .val (.long q4), .second, .val (.long q5), .second, .val (.long q6), .second, .val (.long mm), .second, .val (.long ss), .second, .val (.long hh1), .second, .val (.long r1), .second, .val (.long r2), .second, .val (.ref b120), .val (.long ((hh1 - r1) - r2)), .second, .val (.long rm), .second, .val (.int (own_hr mm ((hh1 - r1) - r2) rm)), .val (.int (0 : Int32)), .val (.int (own_hr mm ((hh1 - r1) - r2) q6))] [(.int (own_hr mm ((hh1 - r1) - r2) q6))])) := fun t k => p154 t (by
        show Steps p.tables e below (T149.setTop (mkF m 157 #[.val (.long q1), .second, .val (.long q2), .second, .val (.long q3), .second, .val (.long q4), .second, .val (.long q5), .second, .val (.long q6), .second, .val (.long mm), .second, .val (.long ss), .second, .val (.long hh1), .second, .val (.long r1), .second, .val (.long r2), .second, .val (.ref b120), .val (.long ((hh1 - r1) - r2)), .second, .val (.long rm), .second, .val (.int (own_hr mm ((hh1 - r1) - r2) rm)), .val (.int (0 : Int32)), .val (.int (own_hr mm ((hh1 - r1) - r2) q6))] [(.int (lcmpW q6 rm)), (.int (own_hr mm ((hh1 - r1) - r2) q6))])) _
        refine XS.ifYes X149.here hx rfl (pc0 := 157) (pc' := 164) rfl (hb hby at_157) rfl ((if0 _ _).trans (tlt ((lw_gt _ _).mpr c155)).2.2.1) (by decide) (by decide) ?_
        show Steps p.tables e below (T149.setTop (mkF m 164 #[.val (.long q1), .second, .val (.long q2), .second, .val (.long q3), .second, .val (.long q4), .second, .val (.long q5), .second, .val (.long q6), .second, .val (.long mm), .second, .val (.long ss), .second, .val (.long hh1), .second, .val (.long r1), .second, .val (.long r2), .second, .val (.ref b120), .val (.long ((hh1 - r1) - r2)), .second, .val (.long rm), .second, .val (.int (own_hr mm ((hh1 - r1) - r2) rm)), .val (.int (0 : Int32)), .val (.int (own_hr mm ((hh1 - r1) - r2) q6))] [(.int (own_hr mm ((hh1 - r1) - r2) q6))])) _
        exact k)
      have p157 : Go p.tables e below _ (T149.setTop (mkF m 165 #[.val (.long q1), .second, .val (.long q2), .second, .val (.long q3), .second, .val (.long q4), .second, .val (.long q5), .second, .val (.long q6), .second, .val (.long mm), .second, .val (.long ss), .second, .val (.long hh1), .second, .val (.long r1), .second, .val (.long r2), .second, .val (.ref b120), .val (.long ((hh1 - r1) - r2)), .second, .val (.long rm), .second, .val (.int (own_hr mm ((hh1 - r1) - r2) rm)), .val (.int (0 : Int32)), .val (.int (own_hr mm ((hh1 - r1) - r2) q6))] [(.int (0 : Int32)), (.int (own_hr mm ((hh1 - r1) - r2) q6))])) := fun t k => p156 t (by
        show Steps p.tables e below (T149.setTop (mkF m 164 #[.val (.long q1), .second, .val (.long q2), .second, .val (.long q3), .second, .val (.long q4), .second, .val (.long q5), .second, .val (.long q6), .second, .val (.long mm), .second, .val (.long ss), .second, .val (.long hh1), .second, .val (.long r1), .second, .val (.long r2), .second, .val (.ref b120), .val (.long ((hh1 - r1) - r2)), .second, .val (.long rm), .second, .val (.int (own_hr mm ((hh1 - r1) - r2) rm)), .val (.int (0 : Int32)), .val (.int (own_hr mm ((hh1 - r1) - r2) q6))] [(.int (own_hr mm ((hh1 - r1) - r2) q6))])) _
        refine XS.iconst X149.here hx rfl (hb hby at_164) ?_
        show Steps p.tables e below (T149.setTop (mkF m 165 #[.val (.long q1), .second, .val (.long q2), .second, .val (.long q3), .second, .val (.long q4), .second, .val (.long q5), .second, .val (.long q6), .second, .val (.long mm), .second, .val (.long ss), .second, .val (.long hh1), .second, .val (.long r1), .second, .val (.long r2), .second, .val (.ref b120), .val (.long ((hh1 - r1) - r2)), .second, .val (.long rm), .second, .val (.int (own_hr mm ((hh1 - r1) - r2) rm)), .val (.int (0 : Int32)), .val (.int (own_hr mm ((hh1 - r1) - r2) q6))] [(.int (0 : Int32)), (.int (own_hr mm ((hh1 - r1) - r2) q6))])) _
        exact k)
      have c158 : ((own_hr mm ((hh1 - r1) - r2) q6) = (0 : Int32)) := by rw [hrm] at c155; simp [own_hr, c155]
      have p159 : Go p.tables e below _ (T149.setTop (mkF m 170 #[.val (.long q1), .second, .val (.long q2), .second, .val (.long q3), .second, .val (.long q4), .second, .val (.long q5), .second, .val (.long q6), .second, .val (.long mm), .second, .val (.long ss), .second, .val (.long hh1), .second, .val (.long r1), .second, .val (.long r2), .second, .val (.ref b120), .val (.long ((hh1 - r1) - r2)), .second, .val (.long rm), .second, .val (.int (own_hr mm ((hh1 - r1) - r2) rm)), .val (.int (0 : Int32)), .val (.int (own_hr mm ((hh1 - r1) - r2) q6))] [(.ref b120)])) := fun t k => p157 t (by
        show Steps p.tables e below (T149.setTop (mkF m 165 #[.val (.long q1), .second, .val (.long q2), .second, .val (.long q3), .second, .val (.long q4), .second, .val (.long q5), .second, .val (.long q6), .second, .val (.long mm), .second, .val (.long ss), .second, .val (.long hh1), .second, .val (.long r1), .second, .val (.long r2), .second, .val (.ref b120), .val (.long ((hh1 - r1) - r2)), .second, .val (.long rm), .second, .val (.int (own_hr mm ((hh1 - r1) - r2) rm)), .val (.int (0 : Int32)), .val (.int (own_hr mm ((hh1 - r1) - r2) q6))] [(.int (0 : Int32)), (.int (own_hr mm ((hh1 - r1) - r2) q6))])) _
        refine XS.icmpNo X149.here hx rfl (hb hby at_165) rfl (teq c158).2 ?_
        show Steps p.tables e below (T149.setTop (mkF m 168 #[.val (.long q1), .second, .val (.long q2), .second, .val (.long q3), .second, .val (.long q4), .second, .val (.long q5), .second, .val (.long q6), .second, .val (.long mm), .second, .val (.long ss), .second, .val (.long hh1), .second, .val (.long r1), .second, .val (.long r2), .second, .val (.ref b120), .val (.long ((hh1 - r1) - r2)), .second, .val (.long rm), .second, .val (.int (own_hr mm ((hh1 - r1) - r2) rm)), .val (.int (0 : Int32)), .val (.int (own_hr mm ((hh1 - r1) - r2) q6))] [])) _
        refine XS.aload X149.here hx rfl (hb hby at_168) rfl rfl ?_
        show Steps p.tables e below (T149.setTop (mkF m 170 #[.val (.long q1), .second, .val (.long q2), .second, .val (.long q3), .second, .val (.long q4), .second, .val (.long q5), .second, .val (.long q6), .second, .val (.long mm), .second, .val (.long ss), .second, .val (.long hh1), .second, .val (.long r1), .second, .val (.long r2), .second, .val (.ref b120), .val (.long ((hh1 - r1) - r2)), .second, .val (.long rm), .second, .val (.int (own_hr mm ((hh1 - r1) - r2) rm)), .val (.int (0 : Int32)), .val (.int (own_hr mm ((hh1 - r1) - r2) q6))] [(.ref b120)])) _
        exact k)
      obtain ⟨cq160, kq160, q160a, q160b, q160c⟩ := isOf hZ rfl q149_E1
      obtain ⟨_, _, ⟨T160, L160, k160, n160⟩, -, X160, ⟨Lc160, hQ160, l160, y160, z160⟩, st160⟩ := X149.virtualBack hx (y := (⟨"com/example/kuusi/kuusi/core/ElementLimit", "spent", "()J"⟩ : MethodName)) (z := (⟨"com/example/kuusi/kuusi/core/ElementLimit", "spent", "()J"⟩ : MethodName)) hown (mvT hZ (own_w hw 62 rfl)) (mvT hZ (own_w hw 63 rfl)) (notFace_of_selects (args := #[]) (mvT hZ (own_w hw 65 rfl))) (mvT hZ (own_w hw 65 rfl)) (mvT hZ (own_w hw 64 rfl)) (by decide) (backOf (W := 0) (rm12 l Z a0 hw [] b120 mm ss ((hh1 - r1) - r2) T149.heap n0 (Nat.le_trans Z0 K150.1) q149_F0 q149_F1 q149_F2 q149_F3 q149_F4 q149_F5 q149_E1) hZ (own_w hw 66 rfl) (own_w hw 7 rfl) (by decide) (by decide)) q160a q160c (g := (mkF m 170 #[.val (.long q1), .second, .val (.long q2), .second, .val (.long q3), .second, .val (.long q4), .second, .val (.long q5), .second, .val (.long q6), .second, .val (.long mm), .second, .val (.long ss), .second, .val (.long hh1), .second, .val (.long r1), .second, .val (.long r2), .second, .val (.ref b120), .val (.long ((hh1 - r1) - r2)), .second, .val (.long rm), .second, .val (.int (own_hr mm ((hh1 - r1) - r2) rm)), .val (.int (0 : Int32)), .val (.int (own_hr mm ((hh1 - r1) - r2) q6))] [(.ref b120)])) rfl (by rw [hml]; rfl) (Steps.refl _) (argsL := []) (rest := []) (lenOf pd5 rfl) rfl (by show 2 * 0 + _ ≤ _; exact Nat.le_of_eq rfl) (hb hby at_170) (fun _ _ => ⟨rfl, rfl, (by decide : 1 + 0 ≤ _), (by decide : 6 + 0 ≤ _)⟩)
      dsimp only [Pt.U, Pt.locs, Pt.cells, Pt.slots] at X160 l160 y160 z160 st160 hQ160
      subst l160 y160 z160
      obtain ⟨rfl, N160q, q160_hh⟩ := hQ160
      have N160 := Fr.app N149 N160q
      have p161 : Go p.tables e below _ (T160.setTop (mkF m 173 #[.val (.long q1), .second, .val (.long q2), .second, .val (.long q3), .second, .val (.long q4), .second, .val (.long q5), .second, .val (.long q6), .second, .val (.long mm), .second, .val (.long ss), .second, .val (.long hh1), .second, .val (.long r1), .second, .val (.long r2), .second, .val (.ref b120), .val (.long ((hh1 - r1) - r2)), .second, .val (.long rm), .second, .val (.int (own_hr mm ((hh1 - r1) - r2) rm)), .val (.int (0 : Int32)), .val (.int (own_hr mm ((hh1 - r1) - r2) q6))] [(.long (0 : Int64))])) := fun t k => p159 t (st160.trans k)
      have p162 : Go p.tables e below _ (T160.setTop (mkF m 175 #[.val (.long q1), .second, .val (.long q2), .second, .val (.long q3), .second, .val (.long q4), .second, .val (.long q5), .second, .val (.long q6), .second, .val (.long mm), .second, .val (.long ss), .second, .val (.long hh1), .second, .val (.long r1), .second, .val (.long r2), .second, .val (.ref b120), .val (.long ((hh1 - r1) - r2)), .second, .val (.long rm), .second, .val (.int (own_hr mm ((hh1 - r1) - r2) rm)), .val (.int (0 : Int32)), .val (.int (own_hr mm ((hh1 - r1) - r2) q6))] [(.int (lcmpW (0 : Int64) (0 : Int64)))])) := fun t k => p161 t (by
        show Steps p.tables e below (T160.setTop (mkF m 173 #[.val (.long q1), .second, .val (.long q2), .second, .val (.long q3), .second, .val (.long q4), .second, .val (.long q5), .second, .val (.long q6), .second, .val (.long mm), .second, .val (.long ss), .second, .val (.long hh1), .second, .val (.long r1), .second, .val (.long r2), .second, .val (.ref b120), .val (.long ((hh1 - r1) - r2)), .second, .val (.long rm), .second, .val (.int (own_hr mm ((hh1 - r1) - r2) rm)), .val (.int (0 : Int32)), .val (.int (own_hr mm ((hh1 - r1) - r2) q6))] [(.long (0 : Int64))])) _
        refine XS.lconst X160.here hx rfl (hb hby at_173) ?_
        show Steps p.tables e below (T160.setTop (mkF m 174 #[.val (.long q1), .second, .val (.long q2), .second, .val (.long q3), .second, .val (.long q4), .second, .val (.long q5), .second, .val (.long q6), .second, .val (.long mm), .second, .val (.long ss), .second, .val (.long hh1), .second, .val (.long r1), .second, .val (.long r2), .second, .val (.ref b120), .val (.long ((hh1 - r1) - r2)), .second, .val (.long rm), .second, .val (.int (own_hr mm ((hh1 - r1) - r2) rm)), .val (.int (0 : Int32)), .val (.int (own_hr mm ((hh1 - r1) - r2) q6))] [(.long (0 : Int64)), (.long (0 : Int64))])) _
        refine XS.lcmp X160.here hx rfl (hb hby at_174) rfl ?_
        show Steps p.tables e below (T160.setTop (mkF m 175 #[.val (.long q1), .second, .val (.long q2), .second, .val (.long q3), .second, .val (.long q4), .second, .val (.long q5), .second, .val (.long q6), .second, .val (.long mm), .second, .val (.long ss), .second, .val (.long hh1), .second, .val (.long r1), .second, .val (.long r2), .second, .val (.ref b120), .val (.long ((hh1 - r1) - r2)), .second, .val (.long rm), .second, .val (.int (own_hr mm ((hh1 - r1) - r2) rm)), .val (.int (0 : Int32)), .val (.int (own_hr mm ((hh1 - r1) - r2) q6))] [(.int (lcmpW (0 : Int64) (0 : Int64)))])) _
        exact k)
      have c163 : ((0 : Int64) = (0 : Int64)) := rfl
      have p164 : Go p.tables e below _ (T160.setTop (mkF m 183 #[.val (.long q1), .second, .val (.long q2), .second, .val (.long q3), .second, .val (.long q4), .second, .val (.long q5), .second, .val (.long q6), .second, .val (.long mm), .second, .val (.long ss), .second, .val (.long hh1), .second, .val (.long r1), .second, .val (.long r2), .second, .val (.ref b120), .val (.long ((hh1 - r1) - r2)), .second, .val (.long rm), .second, .val (.int (own_hr mm ((hh1 - r1) - r2) rm)), .val (.int (0 : Int32)), .val (.int (own_hr mm ((hh1 - r1) - r2) q6))] [(.int (1 : Int32))])) := fun t k => p162 t (by
        show Steps p.tables e below (T160.setTop (mkF m 175 #[.val (.long q1), .second, .val (.long q2), .second, .val (.long q3), .second, .val (.long q4), .second, .val (.long q5), .second, .val (.long q6), .second, .val (.long mm), .second, .val (.long ss), .second, .val (.long hh1), .second, .val (.long r1), .second, .val (.long r2), .second, .val (.ref b120), .val (.long ((hh1 - r1) - r2)), .second, .val (.long rm), .second, .val (.int (own_hr mm ((hh1 - r1) - r2) rm)), .val (.int (0 : Int32)), .val (.int (own_hr mm ((hh1 - r1) - r2) q6))] [(.int (lcmpW (0 : Int64) (0 : Int64)))])) _
        refine XS.ifNo X160.here hx rfl (hb hby at_175) rfl ((if0 _ _).trans (teq ((lw_eq _ _).mpr c163)).2) ?_
        show Steps p.tables e below (T160.setTop (mkF m 178 #[.val (.long q1), .second, .val (.long q2), .second, .val (.long q3), .second, .val (.long q4), .second, .val (.long q5), .second, .val (.long q6), .second, .val (.long mm), .second, .val (.long ss), .second, .val (.long hh1), .second, .val (.long r1), .second, .val (.long r2), .second, .val (.ref b120), .val (.long ((hh1 - r1) - r2)), .second, .val (.long rm), .second, .val (.int (own_hr mm ((hh1 - r1) - r2) rm)), .val (.int (0 : Int32)), .val (.int (own_hr mm ((hh1 - r1) - r2) q6))] [])) _
        refine XS.iconst X160.here hx rfl (hb hby at_178) ?_
        show Steps p.tables e below (T160.setTop (mkF m 179 #[.val (.long q1), .second, .val (.long q2), .second, .val (.long q3), .second, .val (.long q4), .second, .val (.long q5), .second, .val (.long q6), .second, .val (.long mm), .second, .val (.long ss), .second, .val (.long hh1), .second, .val (.long r1), .second, .val (.long r2), .second, .val (.ref b120), .val (.long ((hh1 - r1) - r2)), .second, .val (.long rm), .second, .val (.int (own_hr mm ((hh1 - r1) - r2) rm)), .val (.int (0 : Int32)), .val (.int (own_hr mm ((hh1 - r1) - r2) q6))] [(.int (1 : Int32))])) _
        refine XS.goto X160.here hx rfl (pc0 := 179) (pc' := 183) rfl (hb hby at_179) (by decide) (by decide) ?_
        show Steps p.tables e below (T160.setTop (mkF m 183 #[.val (.long q1), .second, .val (.long q2), .second, .val (.long q3), .second, .val (.long q4), .second, .val (.long q5), .second, .val (.long q6), .second, .val (.long mm), .second, .val (.long ss), .second, .val (.long hh1), .second, .val (.long r1), .second, .val (.long r2), .second, .val (.ref b120), .val (.long ((hh1 - r1) - r2)), .second, .val (.long rm), .second, .val (.int (own_hr mm ((hh1 - r1) - r2) rm)), .val (.int (0 : Int32)), .val (.int (own_hr mm ((hh1 - r1) - r2) q6))] [(.int (1 : Int32))])) _
        exact k)
      obtain ⟨fs, hr, hrun, hended, hW, hsame⟩ := X160.leave (v := some (.int (1 : Int32))) (fun h => by rw [Bd.returns] at h; cases h)
      refine ⟨_, _, p164 _ (retN X160 hx (t := .boolean) Bd.returns (by simp) (hb hby at_183) hr), hrun, hended, _, _, rfl, ?_, ⟨_, rfl⟩, hW, hsame.mono (by decide) (by decide)⟩
      show Q0 Z q1 q2 q3 q4 q5 q6 h0 n0 _ T160.heap _
      rw [q160_hh]
      exact ⟨rfl, N160⟩
    · have p165 : Go p.tables e below _ (T149.setTop (mkF m 160 #[.val (.long q1), .second, .val (.long q2), .second, .val (.long q3), .second, .val (.long q4), .second, .val (.long q5), .second, .val (.long q6), .second, .val (.long mm), .second, .val (.long ss), .second, .val (.long hh1), .second, .val (.long r1), .second, .val (.long r2), .second, .val (.ref b120), .val (.long ((hh1 - r1) - r2)), .second, .val (.long rm), .second, .val (.int (own_hr mm ((hh1 - r1) - r2) rm)), .val (.int (0 : Int32)), .val (.int (own_hr mm ((hh1 - r1) - r2) q6))] [(.int (own_hr mm ((hh1 - r1) - r2) q6))])) := fun t k => p154 t (by
        show Steps p.tables e below (T149.setTop (mkF m 157 #[.val (.long q1), .second, .val (.long q2), .second, .val (.long q3), .second, .val (.long q4), .second, .val (.long q5), .second, .val (.long q6), .second, .val (.long mm), .second, .val (.long ss), .second, .val (.long hh1), .second, .val (.long r1), .second, .val (.long r2), .second, .val (.ref b120), .val (.long ((hh1 - r1) - r2)), .second, .val (.long rm), .second, .val (.int (own_hr mm ((hh1 - r1) - r2) rm)), .val (.int (0 : Int32)), .val (.int (own_hr mm ((hh1 - r1) - r2) q6))] [(.int (lcmpW q6 rm)), (.int (own_hr mm ((hh1 - r1) - r2) q6))])) _
        refine XS.ifNo X149.here hx rfl (hb hby at_157) rfl ((if0 _ _).trans (flt (mt (lw_gt _ _).mp c155)).2.2.1) ?_
        show Steps p.tables e below (T149.setTop (mkF m 160 #[.val (.long q1), .second, .val (.long q2), .second, .val (.long q3), .second, .val (.long q4), .second, .val (.long q5), .second, .val (.long q6), .second, .val (.long mm), .second, .val (.long ss), .second, .val (.long hh1), .second, .val (.long r1), .second, .val (.long r2), .second, .val (.ref b120), .val (.long ((hh1 - r1) - r2)), .second, .val (.long rm), .second, .val (.int (own_hr mm ((hh1 - r1) - r2) rm)), .val (.int (0 : Int32)), .val (.int (own_hr mm ((hh1 - r1) - r2) q6))] [(.int (own_hr mm ((hh1 - r1) - r2) q6))])) _
        exact k)
      have p166 : Go p.tables e below _ (T149.setTop (mkF m 165 #[.val (.long q1), .second, .val (.long q2), .second, .val (.long q3), .second, .val (.long q4), .second, .val (.long q5), .second, .val (.long q6), .second, .val (.long mm), .second, .val (.long ss), .second, .val (.long hh1), .second, .val (.long r1), .second, .val (.long r2), .second, .val (.ref b120), .val (.long ((hh1 - r1) - r2)), .second, .val (.long rm), .second, .val (.int (own_hr mm ((hh1 - r1) - r2) rm)), .val (.int (0 : Int32)), .val (.int (own_hr mm ((hh1 - r1) - r2) q6))] [(.int (1 : Int32)), (.int (own_hr mm ((hh1 - r1) - r2) q6))])) := fun t k => p165 t (by
        show Steps p.tables e below (T149.setTop (mkF m 160 #[.val (.long q1), .second, .val (.long q2), .second, .val (.long q3), .second, .val (.long q4), .second, .val (.long q5), .second, .val (.long q6), .second, .val (.long mm), .second, .val (.long ss), .second, .val (.long hh1), .second, .val (.long r1), .second, .val (.long r2), .second, .val (.ref b120), .val (.long ((hh1 - r1) - r2)), .second, .val (.long rm), .second, .val (.int (own_hr mm ((hh1 - r1) - r2) rm)), .val (.int (0 : Int32)), .val (.int (own_hr mm ((hh1 - r1) - r2) q6))] [(.int (own_hr mm ((hh1 - r1) - r2) q6))])) _
        refine XS.iconst X149.here hx rfl (hb hby at_160) ?_
        show Steps p.tables e below (T149.setTop (mkF m 161 #[.val (.long q1), .second, .val (.long q2), .second, .val (.long q3), .second, .val (.long q4), .second, .val (.long q5), .second, .val (.long q6), .second, .val (.long mm), .second, .val (.long ss), .second, .val (.long hh1), .second, .val (.long r1), .second, .val (.long r2), .second, .val (.ref b120), .val (.long ((hh1 - r1) - r2)), .second, .val (.long rm), .second, .val (.int (own_hr mm ((hh1 - r1) - r2) rm)), .val (.int (0 : Int32)), .val (.int (own_hr mm ((hh1 - r1) - r2) q6))] [(.int (1 : Int32)), (.int (own_hr mm ((hh1 - r1) - r2) q6))])) _
        refine XS.goto X149.here hx rfl (pc0 := 161) (pc' := 165) rfl (hb hby at_161) (by decide) (by decide) ?_
        show Steps p.tables e below (T149.setTop (mkF m 165 #[.val (.long q1), .second, .val (.long q2), .second, .val (.long q3), .second, .val (.long q4), .second, .val (.long q5), .second, .val (.long q6), .second, .val (.long mm), .second, .val (.long ss), .second, .val (.long hh1), .second, .val (.long r1), .second, .val (.long r2), .second, .val (.ref b120), .val (.long ((hh1 - r1) - r2)), .second, .val (.long rm), .second, .val (.int (own_hr mm ((hh1 - r1) - r2) rm)), .val (.int (0 : Int32)), .val (.int (own_hr mm ((hh1 - r1) - r2) q6))] [(.int (1 : Int32)), (.int (own_hr mm ((hh1 - r1) - r2) q6))])) _
        exact k)
      have c167 : ((own_hr mm ((hh1 - r1) - r2) q6) = (1 : Int32)) := by rw [hrm] at c155; simp [own_hr, c155]
      have p168 : Go p.tables e below _ (T149.setTop (mkF m 170 #[.val (.long q1), .second, .val (.long q2), .second, .val (.long q3), .second, .val (.long q4), .second, .val (.long q5), .second, .val (.long q6), .second, .val (.long mm), .second, .val (.long ss), .second, .val (.long hh1), .second, .val (.long r1), .second, .val (.long r2), .second, .val (.ref b120), .val (.long ((hh1 - r1) - r2)), .second, .val (.long rm), .second, .val (.int (own_hr mm ((hh1 - r1) - r2) rm)), .val (.int (0 : Int32)), .val (.int (own_hr mm ((hh1 - r1) - r2) q6))] [(.ref b120)])) := fun t k => p166 t (by
        show Steps p.tables e below (T149.setTop (mkF m 165 #[.val (.long q1), .second, .val (.long q2), .second, .val (.long q3), .second, .val (.long q4), .second, .val (.long q5), .second, .val (.long q6), .second, .val (.long mm), .second, .val (.long ss), .second, .val (.long hh1), .second, .val (.long r1), .second, .val (.long r2), .second, .val (.ref b120), .val (.long ((hh1 - r1) - r2)), .second, .val (.long rm), .second, .val (.int (own_hr mm ((hh1 - r1) - r2) rm)), .val (.int (0 : Int32)), .val (.int (own_hr mm ((hh1 - r1) - r2) q6))] [(.int (1 : Int32)), (.int (own_hr mm ((hh1 - r1) - r2) q6))])) _
        refine XS.icmpNo X149.here hx rfl (hb hby at_165) rfl (teq c167).2 ?_
        show Steps p.tables e below (T149.setTop (mkF m 168 #[.val (.long q1), .second, .val (.long q2), .second, .val (.long q3), .second, .val (.long q4), .second, .val (.long q5), .second, .val (.long q6), .second, .val (.long mm), .second, .val (.long ss), .second, .val (.long hh1), .second, .val (.long r1), .second, .val (.long r2), .second, .val (.ref b120), .val (.long ((hh1 - r1) - r2)), .second, .val (.long rm), .second, .val (.int (own_hr mm ((hh1 - r1) - r2) rm)), .val (.int (0 : Int32)), .val (.int (own_hr mm ((hh1 - r1) - r2) q6))] [])) _
        refine XS.aload X149.here hx rfl (hb hby at_168) rfl rfl ?_
        show Steps p.tables e below (T149.setTop (mkF m 170 #[.val (.long q1), .second, .val (.long q2), .second, .val (.long q3), .second, .val (.long q4), .second, .val (.long q5), .second, .val (.long q6), .second, .val (.long mm), .second, .val (.long ss), .second, .val (.long hh1), .second, .val (.long r1), .second, .val (.long r2), .second, .val (.ref b120), .val (.long ((hh1 - r1) - r2)), .second, .val (.long rm), .second, .val (.int (own_hr mm ((hh1 - r1) - r2) rm)), .val (.int (0 : Int32)), .val (.int (own_hr mm ((hh1 - r1) - r2) q6))] [(.ref b120)])) _
        exact k)
      obtain ⟨cq169, kq169, q169a, q169b, q169c⟩ := isOf hZ rfl q149_E1
      obtain ⟨_, _, ⟨T169, L169, k169, n169⟩, -, X169, ⟨Lc169, hQ169, l169, y169, z169⟩, st169⟩ := X149.virtualBack hx (y := (⟨"com/example/kuusi/kuusi/core/ElementLimit", "spent", "()J"⟩ : MethodName)) (z := (⟨"com/example/kuusi/kuusi/core/ElementLimit", "spent", "()J"⟩ : MethodName)) hown (mvT hZ (own_w hw 62 rfl)) (mvT hZ (own_w hw 63 rfl)) (notFace_of_selects (args := #[]) (mvT hZ (own_w hw 65 rfl))) (mvT hZ (own_w hw 65 rfl)) (mvT hZ (own_w hw 64 rfl)) (by decide) (backOf (W := 0) (rm12 l Z a0 hw [] b120 mm ss ((hh1 - r1) - r2) T149.heap n0 (Nat.le_trans Z0 K150.1) q149_F0 q149_F1 q149_F2 q149_F3 q149_F4 q149_F5 q149_E1) hZ (own_w hw 66 rfl) (own_w hw 7 rfl) (by decide) (by decide)) q169a q169c (g := (mkF m 170 #[.val (.long q1), .second, .val (.long q2), .second, .val (.long q3), .second, .val (.long q4), .second, .val (.long q5), .second, .val (.long q6), .second, .val (.long mm), .second, .val (.long ss), .second, .val (.long hh1), .second, .val (.long r1), .second, .val (.long r2), .second, .val (.ref b120), .val (.long ((hh1 - r1) - r2)), .second, .val (.long rm), .second, .val (.int (own_hr mm ((hh1 - r1) - r2) rm)), .val (.int (0 : Int32)), .val (.int (own_hr mm ((hh1 - r1) - r2) q6))] [(.ref b120)])) rfl (by rw [hml]; rfl) (Steps.refl _) (argsL := []) (rest := []) (lenOf pd5 rfl) rfl (by show 2 * 0 + _ ≤ _; exact Nat.le_of_eq rfl) (hb hby at_170) (fun _ _ => ⟨rfl, rfl, (by decide : 1 + 0 ≤ _), (by decide : 6 + 0 ≤ _)⟩)
      dsimp only [Pt.U, Pt.locs, Pt.cells, Pt.slots] at X169 l169 y169 z169 st169 hQ169
      subst l169 y169 z169
      obtain ⟨rfl, N169q, q169_hh⟩ := hQ169
      have N169 := Fr.app N149 N169q
      have p170 : Go p.tables e below _ (T169.setTop (mkF m 173 #[.val (.long q1), .second, .val (.long q2), .second, .val (.long q3), .second, .val (.long q4), .second, .val (.long q5), .second, .val (.long q6), .second, .val (.long mm), .second, .val (.long ss), .second, .val (.long hh1), .second, .val (.long r1), .second, .val (.long r2), .second, .val (.ref b120), .val (.long ((hh1 - r1) - r2)), .second, .val (.long rm), .second, .val (.int (own_hr mm ((hh1 - r1) - r2) rm)), .val (.int (0 : Int32)), .val (.int (own_hr mm ((hh1 - r1) - r2) q6))] [(.long (0 : Int64))])) := fun t k => p168 t (st169.trans k)
      have p171 : Go p.tables e below _ (T169.setTop (mkF m 175 #[.val (.long q1), .second, .val (.long q2), .second, .val (.long q3), .second, .val (.long q4), .second, .val (.long q5), .second, .val (.long q6), .second, .val (.long mm), .second, .val (.long ss), .second, .val (.long hh1), .second, .val (.long r1), .second, .val (.long r2), .second, .val (.ref b120), .val (.long ((hh1 - r1) - r2)), .second, .val (.long rm), .second, .val (.int (own_hr mm ((hh1 - r1) - r2) rm)), .val (.int (0 : Int32)), .val (.int (own_hr mm ((hh1 - r1) - r2) q6))] [(.int (lcmpW (0 : Int64) (0 : Int64)))])) := fun t k => p170 t (by
        show Steps p.tables e below (T169.setTop (mkF m 173 #[.val (.long q1), .second, .val (.long q2), .second, .val (.long q3), .second, .val (.long q4), .second, .val (.long q5), .second, .val (.long q6), .second, .val (.long mm), .second, .val (.long ss), .second, .val (.long hh1), .second, .val (.long r1), .second, .val (.long r2), .second, .val (.ref b120), .val (.long ((hh1 - r1) - r2)), .second, .val (.long rm), .second, .val (.int (own_hr mm ((hh1 - r1) - r2) rm)), .val (.int (0 : Int32)), .val (.int (own_hr mm ((hh1 - r1) - r2) q6))] [(.long (0 : Int64))])) _
        refine XS.lconst X169.here hx rfl (hb hby at_173) ?_
        show Steps p.tables e below (T169.setTop (mkF m 174 #[.val (.long q1), .second, .val (.long q2), .second, .val (.long q3), .second, .val (.long q4), .second, .val (.long q5), .second, .val (.long q6), .second, .val (.long mm), .second, .val (.long ss), .second, .val (.long hh1), .second, .val (.long r1), .second, .val (.long r2), .second, .val (.ref b120), .val (.long ((hh1 - r1) - r2)), .second, .val (.long rm), .second, .val (.int (own_hr mm ((hh1 - r1) - r2) rm)), .val (.int (0 : Int32)), .val (.int (own_hr mm ((hh1 - r1) - r2) q6))] [(.long (0 : Int64)), (.long (0 : Int64))])) _
        refine XS.lcmp X169.here hx rfl (hb hby at_174) rfl ?_
        show Steps p.tables e below (T169.setTop (mkF m 175 #[.val (.long q1), .second, .val (.long q2), .second, .val (.long q3), .second, .val (.long q4), .second, .val (.long q5), .second, .val (.long q6), .second, .val (.long mm), .second, .val (.long ss), .second, .val (.long hh1), .second, .val (.long r1), .second, .val (.long r2), .second, .val (.ref b120), .val (.long ((hh1 - r1) - r2)), .second, .val (.long rm), .second, .val (.int (own_hr mm ((hh1 - r1) - r2) rm)), .val (.int (0 : Int32)), .val (.int (own_hr mm ((hh1 - r1) - r2) q6))] [(.int (lcmpW (0 : Int64) (0 : Int64)))])) _
        exact k)
      have c172 : ((0 : Int64) = (0 : Int64)) := rfl
      have p173 : Go p.tables e below _ (T169.setTop (mkF m 183 #[.val (.long q1), .second, .val (.long q2), .second, .val (.long q3), .second, .val (.long q4), .second, .val (.long q5), .second, .val (.long q6), .second, .val (.long mm), .second, .val (.long ss), .second, .val (.long hh1), .second, .val (.long r1), .second, .val (.long r2), .second, .val (.ref b120), .val (.long ((hh1 - r1) - r2)), .second, .val (.long rm), .second, .val (.int (own_hr mm ((hh1 - r1) - r2) rm)), .val (.int (0 : Int32)), .val (.int (own_hr mm ((hh1 - r1) - r2) q6))] [(.int (1 : Int32))])) := fun t k => p171 t (by
        show Steps p.tables e below (T169.setTop (mkF m 175 #[.val (.long q1), .second, .val (.long q2), .second, .val (.long q3), .second, .val (.long q4), .second, .val (.long q5), .second, .val (.long q6), .second, .val (.long mm), .second, .val (.long ss), .second, .val (.long hh1), .second, .val (.long r1), .second, .val (.long r2), .second, .val (.ref b120), .val (.long ((hh1 - r1) - r2)), .second, .val (.long rm), .second, .val (.int (own_hr mm ((hh1 - r1) - r2) rm)), .val (.int (0 : Int32)), .val (.int (own_hr mm ((hh1 - r1) - r2) q6))] [(.int (lcmpW (0 : Int64) (0 : Int64)))])) _
        refine XS.ifNo X169.here hx rfl (hb hby at_175) rfl ((if0 _ _).trans (teq ((lw_eq _ _).mpr c172)).2) ?_
        show Steps p.tables e below (T169.setTop (mkF m 178 #[.val (.long q1), .second, .val (.long q2), .second, .val (.long q3), .second, .val (.long q4), .second, .val (.long q5), .second, .val (.long q6), .second, .val (.long mm), .second, .val (.long ss), .second, .val (.long hh1), .second, .val (.long r1), .second, .val (.long r2), .second, .val (.ref b120), .val (.long ((hh1 - r1) - r2)), .second, .val (.long rm), .second, .val (.int (own_hr mm ((hh1 - r1) - r2) rm)), .val (.int (0 : Int32)), .val (.int (own_hr mm ((hh1 - r1) - r2) q6))] [])) _
        refine XS.iconst X169.here hx rfl (hb hby at_178) ?_
        show Steps p.tables e below (T169.setTop (mkF m 179 #[.val (.long q1), .second, .val (.long q2), .second, .val (.long q3), .second, .val (.long q4), .second, .val (.long q5), .second, .val (.long q6), .second, .val (.long mm), .second, .val (.long ss), .second, .val (.long hh1), .second, .val (.long r1), .second, .val (.long r2), .second, .val (.ref b120), .val (.long ((hh1 - r1) - r2)), .second, .val (.long rm), .second, .val (.int (own_hr mm ((hh1 - r1) - r2) rm)), .val (.int (0 : Int32)), .val (.int (own_hr mm ((hh1 - r1) - r2) q6))] [(.int (1 : Int32))])) _
        refine XS.goto X169.here hx rfl (pc0 := 179) (pc' := 183) rfl (hb hby at_179) (by decide) (by decide) ?_
        show Steps p.tables e below (T169.setTop (mkF m 183 #[.val (.long q1), .second, .val (.long q2), .second, .val (.long q3), .second, .val (.long q4), .second, .val (.long q5), .second, .val (.long q6), .second, .val (.long mm), .second, .val (.long ss), .second, .val (.long hh1), .second, .val (.long r1), .second, .val (.long r2), .second, .val (.ref b120), .val (.long ((hh1 - r1) - r2)), .second, .val (.long rm), .second, .val (.int (own_hr mm ((hh1 - r1) - r2) rm)), .val (.int (0 : Int32)), .val (.int (own_hr mm ((hh1 - r1) - r2) q6))] [(.int (1 : Int32))])) _
        exact k)
      obtain ⟨fs, hr, hrun, hended, hW, hsame⟩ := X169.leave (v := some (.int (1 : Int32))) (fun h => by rw [Bd.returns] at h; cases h)
      refine ⟨_, _, p173 _ (retN X169 hx (t := .boolean) Bd.returns (by simp) (hb hby at_183) hr), hrun, hended, _, _, rfl, ?_, ⟨_, rfl⟩, hW, hsame.mono (by decide) (by decide)⟩
      show Q0 Z q1 q2 q3 q4 q5 q6 h0 n0 _ T169.heap _
      rw [q169_hh]
      exact ⟨rfl, N169⟩
  · have p174 : Go p.tables e below _ (T142.setTop (mkF m 118 #[.val (.long q1), .second, .val (.long q2), .second, .val (.long q3), .second, .val (.long q4), .second, .val (.long q5), .second, .val (.long q6), .second, .val (.long mm), .second, .val (.long ss), .second, .val (.long hh1), .second, .val (.long r1), .second, .val (.long r2), .second, .val (.ref b120), .val (.long ((hh1 - r1) - r2)), .second, .val (.long rm), .second, .val (.int (own_hr mm ((hh1 - r1) - r2) rm)), .unset, .unset] [])) := fun t k => p145 t (by
      show Steps p.tables e below (T142.setTop (mkF m 111 #[.val (.long q1), .second, .val (.long q2), .second, .val (.long q3), .second, .val (.long q4), .second, .val (.long q5), .second, .val (.long q6), .second, .val (.long mm), .second, .val (.long ss), .second, .val (.long hh1), .second, .val (.long r1), .second, .val (.long r2), .second, .val (.ref b120), .val (.long ((hh1 - r1) - r2)), .second, .val (.long rm), .second, .val (.int (own_hr mm ((hh1 - r1) - r2) rm)), .unset, .unset] [(.int (lcmpW rm (9223372036854775807 : Int64)))])) _
      refine XS.ifYes X142.here hx rfl (pc0 := 111) (pc' := 118) rfl (hb hby at_111) rfl ((if0 _ _).trans (feq (mt (lw_eq _ _).mp c146)).2) (by decide) (by decide) ?_
      show Steps p.tables e below (T142.setTop (mkF m 118 #[.val (.long q1), .second, .val (.long q2), .second, .val (.long q3), .second, .val (.long q4), .second, .val (.long q5), .second, .val (.long q6), .second, .val (.long mm), .second, .val (.long ss), .second, .val (.long hh1), .second, .val (.long r1), .second, .val (.long r2), .second, .val (.ref b120), .val (.long ((hh1 - r1) - r2)), .second, .val (.long rm), .second, .val (.int (own_hr mm ((hh1 - r1) - r2) rm)), .unset, .unset] [])) _
      exact k)
    have p175 : Go p.tables e below _ (T142.setTop (mkF m 125 #[.val (.long q1), .second, .val (.long q2), .second, .val (.long q3), .second, .val (.long q4), .second, .val (.long q5), .second, .val (.long q6), .second, .val (.long mm), .second, .val (.long ss), .second, .val (.long hh1), .second, .val (.long r1), .second, .val (.long r2), .second, .val (.ref b120), .val (.long ((hh1 - r1) - r2)), .second, .val (.long rm), .second, .val (.int (own_hr mm ((hh1 - r1) - r2) rm)), .unset, .unset] [(.long (rm + (1 : Int64))), (.long (0 : Int64)), (.ref b120)])) := fun t k => p174 t (by
      show Steps p.tables e below (T142.setTop (mkF m 118 #[.val (.long q1), .second, .val (.long q2), .second, .val (.long q3), .second, .val (.long q4), .second, .val (.long q5), .second, .val (.long q6), .second, .val (.long mm), .second, .val (.long ss), .second, .val (.long hh1), .second, .val (.long r1), .second, .val (.long r2), .second, .val (.ref b120), .val (.long ((hh1 - r1) - r2)), .second, .val (.long rm), .second, .val (.int (own_hr mm ((hh1 - r1) - r2) rm)), .unset, .unset] [])) _
      refine XS.aload X142.here hx rfl (hb hby at_118) rfl rfl ?_
      show Steps p.tables e below (T142.setTop (mkF m 120 #[.val (.long q1), .second, .val (.long q2), .second, .val (.long q3), .second, .val (.long q4), .second, .val (.long q5), .second, .val (.long q6), .second, .val (.long mm), .second, .val (.long ss), .second, .val (.long hh1), .second, .val (.long r1), .second, .val (.long r2), .second, .val (.ref b120), .val (.long ((hh1 - r1) - r2)), .second, .val (.long rm), .second, .val (.int (own_hr mm ((hh1 - r1) - r2) rm)), .unset, .unset] [(.ref b120)])) _
      refine XS.lconst X142.here hx rfl (hb hby at_120) ?_
      show Steps p.tables e below (T142.setTop (mkF m 121 #[.val (.long q1), .second, .val (.long q2), .second, .val (.long q3), .second, .val (.long q4), .second, .val (.long q5), .second, .val (.long q6), .second, .val (.long mm), .second, .val (.long ss), .second, .val (.long hh1), .second, .val (.long r1), .second, .val (.long r2), .second, .val (.ref b120), .val (.long ((hh1 - r1) - r2)), .second, .val (.long rm), .second, .val (.int (own_hr mm ((hh1 - r1) - r2) rm)), .unset, .unset] [(.long (0 : Int64)), (.ref b120)])) _
      refine XS.lload X142.here hx rfl (hb hby at_121) rfl ?_
      show Steps p.tables e below (T142.setTop (mkF m 123 #[.val (.long q1), .second, .val (.long q2), .second, .val (.long q3), .second, .val (.long q4), .second, .val (.long q5), .second, .val (.long q6), .second, .val (.long mm), .second, .val (.long ss), .second, .val (.long hh1), .second, .val (.long r1), .second, .val (.long r2), .second, .val (.ref b120), .val (.long ((hh1 - r1) - r2)), .second, .val (.long rm), .second, .val (.int (own_hr mm ((hh1 - r1) - r2) rm)), .unset, .unset] [(.long rm), (.long (0 : Int64)), (.ref b120)])) _
      refine XS.lconst X142.here hx rfl (hb hby at_123) ?_
      show Steps p.tables e below (T142.setTop (mkF m 124 #[.val (.long q1), .second, .val (.long q2), .second, .val (.long q3), .second, .val (.long q4), .second, .val (.long q5), .second, .val (.long q6), .second, .val (.long mm), .second, .val (.long ss), .second, .val (.long hh1), .second, .val (.long r1), .second, .val (.long r2), .second, .val (.ref b120), .val (.long ((hh1 - r1) - r2)), .second, .val (.long rm), .second, .val (.int (own_hr mm ((hh1 - r1) - r2) rm)), .unset, .unset] [(.long (1 : Int64)), (.long rm), (.long (0 : Int64)), (.ref b120)])) _
      refine XS.ladd X142.here hx rfl (hb hby at_124) rfl ?_
      show Steps p.tables e below (T142.setTop (mkF m 125 #[.val (.long q1), .second, .val (.long q2), .second, .val (.long q3), .second, .val (.long q4), .second, .val (.long q5), .second, .val (.long q6), .second, .val (.long mm), .second, .val (.long ss), .second, .val (.long hh1), .second, .val (.long r1), .second, .val (.long r2), .second, .val (.ref b120), .val (.long ((hh1 - r1) - r2)), .second, .val (.long rm), .second, .val (.int (own_hr mm ((hh1 - r1) - r2) rm)), .unset, .unset] [(.long (rm + (1 : Int64))), (.long (0 : Int64)), (.ref b120)])) _
      exact k)
    obtain ⟨cq176, kq176, q176a, q176b, q176c⟩ := isOf hZ rfl q142_E1
    obtain ⟨_, _, ⟨T176, L176, k176, n176⟩, -, X176, ⟨Lc176, hQ176, l176, y176, z176⟩, st176⟩ := X142.virtualBack hx (y := (⟨"com/example/kuusi/kuusi/core/ElementLimit", "recount", "(JJ)Z"⟩ : MethodName)) (z := (⟨"com/example/kuusi/kuusi/core/ElementLimit", "recount", "(JJ)Z"⟩ : MethodName)) hown (mvT hZ (own_w hw 43 rfl)) (mvT hZ (own_w hw 44 rfl)) (notFace_of_selects (args := #[]) (mvT hZ (own_w hw 46 rfl))) (mvT hZ (own_w hw 46 rfl)) (mvT hZ (own_w hw 45 rfl)) (by decide) (backOf (W := 0) (rm8 l Z a0 hw [] b120 (rm + (1 : Int64)) mm ss ((hh1 - r1) - r2) T142.heap n0 (Nat.le_trans Z0 K143.1) q142_F0 q142_F1 q142_F2 q142_F3 q142_F4 q142_F5 q142_E1 ge_b120 (by simpa using ns)) hZ (own_w hw 47 rfl) (own_w hw 7 rfl) (by decide) (by decide)) q176a q176c (g := (mkF m 125 #[.val (.long q1), .second, .val (.long q2), .second, .val (.long q3), .second, .val (.long q4), .second, .val (.long q5), .second, .val (.long q6), .second, .val (.long mm), .second, .val (.long ss), .second, .val (.long hh1), .second, .val (.long r1), .second, .val (.long r2), .second, .val (.ref b120), .val (.long ((hh1 - r1) - r2)), .second, .val (.long rm), .second, .val (.int (own_hr mm ((hh1 - r1) - r2) rm)), .unset, .unset] [(.long (rm + (1 : Int64))), (.long (0 : Int64)), (.ref b120)])) rfl (by rw [hml]; rfl) (Steps.refl _) (argsL := [(.long (0 : Int64)), (.long (rm + (1 : Int64)))]) (rest := []) (lenOf pd4 rfl) rfl (by show 2 * 0 + _ ≤ _; exact Nat.le_of_eq rfl) (hb hby at_125) (fun _ _ => ⟨rfl, rfl, (by decide : 1 + 0 ≤ _), (by decide : 6 + 0 ≤ _)⟩)
    dsimp only [Pt.U, Pt.locs, Pt.cells, Pt.slots] at X176 l176 y176 z176 st176 hQ176
    subst l176 y176 z176
    obtain ⟨rfl, N176q, q176_K, q176_F0, q176_F1, q176_F2, q176_F3, q176_F4, q176_F5, q176_E1⟩ := hQ176
    have N176 := Fr.app N142 N176q
    have K177 : Keep h0 T176.heap [] := K143.trans q176_K (allS (Or.inr sz_b120) all0)
    have p178 : Go p.tables e below _ (T176.setTop (mkF m 128 #[.val (.long q1), .second, .val (.long q2), .second, .val (.long q3), .second, .val (.long q4), .second, .val (.long q5), .second, .val (.long q6), .second, .val (.long mm), .second, .val (.long ss), .second, .val (.long hh1), .second, .val (.long r1), .second, .val (.long r2), .second, .val (.ref b120), .val (.long ((hh1 - r1) - r2)), .second, .val (.long rm), .second, .val (.int (own_hr mm ((hh1 - r1) - r2) rm)), .unset, .unset] [(.int (own_hr mm ((hh1 - r1) - r2) (rm + (1 : Int64))))])) := fun t k => p175 t (st176.trans k)
    have p179 : Go p.tables e below _ (T176.setTop (mkF m 135 #[.val (.long q1), .second, .val (.long q2), .second, .val (.long q3), .second, .val (.long q4), .second, .val (.long q5), .second, .val (.long q6), .second, .val (.long mm), .second, .val (.long ss), .second, .val (.long hh1), .second, .val (.long r1), .second, .val (.long r2), .second, .val (.ref b120), .val (.long ((hh1 - r1) - r2)), .second, .val (.long rm), .second, .val (.int (own_hr mm ((hh1 - r1) - r2) rm)), .val (.int (own_hr mm ((hh1 - r1) - r2) (rm + (1 : Int64)))), .unset] [(.long q6), (.long (0 : Int64)), (.ref b120)])) := fun t k => p178 t (by
      show Steps p.tables e below (T176.setTop (mkF m 128 #[.val (.long q1), .second, .val (.long q2), .second, .val (.long q3), .second, .val (.long q4), .second, .val (.long q5), .second, .val (.long q6), .second, .val (.long mm), .second, .val (.long ss), .second, .val (.long hh1), .second, .val (.long r1), .second, .val (.long r2), .second, .val (.ref b120), .val (.long ((hh1 - r1) - r2)), .second, .val (.long rm), .second, .val (.int (own_hr mm ((hh1 - r1) - r2) rm)), .unset, .unset] [(.int (own_hr mm ((hh1 - r1) - r2) (rm + (1 : Int64))))])) _
      refine XS.istore X176.here hx rfl (hb hby at_128) rfl (l' := #[.val (.long q1), .second, .val (.long q2), .second, .val (.long q3), .second, .val (.long q4), .second, .val (.long q5), .second, .val (.long q6), .second, .val (.long mm), .second, .val (.long ss), .second, .val (.long hh1), .second, .val (.long r1), .second, .val (.long r2), .second, .val (.ref b120), .val (.long ((hh1 - r1) - r2)), .second, .val (.long rm), .second, .val (.int (own_hr mm ((hh1 - r1) - r2) rm)), .val (.int (own_hr mm ((hh1 - r1) - r2) (rm + (1 : Int64)))), .unset]) rfl ?_
      show Steps p.tables e below (T176.setTop (mkF m 130 #[.val (.long q1), .second, .val (.long q2), .second, .val (.long q3), .second, .val (.long q4), .second, .val (.long q5), .second, .val (.long q6), .second, .val (.long mm), .second, .val (.long ss), .second, .val (.long hh1), .second, .val (.long r1), .second, .val (.long r2), .second, .val (.ref b120), .val (.long ((hh1 - r1) - r2)), .second, .val (.long rm), .second, .val (.int (own_hr mm ((hh1 - r1) - r2) rm)), .val (.int (own_hr mm ((hh1 - r1) - r2) (rm + (1 : Int64)))), .unset] [])) _
      refine XS.aload X176.here hx rfl (hb hby at_130) rfl rfl ?_
      show Steps p.tables e below (T176.setTop (mkF m 132 #[.val (.long q1), .second, .val (.long q2), .second, .val (.long q3), .second, .val (.long q4), .second, .val (.long q5), .second, .val (.long q6), .second, .val (.long mm), .second, .val (.long ss), .second, .val (.long hh1), .second, .val (.long r1), .second, .val (.long r2), .second, .val (.ref b120), .val (.long ((hh1 - r1) - r2)), .second, .val (.long rm), .second, .val (.int (own_hr mm ((hh1 - r1) - r2) rm)), .val (.int (own_hr mm ((hh1 - r1) - r2) (rm + (1 : Int64)))), .unset] [(.ref b120)])) _
      refine XS.lconst X176.here hx rfl (hb hby at_132) ?_
      show Steps p.tables e below (T176.setTop (mkF m 133 #[.val (.long q1), .second, .val (.long q2), .second, .val (.long q3), .second, .val (.long q4), .second, .val (.long q5), .second, .val (.long q6), .second, .val (.long mm), .second, .val (.long ss), .second, .val (.long hh1), .second, .val (.long r1), .second, .val (.long r2), .second, .val (.ref b120), .val (.long ((hh1 - r1) - r2)), .second, .val (.long rm), .second, .val (.int (own_hr mm ((hh1 - r1) - r2) rm)), .val (.int (own_hr mm ((hh1 - r1) - r2) (rm + (1 : Int64)))), .unset] [(.long (0 : Int64)), (.ref b120)])) _
      refine XS.lload X176.here hx rfl (hb hby at_133) rfl ?_
      show Steps p.tables e below (T176.setTop (mkF m 135 #[.val (.long q1), .second, .val (.long q2), .second, .val (.long q3), .second, .val (.long q4), .second, .val (.long q5), .second, .val (.long q6), .second, .val (.long mm), .second, .val (.long ss), .second, .val (.long hh1), .second, .val (.long r1), .second, .val (.long r2), .second, .val (.ref b120), .val (.long ((hh1 - r1) - r2)), .second, .val (.long rm), .second, .val (.int (own_hr mm ((hh1 - r1) - r2) rm)), .val (.int (own_hr mm ((hh1 - r1) - r2) (rm + (1 : Int64)))), .unset] [(.long q6), (.long (0 : Int64)), (.ref b120)])) _
      exact k)
    obtain ⟨cq180, kq180, q180a, q180b, q180c⟩ := isOf hZ rfl q176_E1
    obtain ⟨_, _, ⟨T180, L180, k180, n180⟩, -, X180, ⟨Lc180, hQ180, l180, y180, z180⟩, st180⟩ := X176.virtualBack hx (y := (⟨"com/example/kuusi/kuusi/core/ElementLimit", "recount", "(JJ)Z"⟩ : MethodName)) (z := (⟨"com/example/kuusi/kuusi/core/ElementLimit", "recount", "(JJ)Z"⟩ : MethodName)) hown (mvT hZ (own_w hw 43 rfl)) (mvT hZ (own_w hw 44 rfl)) (notFace_of_selects (args := #[]) (mvT hZ (own_w hw 46 rfl))) (mvT hZ (own_w hw 46 rfl)) (mvT hZ (own_w hw 45 rfl)) (by decide) (backOf (W := 0) (rm8 l Z a0 hw [] b120 q6 mm ss ((hh1 - r1) - r2) T176.heap n0 (Nat.le_trans Z0 K177.1) q176_F0 q176_F1 q176_F2 q176_F3 q176_F4 q176_F5 q176_E1 ge_b120 (by simpa using ns)) hZ (own_w hw 47 rfl) (own_w hw 7 rfl) (by decide) (by decide)) q180a q180c (g := (mkF m 135 #[.val (.long q1), .second, .val (.long q2), .second, .val (.long q3), .second, .val (.long q4), .second, .val (.long q5), .second, .val (.long q6), .second, .val (.long mm), .second, .val (.long ss), .second, .val (.long hh1), .second, .val (.long r1), .second, .val (.long r2), .second, .val (.ref b120), .val (.long ((hh1 - r1) - r2)), .second, .val (.long rm), .second, .val (.int (own_hr mm ((hh1 - r1) - r2) rm)), .val (.int (own_hr mm ((hh1 - r1) - r2) (rm + (1 : Int64)))), .unset] [(.long q6), (.long (0 : Int64)), (.ref b120)])) rfl (by rw [hml]; rfl) (Steps.refl _) (argsL := [(.long (0 : Int64)), (.long q6)]) (rest := []) (lenOf pd4 rfl) rfl (by show 2 * 0 + _ ≤ _; exact Nat.le_of_eq rfl) (hb hby at_135) (fun _ _ => ⟨rfl, rfl, (by decide : 1 + 0 ≤ _), (by decide : 6 + 0 ≤ _)⟩)
    dsimp only [Pt.U, Pt.locs, Pt.cells, Pt.slots] at X180 l180 y180 z180 st180 hQ180
    subst l180 y180 z180
    obtain ⟨rfl, N180q, q180_K, q180_F0, q180_F1, q180_F2, q180_F3, q180_F4, q180_F5, q180_E1⟩ := hQ180
    have N180 := Fr.app N176 N180q
    have K181 : Keep h0 T180.heap [] := K177.trans q180_K (allS (Or.inr sz_b120) all0)
    have p182 : Go p.tables e below _ (T180.setTop (mkF m 138 #[.val (.long q1), .second, .val (.long q2), .second, .val (.long q3), .second, .val (.long q4), .second, .val (.long q5), .second, .val (.long q6), .second, .val (.long mm), .second, .val (.long ss), .second, .val (.long hh1), .second, .val (.long r1), .second, .val (.long r2), .second, .val (.ref b120), .val (.long ((hh1 - r1) - r2)), .second, .val (.long rm), .second, .val (.int (own_hr mm ((hh1 - r1) - r2) rm)), .val (.int (own_hr mm ((hh1 - r1) - r2) (rm + (1 : Int64)))), .unset] [(.int (own_hr mm ((hh1 - r1) - r2) q6))])) := fun t k => p179 t (st180.trans k)
    have p183 : Go p.tables e below _ (T180.setTop (mkF m 142 #[.val (.long q1), .second, .val (.long q2), .second, .val (.long q3), .second, .val (.long q4), .second, .val (.long q5), .second, .val (.long q6), .second, .val (.long mm), .second, .val (.long ss), .second, .val (.long hh1), .second, .val (.long r1), .second, .val (.long r2), .second, .val (.ref b120), .val (.long ((hh1 - r1) - r2)), .second, .val (.long rm), .second, .val (.int (own_hr mm ((hh1 - r1) - r2) rm)), .val (.int (own_hr mm ((hh1 - r1) - r2) (rm + (1 : Int64)))), .val (.int (own_hr mm ((hh1 - r1) - r2) q6))] [(.int (own_hr mm ((hh1 - r1) - r2) rm))])) := fun t k => p182 t (by
      show Steps p.tables e below (T180.setTop (mkF m 138 #[.val (.long q1), .second, .val (.long q2), .second, .val (.long q3), .second, .val (.long q4), .second, .val (.long q5), .second, .val (.long q6), .second, .val (.long mm), .second, .val (.long ss), .second, .val (.long hh1), .second, .val (.long r1), .second, .val (.long r2), .second, .val (.ref b120), .val (.long ((hh1 - r1) - r2)), .second, .val (.long rm), .second, .val (.int (own_hr mm ((hh1 - r1) - r2) rm)), .val (.int (own_hr mm ((hh1 - r1) - r2) (rm + (1 : Int64)))), .unset] [(.int (own_hr mm ((hh1 - r1) - r2) q6))])) _
      refine XS.istore X180.here hx rfl (hb hby at_138) rfl (l' := #[.val (.long q1), .second, .val (.long q2), .second, .val (.long q3), .second, .val (.long q4), .second, .val (.long q5), .second, .val (.long q6), .second, .val (.long mm), .second, .val (.long ss), .second, .val (.long hh1), .second, .val (.long r1), .second, .val (.long r2), .second, .val (.ref b120), .val (.long ((hh1 - r1) - r2)), .second, .val (.long rm), .second, .val (.int (own_hr mm ((hh1 - r1) - r2) rm)), .val (.int (own_hr mm ((hh1 - r1) - r2) (rm + (1 : Int64)))), .val (.int (own_hr mm ((hh1 - r1) - r2) q6))]) rfl ?_
      show Steps p.tables e below (T180.setTop (mkF m 140 #[.val (.long q1), .second, .val (.long q2), .second, .val (.long q3), .second, .val (.long q4), .second, .val (.long q5), .second, .val (.long q6), .second, .val (.long mm), .second, .val (.long ss), .second, .val (.long hh1), .second, .val (.long r1), .second, .val (.long r2), .second, .val (.ref b120), .val (.long ((hh1 - r1) - r2)), .second, .val (.long rm), .second, .val (.int (own_hr mm ((hh1 - r1) - r2) rm)), .val (.int (own_hr mm ((hh1 - r1) - r2) (rm + (1 : Int64)))), .val (.int (own_hr mm ((hh1 - r1) - r2) q6))] [])) _
      refine XS.iload X180.here hx rfl (hb hby at_140) rfl ?_
      show Steps p.tables e below (T180.setTop (mkF m 142 #[.val (.long q1), .second, .val (.long q2), .second, .val (.long q3), .second, .val (.long q4), .second, .val (.long q5), .second, .val (.long q6), .second, .val (.long mm), .second, .val (.long ss), .second, .val (.long hh1), .second, .val (.long r1), .second, .val (.long r2), .second, .val (.ref b120), .val (.long ((hh1 - r1) - r2)), .second, .val (.long rm), .second, .val (.int (own_hr mm ((hh1 - r1) - r2) rm)), .val (.int (own_hr mm ((hh1 - r1) - r2) (rm + (1 : Int64)))), .val (.int (own_hr mm ((hh1 - r1) - r2) q6))] [(.int (own_hr mm ((hh1 - r1) - r2) rm))])) _
      exact k)
    have c184 : ¬ ((own_hr mm ((hh1 - r1) - r2) rm) = (0 : Int32)) := by rw [hrm]; simp [own_hr]
    have p185 : Go p.tables e below _ (T180.setTop (mkF m 147 #[.val (.long q1), .second, .val (.long q2), .second, .val (.long q3), .second, .val (.long q4), .second, .val (.long q5), .second, .val (.long q6), .second, .val (.long mm), .second, .val (.long ss), .second, .val (.long hh1), .second, .val (.long r1), .second, .val (.long r2), .second, .val (.ref b120), .val (.long ((hh1 - r1) - r2)), .second, .val (.long rm), .second, .val (.int (own_hr mm ((hh1 - r1) - r2) rm)), .val (.int (own_hr mm ((hh1 - r1) - r2) (rm + (1 : Int64)))), .val (.int (own_hr mm ((hh1 - r1) - r2) q6))] [(.int (own_hr mm ((hh1 - r1) - r2) (rm + (1 : Int64))))])) := fun t k => p183 t (by
      show Steps p.tables e below (T180.setTop (mkF m 142 #[.val (.long q1), .second, .val (.long q2), .second, .val (.long q3), .second, .val (.long q4), .second, .val (.long q5), .second, .val (.long q6), .second, .val (.long mm), .second, .val (.long ss), .second, .val (.long hh1), .second, .val (.long r1), .second, .val (.long r2), .second, .val (.ref b120), .val (.long ((hh1 - r1) - r2)), .second, .val (.long rm), .second, .val (.int (own_hr mm ((hh1 - r1) - r2) rm)), .val (.int (own_hr mm ((hh1 - r1) - r2) (rm + (1 : Int64)))), .val (.int (own_hr mm ((hh1 - r1) - r2) q6))] [(.int (own_hr mm ((hh1 - r1) - r2) rm))])) _
      refine XS.ifNo X180.here hx rfl (hb hby at_142) rfl ((if0 _ _).trans (feq c184).1) ?_
      show Steps p.tables e below (T180.setTop (mkF m 145 #[.val (.long q1), .second, .val (.long q2), .second, .val (.long q3), .second, .val (.long q4), .second, .val (.long q5), .second, .val (.long q6), .second, .val (.long mm), .second, .val (.long ss), .second, .val (.long hh1), .second, .val (.long r1), .second, .val (.long r2), .second, .val (.ref b120), .val (.long ((hh1 - r1) - r2)), .second, .val (.long rm), .second, .val (.int (own_hr mm ((hh1 - r1) - r2) rm)), .val (.int (own_hr mm ((hh1 - r1) - r2) (rm + (1 : Int64)))), .val (.int (own_hr mm ((hh1 - r1) - r2) q6))] [])) _
      refine XS.iload X180.here hx rfl (hb hby at_145) rfl ?_
      show Steps p.tables e below (T180.setTop (mkF m 147 #[.val (.long q1), .second, .val (.long q2), .second, .val (.long q3), .second, .val (.long q4), .second, .val (.long q5), .second, .val (.long q6), .second, .val (.long mm), .second, .val (.long ss), .second, .val (.long hh1), .second, .val (.long r1), .second, .val (.long r2), .second, .val (.ref b120), .val (.long ((hh1 - r1) - r2)), .second, .val (.long rm), .second, .val (.int (own_hr mm ((hh1 - r1) - r2) rm)), .val (.int (own_hr mm ((hh1 - r1) - r2) (rm + (1 : Int64)))), .val (.int (own_hr mm ((hh1 - r1) - r2) q6))] [(.int (own_hr mm ((hh1 - r1) - r2) (rm + (1 : Int64))))])) _
      exact k)
    have c186 : ((own_hr mm ((hh1 - r1) - r2) (rm + (1 : Int64))) = (0 : Int32)) := by rw [hrm] at c146 ⊢; simp [own_hr, own_succ _ c146]
    have p187 : Go p.tables e below _ (T180.setTop (mkF m 157 #[.val (.long q1), .second, .val (.long q2), .second, .val (.long q3), .second, .val (.long q4), .second, .val (.long q5), .second, .val (.long q6), .second, .val (.long mm), .second, .val (.long ss), .second, .val (.long hh1), .second, .val (.long r1), .second, .val (.long r2), .second, .val (.ref b120), .val (.long ((hh1 - r1) - r2)), .second, .val (.long rm), .second, .val (.int (own_hr mm ((hh1 - r1) - r2) rm)), .val (.int (own_hr mm ((hh1 - r1) - r2) (rm + (1 : Int64)))), .val (.int (own_hr mm ((hh1 - r1) - r2) q6))] [(.int (lcmpW q6 rm)), (.int (own_hr mm ((hh1 - r1) - r2) q6))])) := fun t k => p185 t (by
      show Steps p.tables e below (T180.setTop (mkF m 147 #[.val (.long q1), .second, .val (.long q2), .second, .val (.long q3), .second, .val (.long q4), .second, .val (.long q5), .second, .val (.long q6), .second, .val (.long mm), .second, .val (.long ss), .second, .val (.long hh1), .second, .val (.long r1), .second, .val (.long r2), .second, .val (.ref b120), .val (.long ((hh1 - r1) - r2)), .second, .val (.long rm), .second, .val (.int (own_hr mm ((hh1 - r1) - r2) rm)), .val (.int (own_hr mm ((hh1 - r1) - r2) (rm + (1 : Int64)))), .val (.int (own_hr mm ((hh1 - r1) - r2) q6))] [(.int (own_hr mm ((hh1 - r1) - r2) (rm + (1 : Int64))))])) _
      refine XS.ifNo X180.here hx rfl (hb hby at_147) rfl ((if0 _ _).trans (teq c186).2) ?_
      show Steps p.tables e below (T180.setTop (mkF m 150 #[.val (.long q1), .second, .val (.long q2), .second, .val (.long q3), .second, .val (.long q4), .second, .val (.long q5), .second, .val (.long q6), .second, .val (.long mm), .second, .val (.long ss), .second, .val (.long hh1), .second, .val (.long r1), .second, .val (.long r2), .second, .val (.ref b120), .val (.long ((hh1 - r1) - r2)), .second, .val (.long rm), .second, .val (.int (own_hr mm ((hh1 - r1) - r2) rm)), .val (.int (own_hr mm ((hh1 - r1) - r2) (rm + (1 : Int64)))), .val (.int (own_hr mm ((hh1 - r1) - r2) q6))] [])) _
      refine XS.iload X180.here hx rfl (hb hby at_150) rfl ?_
      show Steps p.tables e below (T180.setTop (mkF m 152 #[.val (.long q1), .second, .val (.long q2), .second, .val (.long q3), .second, .val (.long q4), .second, .val (.long q5), .second, .val (.long q6), .second, .val (.long mm), .second, .val (.long ss), .second, .val (.long hh1), .second, .val (.long r1), .second, .val (.long r2), .second, .val (.ref b120), .val (.long ((hh1 - r1) - r2)), .second, .val (.long rm), .second, .val (.int (own_hr mm ((hh1 - r1) - r2) rm)), .val (.int (own_hr mm ((hh1 - r1) - r2) (rm + (1 : Int64)))), .val (.int (own_hr mm ((hh1 - r1) - r2) q6))] [(.int (own_hr mm ((hh1 - r1) - r2) q6))])) _
      refine XS.lload X180.here hx rfl (hb hby at_152) rfl ?_
      show Steps p.tables e below (T180.setTop (mkF m 154 #[.val (.long q1), .second, .val (.long q2), .second, .val (.long q3), .second, .val (.long q4), .second, .val (.long q5), .second, .val (.long q6), .second, .val (.long mm), .second, .val (.long ss), .second, .val (.long hh1), .second, .val (.long r1), .second, .val (.long r2), .second, .val (.ref b120), .val (.long ((hh1 - r1) - r2)), .second, .val (.long rm), .second, .val (.int (own_hr mm ((hh1 - r1) - r2) rm)), .val (.int (own_hr mm ((hh1 - r1) - r2) (rm + (1 : Int64)))), .val (.int (own_hr mm ((hh1 - r1) - r2) q6))] [(.long q6), (.int (own_hr mm ((hh1 - r1) - r2) q6))])) _
      refine XS.lload X180.here hx rfl (hb hby at_154) rfl ?_
      show Steps p.tables e below (T180.setTop (mkF m 156 #[.val (.long q1), .second, .val (.long q2), .second, .val (.long q3), .second, .val (.long q4), .second, .val (.long q5), .second, .val (.long q6), .second, .val (.long mm), .second, .val (.long ss), .second, .val (.long hh1), .second, .val (.long r1), .second, .val (.long r2), .second, .val (.ref b120), .val (.long ((hh1 - r1) - r2)), .second, .val (.long rm), .second, .val (.int (own_hr mm ((hh1 - r1) - r2) rm)), .val (.int (own_hr mm ((hh1 - r1) - r2) (rm + (1 : Int64)))), .val (.int (own_hr mm ((hh1 - r1) - r2) q6))] [(.long rm), (.long q6), (.int (own_hr mm ((hh1 - r1) - r2) q6))])) _
      refine XS.lcmp X180.here hx rfl (hb hby at_156) rfl ?_
      show Steps p.tables e below (T180.setTop (mkF m 157 #[.val (.long q1), .second, .val (.long q2), .second, .val (.long q3), .second, .val (.long q4), .second, .val (.long q5), .second, .val (.long q6), .second, .val (.long mm), .second, .val (.long ss), .second, .val (.long hh1), .second, .val (.long r1), .second, .val (.long r2), .second, .val (.ref b120), .val (.long ((hh1 - r1) - r2)), .second, .val (.long rm), .second, .val (.int (own_hr mm ((hh1 - r1) - r2) rm)), .val (.int (own_hr mm ((hh1 - r1) - r2) (rm + (1 : Int64)))), .val (.int (own_hr mm ((hh1 - r1) - r2) q6))] [(.int (lcmpW q6 rm)), (.int (own_hr mm ((hh1 - r1) - r2) q6))])) _
      exact k)
    by_cases c188 : rm < q6
    · have p189 : Go p.tables e below _ (T180.setTop (mkF m 164 #[.val (.long q1), .second, .val (.long q2), .second, .val (.long q3), .second, .val (.long q4), .second, .val (.long q5), .second, .val (.long q6), .second, .val (.long mm), .second, .val (.long ss), .second, .val (.long hh1), .second, .val (.long r1), .second, .val (.long r2), .second, .val (.ref b120), .val (.long ((hh1 - r1) - r2)), .second, .val (.long rm), .second, .val (.int (own_hr mm ((hh1 - r1) - r2) rm)), .val (.int (own_hr mm ((hh1 - r1) - r2) (rm + (1 : Int64)))), .val (.int (own_hr mm ((hh1 - r1) - r2) q6))] [(.int (own_hr mm ((hh1 - r1) - r2) q6))])) := fun t k => p187 t (by
        show Steps p.tables e below (T180.setTop (mkF m 157 #[.val (.long q1), .second, .val (.long q2), .second, .val (.long q3), .second, .val (.long q4), .second, .val (.long q5), .second, .val (.long q6), .second, .val (.long mm), .second, .val (.long ss), .second, .val (.long hh1), .second, .val (.long r1), .second, .val (.long r2), .second, .val (.ref b120), .val (.long ((hh1 - r1) - r2)), .second, .val (.long rm), .second, .val (.int (own_hr mm ((hh1 - r1) - r2) rm)), .val (.int (own_hr mm ((hh1 - r1) - r2) (rm + (1 : Int64)))), .val (.int (own_hr mm ((hh1 - r1) - r2) q6))] [(.int (lcmpW q6 rm)), (.int (own_hr mm ((hh1 - r1) - r2) q6))])) _
        refine XS.ifYes X180.here hx rfl (pc0 := 157) (pc' := 164) rfl (hb hby at_157) rfl ((if0 _ _).trans (tlt ((lw_gt _ _).mpr c188)).2.2.1) (by decide) (by decide) ?_
        show Steps p.tables e below (T180.setTop (mkF m 164 #[.val (.long q1), .second, .val (.long q2), .second, .val (.long q3), .second, .val (.long q4), .second, .val (.long q5), .second, .val (.long q6), .second, .val (.long mm), .second, .val (.long ss), .second, .val (.long hh1), .second, .val (.long r1), .second, .val (.long r2), .second, .val (.ref b120), .val (.long ((hh1 - r1) - r2)), .second, .val (.long rm), .second, .val (.int (own_hr mm ((hh1 - r1) - r2) rm)), .val (.int (own_hr mm ((hh1 - r1) - r2) (rm + (1 : Int64)))), .val (.int (own_hr mm ((hh1 - r1) - r2) q6))] [(.int (own_hr mm ((hh1 - r1) - r2) q6))])) _
        exact k)
      have p190 : Go p.tables e below _ (T180.setTop (mkF m 165 #[.val (.long q1), .second, .val (.long q2), .second, .val (.long q3), .second, .val (.long q4), .second, .val (.long q5), .second, .val (.long q6), .second, .val (.long mm), .second, .val (.long ss), .second, .val (.long hh1), .second, .val (.long r1), .second, .val (.long r2), .second, .val (.ref b120), .val (.long ((hh1 - r1) - r2)), .second, .val (.long rm), .second, .val (.int (own_hr mm ((hh1 - r1) - r2) rm)), .val (.int (own_hr mm ((hh1 - r1) - r2) (rm + (1 : Int64)))), .val (.int (own_hr mm ((hh1 - r1) - r2) q6))] [(.int (0 : Int32)), (.int (own_hr mm ((hh1 - r1) - r2) q6))])) := fun t k => p189 t (by
        show Steps p.tables e below (T180.setTop (mkF m 164 #[.val (.long q1), .second, .val (.long q2), .second, .val (.long q3), .second, .val (.long q4), .second, .val (.long q5), .second, .val (.long q6), .second, .val (.long mm), .second, .val (.long ss), .second, .val (.long hh1), .second, .val (.long r1), .second, .val (.long r2), .second, .val (.ref b120), .val (.long ((hh1 - r1) - r2)), .second, .val (.long rm), .second, .val (.int (own_hr mm ((hh1 - r1) - r2) rm)), .val (.int (own_hr mm ((hh1 - r1) - r2) (rm + (1 : Int64)))), .val (.int (own_hr mm ((hh1 - r1) - r2) q6))] [(.int (own_hr mm ((hh1 - r1) - r2) q6))])) _
        refine XS.iconst X180.here hx rfl (hb hby at_164) ?_
        show Steps p.tables e below (T180.setTop (mkF m 165 #[.val (.long q1), .second, .val (.long q2), .second, .val (.long q3), .second, .val (.long q4), .second, .val (.long q5), .second, .val (.long q6), .second, .val (.long mm), .second, .val (.long ss), .second, .val (.long hh1), .second, .val (.long r1), .second, .val (.long r2), .second, .val (.ref b120), .val (.long ((hh1 - r1) - r2)), .second, .val (.long rm), .second, .val (.int (own_hr mm ((hh1 - r1) - r2) rm)), .val (.int (own_hr mm ((hh1 - r1) - r2) (rm + (1 : Int64)))), .val (.int (own_hr mm ((hh1 - r1) - r2) q6))] [(.int (0 : Int32)), (.int (own_hr mm ((hh1 - r1) - r2) q6))])) _
        exact k)
      have c191 : ((own_hr mm ((hh1 - r1) - r2) q6) = (0 : Int32)) := by rw [hrm] at c188; simp [own_hr, c188]
      have p192 : Go p.tables e below _ (T180.setTop (mkF m 170 #[.val (.long q1), .second, .val (.long q2), .second, .val (.long q3), .second, .val (.long q4), .second, .val (.long q5), .second, .val (.long q6), .second, .val (.long mm), .second, .val (.long ss), .second, .val (.long hh1), .second, .val (.long r1), .second, .val (.long r2), .second, .val (.ref b120), .val (.long ((hh1 - r1) - r2)), .second, .val (.long rm), .second, .val (.int (own_hr mm ((hh1 - r1) - r2) rm)), .val (.int (own_hr mm ((hh1 - r1) - r2) (rm + (1 : Int64)))), .val (.int (own_hr mm ((hh1 - r1) - r2) q6))] [(.ref b120)])) := fun t k => p190 t (by
        show Steps p.tables e below (T180.setTop (mkF m 165 #[.val (.long q1), .second, .val (.long q2), .second, .val (.long q3), .second, .val (.long q4), .second, .val (.long q5), .second, .val (.long q6), .second, .val (.long mm), .second, .val (.long ss), .second, .val (.long hh1), .second, .val (.long r1), .second, .val (.long r2), .second, .val (.ref b120), .val (.long ((hh1 - r1) - r2)), .second, .val (.long rm), .second, .val (.int (own_hr mm ((hh1 - r1) - r2) rm)), .val (.int (own_hr mm ((hh1 - r1) - r2) (rm + (1 : Int64)))), .val (.int (own_hr mm ((hh1 - r1) - r2) q6))] [(.int (0 : Int32)), (.int (own_hr mm ((hh1 - r1) - r2) q6))])) _
        refine XS.icmpNo X180.here hx rfl (hb hby at_165) rfl (teq c191).2 ?_
        show Steps p.tables e below (T180.setTop (mkF m 168 #[.val (.long q1), .second, .val (.long q2), .second, .val (.long q3), .second, .val (.long q4), .second, .val (.long q5), .second, .val (.long q6), .second, .val (.long mm), .second, .val (.long ss), .second, .val (.long hh1), .second, .val (.long r1), .second, .val (.long r2), .second, .val (.ref b120), .val (.long ((hh1 - r1) - r2)), .second, .val (.long rm), .second, .val (.int (own_hr mm ((hh1 - r1) - r2) rm)), .val (.int (own_hr mm ((hh1 - r1) - r2) (rm + (1 : Int64)))), .val (.int (own_hr mm ((hh1 - r1) - r2) q6))] [])) _
        refine XS.aload X180.here hx rfl (hb hby at_168) rfl rfl ?_
        show Steps p.tables e below (T180.setTop (mkF m 170 #[.val (.long q1), .second, .val (.long q2), .second, .val (.long q3), .second, .val (.long q4), .second, .val (.long q5), .second, .val (.long q6), .second, .val (.long mm), .second, .val (.long ss), .second, .val (.long hh1), .second, .val (.long r1), .second, .val (.long r2), .second, .val (.ref b120), .val (.long ((hh1 - r1) - r2)), .second, .val (.long rm), .second, .val (.int (own_hr mm ((hh1 - r1) - r2) rm)), .val (.int (own_hr mm ((hh1 - r1) - r2) (rm + (1 : Int64)))), .val (.int (own_hr mm ((hh1 - r1) - r2) q6))] [(.ref b120)])) _
        exact k)
      obtain ⟨cq193, kq193, q193a, q193b, q193c⟩ := isOf hZ rfl q180_E1
      obtain ⟨_, _, ⟨T193, L193, k193, n193⟩, -, X193, ⟨Lc193, hQ193, l193, y193, z193⟩, st193⟩ := X180.virtualBack hx (y := (⟨"com/example/kuusi/kuusi/core/ElementLimit", "spent", "()J"⟩ : MethodName)) (z := (⟨"com/example/kuusi/kuusi/core/ElementLimit", "spent", "()J"⟩ : MethodName)) hown (mvT hZ (own_w hw 62 rfl)) (mvT hZ (own_w hw 63 rfl)) (notFace_of_selects (args := #[]) (mvT hZ (own_w hw 65 rfl))) (mvT hZ (own_w hw 65 rfl)) (mvT hZ (own_w hw 64 rfl)) (by decide) (backOf (W := 0) (rm12 l Z a0 hw [] b120 mm ss ((hh1 - r1) - r2) T180.heap n0 (Nat.le_trans Z0 K181.1) q180_F0 q180_F1 q180_F2 q180_F3 q180_F4 q180_F5 q180_E1) hZ (own_w hw 66 rfl) (own_w hw 7 rfl) (by decide) (by decide)) q193a q193c (g := (mkF m 170 #[.val (.long q1), .second, .val (.long q2), .second, .val (.long q3), .second, .val (.long q4), .second, .val (.long q5), .second, .val (.long q6), .second, .val (.long mm), .second, .val (.long ss), .second, .val (.long hh1), .second, .val (.long r1), .second, .val (.long r2), .second, .val (.ref b120), .val (.long ((hh1 - r1) - r2)), .second, .val (.long rm), .second, .val (.int (own_hr mm ((hh1 - r1) - r2) rm)), .val (.int (own_hr mm ((hh1 - r1) - r2) (rm + (1 : Int64)))), .val (.int (own_hr mm ((hh1 - r1) - r2) q6))] [(.ref b120)])) rfl (by rw [hml]; rfl) (Steps.refl _) (argsL := []) (rest := []) (lenOf pd5 rfl) rfl (by show 2 * 0 + _ ≤ _; exact Nat.le_of_eq rfl) (hb hby at_170) (fun _ _ => ⟨rfl, rfl, (by decide : 1 + 0 ≤ _), (by decide : 6 + 0 ≤ _)⟩)
      dsimp only [Pt.U, Pt.locs, Pt.cells, Pt.slots] at X193 l193 y193 z193 st193 hQ193
      subst l193 y193 z193
      obtain ⟨rfl, N193q, q193_hh⟩ := hQ193
      have N193 := Fr.app N180 N193q
      have p194 : Go p.tables e below _ (T193.setTop (mkF m 173 #[.val (.long q1), .second, .val (.long q2), .second, .val (.long q3), .second, .val (.long q4), .second, .val (.long q5), .second, .val (.long q6), .second, .val (.long mm), .second, .val (.long ss), .second, .val (.long hh1), .second, .val (.long r1), .second, .val (.long r2), .second, .val (.ref b120), .val (.long ((hh1 - r1) - r2)), .second, .val (.long rm), .second, .val (.int (own_hr mm ((hh1 - r1) - r2) rm)), .val (.int (own_hr mm ((hh1 - r1) - r2) (rm + (1 : Int64)))), .val (.int (own_hr mm ((hh1 - r1) - r2) q6))] [(.long (0 : Int64))])) := fun t k => p192 t (st193.trans k)
      have p195 : Go p.tables e below _ (T193.setTop (mkF m 175 #[.val (.long q1), .second, .val (.long q2), .second, .val (.long q3), .second, .val (.long q4), .second, .val (.long q5), .second, .val (.long q6), .second, .val (.long mm), .second, .val (.long ss), .second, .val (.long hh1), .second, .val (.long r1), .second, .val (.long r2), .second, .val (.ref b120), .val (.long ((hh1 - r1) - r2)), .second, .val (.long rm), .second, .val (.int (own_hr mm ((hh1 - r1) - r2) rm)), .val (.int (own_hr mm ((hh1 - r1) - r2) (rm + (1 : Int64)))), .val (.int (own_hr mm ((hh1 - r1) - r2) q6))] [(.int (lcmpW (0 : Int64) (0 : Int64)))])) := fun t k => p194 t (by
        show Steps p.tables e below (T193.setTop (mkF m 173 #[.val (.long q1), .second, .val (.long q2), .second, .val (.long q3), .second, .val (.long q4), .second, .val (.long q5), .second, .val (.long q6), .second, .val (.long mm), .second, .val (.long ss), .second, .val (.long hh1), .second, .val (.long r1), .second, .val (.long r2), .second, .val (.ref b120), .val (.long ((hh1 - r1) - r2)), .second, .val (.long rm), .second, .val (.int (own_hr mm ((hh1 - r1) - r2) rm)), .val (.int (own_hr mm ((hh1 - r1) - r2) (rm + (1 : Int64)))), .val (.int (own_hr mm ((hh1 - r1) - r2) q6))] [(.long (0 : Int64))])) _
        refine XS.lconst X193.here hx rfl (hb hby at_173) ?_
        show Steps p.tables e below (T193.setTop (mkF m 174 #[.val (.long q1), .second, .val (.long q2), .second, .val (.long q3), .second, .val (.long q4), .second, .val (.long q5), .second, .val (.long q6), .second, .val (.long mm), .second, .val (.long ss), .second, .val (.long hh1), .second, .val (.long r1), .second, .val (.long r2), .second, .val (.ref b120), .val (.long ((hh1 - r1) - r2)), .second, .val (.long rm), .second, .val (.int (own_hr mm ((hh1 - r1) - r2) rm)), .val (.int (own_hr mm ((hh1 - r1) - r2) (rm + (1 : Int64)))), .val (.int (own_hr mm ((hh1 - r1) - r2) q6))] [(.long (0 : Int64)), (.long (0 : Int64))])) _
        refine XS.lcmp X193.here hx rfl (hb hby at_174) rfl ?_
        show Steps p.tables e below (T193.setTop (mkF m 175 #[.val (.long q1), .second, .val (.long q2), .second, .val (.long q3), .second, .val (.long q4), .second, .val (.long q5), .second, .val (.long q6), .second, .val (.long mm), .second, .val (.long ss), .second, .val (.long hh1), .second, .val (.long r1), .second, .val (.long r2), .second, .val (.ref b120), .val (.long ((hh1 - r1) - r2)), .second, .val (.long rm), .second, .val (.int (own_hr mm ((hh1 - r1) - r2) rm)), .val (.int (own_hr mm ((hh1 - r1) - r2) (rm + (1 : Int64)))), .val (.int (own_hr mm ((hh1 - r1) - r2) q6))] [(.int (lcmpW (0 : Int64) (0 : Int64)))])) _
        exact k)
      have c196 : ((0 : Int64) = (0 : Int64)) := rfl
      have p197 : Go p.tables e below _ (T193.setTop (mkF m 183 #[.val (.long q1), .second, .val (.long q2), .second, .val (.long q3), .second, .val (.long q4), .second, .val (.long q5), .second, .val (.long q6), .second, .val (.long mm), .second, .val (.long ss), .second, .val (.long hh1), .second, .val (.long r1), .second, .val (.long r2), .second, .val (.ref b120), .val (.long ((hh1 - r1) - r2)), .second, .val (.long rm), .second, .val (.int (own_hr mm ((hh1 - r1) - r2) rm)), .val (.int (own_hr mm ((hh1 - r1) - r2) (rm + (1 : Int64)))), .val (.int (own_hr mm ((hh1 - r1) - r2) q6))] [(.int (1 : Int32))])) := fun t k => p195 t (by
        show Steps p.tables e below (T193.setTop (mkF m 175 #[.val (.long q1), .second, .val (.long q2), .second, .val (.long q3), .second, .val (.long q4), .second, .val (.long q5), .second, .val (.long q6), .second, .val (.long mm), .second, .val (.long ss), .second, .val (.long hh1), .second, .val (.long r1), .second, .val (.long r2), .second, .val (.ref b120), .val (.long ((hh1 - r1) - r2)), .second, .val (.long rm), .second, .val (.int (own_hr mm ((hh1 - r1) - r2) rm)), .val (.int (own_hr mm ((hh1 - r1) - r2) (rm + (1 : Int64)))), .val (.int (own_hr mm ((hh1 - r1) - r2) q6))] [(.int (lcmpW (0 : Int64) (0 : Int64)))])) _
        refine XS.ifNo X193.here hx rfl (hb hby at_175) rfl ((if0 _ _).trans (teq ((lw_eq _ _).mpr c196)).2) ?_
        show Steps p.tables e below (T193.setTop (mkF m 178 #[.val (.long q1), .second, .val (.long q2), .second, .val (.long q3), .second, .val (.long q4), .second, .val (.long q5), .second, .val (.long q6), .second, .val (.long mm), .second, .val (.long ss), .second, .val (.long hh1), .second, .val (.long r1), .second, .val (.long r2), .second, .val (.ref b120), .val (.long ((hh1 - r1) - r2)), .second, .val (.long rm), .second, .val (.int (own_hr mm ((hh1 - r1) - r2) rm)), .val (.int (own_hr mm ((hh1 - r1) - r2) (rm + (1 : Int64)))), .val (.int (own_hr mm ((hh1 - r1) - r2) q6))] [])) _
        refine XS.iconst X193.here hx rfl (hb hby at_178) ?_
        show Steps p.tables e below (T193.setTop (mkF m 179 #[.val (.long q1), .second, .val (.long q2), .second, .val (.long q3), .second, .val (.long q4), .second, .val (.long q5), .second, .val (.long q6), .second, .val (.long mm), .second, .val (.long ss), .second, .val (.long hh1), .second, .val (.long r1), .second, .val (.long r2), .second, .val (.ref b120), .val (.long ((hh1 - r1) - r2)), .second, .val (.long rm), .second, .val (.int (own_hr mm ((hh1 - r1) - r2) rm)), .val (.int (own_hr mm ((hh1 - r1) - r2) (rm + (1 : Int64)))), .val (.int (own_hr mm ((hh1 - r1) - r2) q6))] [(.int (1 : Int32))])) _
        refine XS.goto X193.here hx rfl (pc0 := 179) (pc' := 183) rfl (hb hby at_179) (by decide) (by decide) ?_
        show Steps p.tables e below (T193.setTop (mkF m 183 #[.val (.long q1), .second, .val (.long q2), .second, .val (.long q3), .second, .val (.long q4), .second, .val (.long q5), .second, .val (.long q6), .second, .val (.long mm), .second, .val (.long ss), .second, .val (.long hh1), .second, .val (.long r1), .second, .val (.long r2), .second, .val (.ref b120), .val (.long ((hh1 - r1) - r2)), .second, .val (.long rm), .second, .val (.int (own_hr mm ((hh1 - r1) - r2) rm)), .val (.int (own_hr mm ((hh1 - r1) - r2) (rm + (1 : Int64)))), .val (.int (own_hr mm ((hh1 - r1) - r2) q6))] [(.int (1 : Int32))])) _
        exact k)
      obtain ⟨fs, hr, hrun, hended, hW, hsame⟩ := X193.leave (v := some (.int (1 : Int32))) (fun h => by rw [Bd.returns] at h; cases h)
      refine ⟨_, _, p197 _ (retN X193 hx (t := .boolean) Bd.returns (by simp) (hb hby at_183) hr), hrun, hended, _, _, rfl, ?_, ⟨_, rfl⟩, hW, hsame.mono (by decide) (by decide)⟩
      show Q0 Z q1 q2 q3 q4 q5 q6 h0 n0 _ T193.heap _
      rw [q193_hh]
      exact ⟨rfl, N193⟩
    · have p198 : Go p.tables e below _ (T180.setTop (mkF m 160 #[.val (.long q1), .second, .val (.long q2), .second, .val (.long q3), .second, .val (.long q4), .second, .val (.long q5), .second, .val (.long q6), .second, .val (.long mm), .second, .val (.long ss), .second, .val (.long hh1), .second, .val (.long r1), .second, .val (.long r2), .second, .val (.ref b120), .val (.long ((hh1 - r1) - r2)), .second, .val (.long rm), .second, .val (.int (own_hr mm ((hh1 - r1) - r2) rm)), .val (.int (own_hr mm ((hh1 - r1) - r2) (rm + (1 : Int64)))), .val (.int (own_hr mm ((hh1 - r1) - r2) q6))] [(.int (own_hr mm ((hh1 - r1) - r2) q6))])) := fun t k => p187 t (by
        show Steps p.tables e below (T180.setTop (mkF m 157 #[.val (.long q1), .second, .val (.long q2), .second, .val (.long q3), .second, .val (.long q4), .second, .val (.long q5), .second, .val (.long q6), .second, .val (.long mm), .second, .val (.long ss), .second, .val (.long hh1), .second, .val (.long r1), .second, .val (.long r2), .second, .val (.ref b120), .val (.long ((hh1 - r1) - r2)), .second, .val (.long rm), .second, .val (.int (own_hr mm ((hh1 - r1) - r2) rm)), .val (.int (own_hr mm ((hh1 - r1) - r2) (rm + (1 : Int64)))), .val (.int (own_hr mm ((hh1 - r1) - r2) q6))] [(.int (lcmpW q6 rm)), (.int (own_hr mm ((hh1 - r1) - r2) q6))])) _
        refine XS.ifNo X180.here hx rfl (hb hby at_157) rfl ((if0 _ _).trans (flt (mt (lw_gt _ _).mp c188)).2.2.1) ?_
        show Steps p.tables e below (T180.setTop (mkF m 160 #[.val (.long q1), .second, .val (.long q2), .second, .val (.long q3), .second, .val (.long q4), .second, .val (.long q5), .second, .val (.long q6), .second, .val (.long mm), .second, .val (.long ss), .second, .val (.long hh1), .second, .val (.long r1), .second, .val (.long r2), .second, .val (.ref b120), .val (.long ((hh1 - r1) - r2)), .second, .val (.long rm), .second, .val (.int (own_hr mm ((hh1 - r1) - r2) rm)), .val (.int (own_hr mm ((hh1 - r1) - r2) (rm + (1 : Int64)))), .val (.int (own_hr mm ((hh1 - r1) - r2) q6))] [(.int (own_hr mm ((hh1 - r1) - r2) q6))])) _
        exact k)
      have p199 : Go p.tables e below _ (T180.setTop (mkF m 165 #[.val (.long q1), .second, .val (.long q2), .second, .val (.long q3), .second, .val (.long q4), .second, .val (.long q5), .second, .val (.long q6), .second, .val (.long mm), .second, .val (.long ss), .second, .val (.long hh1), .second, .val (.long r1), .second, .val (.long r2), .second, .val (.ref b120), .val (.long ((hh1 - r1) - r2)), .second, .val (.long rm), .second, .val (.int (own_hr mm ((hh1 - r1) - r2) rm)), .val (.int (own_hr mm ((hh1 - r1) - r2) (rm + (1 : Int64)))), .val (.int (own_hr mm ((hh1 - r1) - r2) q6))] [(.int (1 : Int32)), (.int (own_hr mm ((hh1 - r1) - r2) q6))])) := fun t k => p198 t (by
        show Steps p.tables e below (T180.setTop (mkF m 160 #[.val (.long q1), .second, .val (.long q2), .second, .val (.long q3), .second, .val (.long q4), .second, .val (.long q5), .second, .val (.long q6), .second, .val (.long mm), .second, .val (.long ss), .second, .val (.long hh1), .second, .val (.long r1), .second, .val (.long r2), .second, .val (.ref b120), .val (.long ((hh1 - r1) - r2)), .second, .val (.long rm), .second, .val (.int (own_hr mm ((hh1 - r1) - r2) rm)), .val (.int (own_hr mm ((hh1 - r1) - r2) (rm + (1 : Int64)))), .val (.int (own_hr mm ((hh1 - r1) - r2) q6))] [(.int (own_hr mm ((hh1 - r1) - r2) q6))])) _
        refine XS.iconst X180.here hx rfl (hb hby at_160) ?_
        show Steps p.tables e below (T180.setTop (mkF m 161 #[.val (.long q1), .second, .val (.long q2), .second, .val (.long q3), .second, .val (.long q4), .second, .val (.long q5), .second, .val (.long q6), .second, .val (.long mm), .second, .val (.long ss), .second, .val (.long hh1), .second, .val (.long r1), .second, .val (.long r2), .second, .val (.ref b120), .val (.long ((hh1 - r1) - r2)), .second, .val (.long rm), .second, .val (.int (own_hr mm ((hh1 - r1) - r2) rm)), .val (.int (own_hr mm ((hh1 - r1) - r2) (rm + (1 : Int64)))), .val (.int (own_hr mm ((hh1 - r1) - r2) q6))] [(.int (1 : Int32)), (.int (own_hr mm ((hh1 - r1) - r2) q6))])) _
        refine XS.goto X180.here hx rfl (pc0 := 161) (pc' := 165) rfl (hb hby at_161) (by decide) (by decide) ?_
        show Steps p.tables e below (T180.setTop (mkF m 165 #[.val (.long q1), .second, .val (.long q2), .second, .val (.long q3), .second, .val (.long q4), .second, .val (.long q5), .second, .val (.long q6), .second, .val (.long mm), .second, .val (.long ss), .second, .val (.long hh1), .second, .val (.long r1), .second, .val (.long r2), .second, .val (.ref b120), .val (.long ((hh1 - r1) - r2)), .second, .val (.long rm), .second, .val (.int (own_hr mm ((hh1 - r1) - r2) rm)), .val (.int (own_hr mm ((hh1 - r1) - r2) (rm + (1 : Int64)))), .val (.int (own_hr mm ((hh1 - r1) - r2) q6))] [(.int (1 : Int32)), (.int (own_hr mm ((hh1 - r1) - r2) q6))])) _
        exact k)
      have c200 : ((own_hr mm ((hh1 - r1) - r2) q6) = (1 : Int32)) := by rw [hrm] at c188; simp [own_hr, c188]
      have p201 : Go p.tables e below _ (T180.setTop (mkF m 170 #[.val (.long q1), .second, .val (.long q2), .second, .val (.long q3), .second, .val (.long q4), .second, .val (.long q5), .second, .val (.long q6), .second, .val (.long mm), .second, .val (.long ss), .second, .val (.long hh1), .second, .val (.long r1), .second, .val (.long r2), .second, .val (.ref b120), .val (.long ((hh1 - r1) - r2)), .second, .val (.long rm), .second, .val (.int (own_hr mm ((hh1 - r1) - r2) rm)), .val (.int (own_hr mm ((hh1 - r1) - r2) (rm + (1 : Int64)))), .val (.int (own_hr mm ((hh1 - r1) - r2) q6))] [(.ref b120)])) := fun t k => p199 t (by
        show Steps p.tables e below (T180.setTop (mkF m 165 #[.val (.long q1), .second, .val (.long q2), .second, .val (.long q3), .second, .val (.long q4), .second, .val (.long q5), .second, .val (.long q6), .second, .val (.long mm), .second, .val (.long ss), .second, .val (.long hh1), .second, .val (.long r1), .second, .val (.long r2), .second, .val (.ref b120), .val (.long ((hh1 - r1) - r2)), .second, .val (.long rm), .second, .val (.int (own_hr mm ((hh1 - r1) - r2) rm)), .val (.int (own_hr mm ((hh1 - r1) - r2) (rm + (1 : Int64)))), .val (.int (own_hr mm ((hh1 - r1) - r2) q6))] [(.int (1 : Int32)), (.int (own_hr mm ((hh1 - r1) - r2) q6))])) _
        refine XS.icmpNo X180.here hx rfl (hb hby at_165) rfl (teq c200).2 ?_
        show Steps p.tables e below (T180.setTop (mkF m 168 #[.val (.long q1), .second, .val (.long q2), .second, .val (.long q3), .second, .val (.long q4), .second, .val (.long q5), .second, .val (.long q6), .second, .val (.long mm), .second, .val (.long ss), .second, .val (.long hh1), .second, .val (.long r1), .second, .val (.long r2), .second, .val (.ref b120), .val (.long ((hh1 - r1) - r2)), .second, .val (.long rm), .second, .val (.int (own_hr mm ((hh1 - r1) - r2) rm)), .val (.int (own_hr mm ((hh1 - r1) - r2) (rm + (1 : Int64)))), .val (.int (own_hr mm ((hh1 - r1) - r2) q6))] [])) _
        refine XS.aload X180.here hx rfl (hb hby at_168) rfl rfl ?_
        show Steps p.tables e below (T180.setTop (mkF m 170 #[.val (.long q1), .second, .val (.long q2), .second, .val (.long q3), .second, .val (.long q4), .second, .val (.long q5), .second, .val (.long q6), .second, .val (.long mm), .second, .val (.long ss), .second, .val (.long hh1), .second, .val (.long r1), .second, .val (.long r2), .second, .val (.ref b120), .val (.long ((hh1 - r1) - r2)), .second, .val (.long rm), .second, .val (.int (own_hr mm ((hh1 - r1) - r2) rm)), .val (.int (own_hr mm ((hh1 - r1) - r2) (rm + (1 : Int64)))), .val (.int (own_hr mm ((hh1 - r1) - r2) q6))] [(.ref b120)])) _
        exact k)
      obtain ⟨cq202, kq202, q202a, q202b, q202c⟩ := isOf hZ rfl q180_E1
      obtain ⟨_, _, ⟨T202, L202, k202, n202⟩, -, X202, ⟨Lc202, hQ202, l202, y202, z202⟩, st202⟩ := X180.virtualBack hx (y := (⟨"com/example/kuusi/kuusi/core/ElementLimit", "spent", "()J"⟩ : MethodName)) (z := (⟨"com/example/kuusi/kuusi/core/ElementLimit", "spent", "()J"⟩ : MethodName)) hown (mvT hZ (own_w hw 62 rfl)) (mvT hZ (own_w hw 63 rfl)) (notFace_of_selects (args := #[]) (mvT hZ (own_w hw 65 rfl))) (mvT hZ (own_w hw 65 rfl)) (mvT hZ (own_w hw 64 rfl)) (by decide) (backOf (W := 0) (rm12 l Z a0 hw [] b120 mm ss ((hh1 - r1) - r2) T180.heap n0 (Nat.le_trans Z0 K181.1) q180_F0 q180_F1 q180_F2 q180_F3 q180_F4 q180_F5 q180_E1) hZ (own_w hw 66 rfl) (own_w hw 7 rfl) (by decide) (by decide)) q202a q202c (g := (mkF m 170 #[.val (.long q1), .second, .val (.long q2), .second, .val (.long q3), .second, .val (.long q4), .second, .val (.long q5), .second, .val (.long q6), .second, .val (.long mm), .second, .val (.long ss), .second, .val (.long hh1), .second, .val (.long r1), .second, .val (.long r2), .second, .val (.ref b120), .val (.long ((hh1 - r1) - r2)), .second, .val (.long rm), .second, .val (.int (own_hr mm ((hh1 - r1) - r2) rm)), .val (.int (own_hr mm ((hh1 - r1) - r2) (rm + (1 : Int64)))), .val (.int (own_hr mm ((hh1 - r1) - r2) q6))] [(.ref b120)])) rfl (by rw [hml]; rfl) (Steps.refl _) (argsL := []) (rest := []) (lenOf pd5 rfl) rfl (by show 2 * 0 + _ ≤ _; exact Nat.le_of_eq rfl) (hb hby at_170) (fun _ _ => ⟨rfl, rfl, (by decide : 1 + 0 ≤ _), (by decide : 6 + 0 ≤ _)⟩)
      dsimp only [Pt.U, Pt.locs, Pt.cells, Pt.slots] at X202 l202 y202 z202 st202 hQ202
      subst l202 y202 z202
      obtain ⟨rfl, N202q, q202_hh⟩ := hQ202
      have N202 := Fr.app N180 N202q
      have p203 : Go p.tables e below _ (T202.setTop (mkF m 173 #[.val (.long q1), .second, .val (.long q2), .second, .val (.long q3), .second, .val (.long q4), .second, .val (.long q5), .second, .val (.long q6), .second, .val (.long mm), .second, .val (.long ss), .second, .val (.long hh1), .second, .val (.long r1), .second, .val (.long r2), .second, .val (.ref b120), .val (.long ((hh1 - r1) - r2)), .second, .val (.long rm), .second, .val (.int (own_hr mm ((hh1 - r1) - r2) rm)), .val (.int (own_hr mm ((hh1 - r1) - r2) (rm + (1 : Int64)))), .val (.int (own_hr mm ((hh1 - r1) - r2) q6))] [(.long (0 : Int64))])) := fun t k => p201 t (st202.trans k)
      have p204 : Go p.tables e below _ (T202.setTop (mkF m 175 #[.val (.long q1), .second, .val (.long q2), .second, .val (.long q3), .second, .val (.long q4), .second, .val (.long q5), .second, .val (.long q6), .second, .val (.long mm), .second, .val (.long ss), .second, .val (.long hh1), .second, .val (.long r1), .second, .val (.long r2), .second, .val (.ref b120), .val (.long ((hh1 - r1) - r2)), .second, .val (.long rm), .second, .val (.int (own_hr mm ((hh1 - r1) - r2) rm)), .val (.int (own_hr mm ((hh1 - r1) - r2) (rm + (1 : Int64)))), .val (.int (own_hr mm ((hh1 - r1) - r2) q6))] [(.int (lcmpW (0 : Int64) (0 : Int64)))])) := fun t k => p203 t (by
        show Steps p.tables e below (T202.setTop (mkF m 173 #[.val (.long q1), .second, .val (.long q2), .second, .val (.long q3), .second, .val (.long q4), .second, .val (.long q5), .second, .val (.long q6), .second, .val (.long mm), .second, .val (.long ss), .second, .val (.long hh1), .second, .val (.long r1), .second, .val (.long r2), .second, .val (.ref b120), .val (.long ((hh1 - r1) - r2)), .second, .val (.long rm), .second, .val (.int (own_hr mm ((hh1 - r1) - r2) rm)), .val (.int (own_hr mm ((hh1 - r1) - r2) (rm + (1 : Int64)))), .val (.int (own_hr mm ((hh1 - r1) - r2) q6))] [(.long (0 : Int64))])) _
        refine XS.lconst X202.here hx rfl (hb hby at_173) ?_
        show Steps p.tables e below (T202.setTop (mkF m 174 #[.val (.long q1), .second, .val (.long q2), .second, .val (.long q3), .second, .val (.long q4), .second, .val (.long q5), .second, .val (.long q6), .second, .val (.long mm), .second, .val (.long ss), .second, .val (.long hh1), .second, .val (.long r1), .second, .val (.long r2), .second, .val (.ref b120), .val (.long ((hh1 - r1) - r2)), .second, .val (.long rm), .second, .val (.int (own_hr mm ((hh1 - r1) - r2) rm)), .val (.int (own_hr mm ((hh1 - r1) - r2) (rm + (1 : Int64)))), .val (.int (own_hr mm ((hh1 - r1) - r2) q6))] [(.long (0 : Int64)), (.long (0 : Int64))])) _
        refine XS.lcmp X202.here hx rfl (hb hby at_174) rfl ?_
        show Steps p.tables e below (T202.setTop (mkF m 175 #[.val (.long q1), .second, .val (.long q2), .second, .val (.long q3), .second, .val (.long q4), .second, .val (.long q5), .second, .val (.long q6), .second, .val (.long mm), .second, .val (.long ss), .second, .val (.long hh1), .second, .val (.long r1), .second, .val (.long r2), .second, .val (.ref b120), .val (.long ((hh1 - r1) - r2)), .second, .val (.long rm), .second, .val (.int (own_hr mm ((hh1 - r1) - r2) rm)), .val (.int (own_hr mm ((hh1 - r1) - r2) (rm + (1 : Int64)))), .val (.int (own_hr mm ((hh1 - r1) - r2) q6))] [(.int (lcmpW (0 : Int64) (0 : Int64)))])) _
        exact k)
      have c205 : ((0 : Int64) = (0 : Int64)) := rfl
      have p206 : Go p.tables e below _ (T202.setTop (mkF m 183 #[.val (.long q1), .second, .val (.long q2), .second, .val (.long q3), .second, .val (.long q4), .second, .val (.long q5), .second, .val (.long q6), .second, .val (.long mm), .second, .val (.long ss), .second, .val (.long hh1), .second, .val (.long r1), .second, .val (.long r2), .second, .val (.ref b120), .val (.long ((hh1 - r1) - r2)), .second, .val (.long rm), .second, .val (.int (own_hr mm ((hh1 - r1) - r2) rm)), .val (.int (own_hr mm ((hh1 - r1) - r2) (rm + (1 : Int64)))), .val (.int (own_hr mm ((hh1 - r1) - r2) q6))] [(.int (1 : Int32))])) := fun t k => p204 t (by
        show Steps p.tables e below (T202.setTop (mkF m 175 #[.val (.long q1), .second, .val (.long q2), .second, .val (.long q3), .second, .val (.long q4), .second, .val (.long q5), .second, .val (.long q6), .second, .val (.long mm), .second, .val (.long ss), .second, .val (.long hh1), .second, .val (.long r1), .second, .val (.long r2), .second, .val (.ref b120), .val (.long ((hh1 - r1) - r2)), .second, .val (.long rm), .second, .val (.int (own_hr mm ((hh1 - r1) - r2) rm)), .val (.int (own_hr mm ((hh1 - r1) - r2) (rm + (1 : Int64)))), .val (.int (own_hr mm ((hh1 - r1) - r2) q6))] [(.int (lcmpW (0 : Int64) (0 : Int64)))])) _
        refine XS.ifNo X202.here hx rfl (hb hby at_175) rfl ((if0 _ _).trans (teq ((lw_eq _ _).mpr c205)).2) ?_
        show Steps p.tables e below (T202.setTop (mkF m 178 #[.val (.long q1), .second, .val (.long q2), .second, .val (.long q3), .second, .val (.long q4), .second, .val (.long q5), .second, .val (.long q6), .second, .val (.long mm), .second, .val (.long ss), .second, .val (.long hh1), .second, .val (.long r1), .second, .val (.long r2), .second, .val (.ref b120), .val (.long ((hh1 - r1) - r2)), .second, .val (.long rm), .second, .val (.int (own_hr mm ((hh1 - r1) - r2) rm)), .val (.int (own_hr mm ((hh1 - r1) - r2) (rm + (1 : Int64)))), .val (.int (own_hr mm ((hh1 - r1) - r2) q6))] [])) _
        refine XS.iconst X202.here hx rfl (hb hby at_178) ?_
        show Steps p.tables e below (T202.setTop (mkF m 179 #[.val (.long q1), .second, .val (.long q2), .second, .val (.long q3), .second, .val (.long q4), .second, .val (.long q5), .second, .val (.long q6), .second, .val (.long mm), .second, .val (.long ss), .second, .val (.long hh1), .second, .val (.long r1), .second, .val (.long r2), .second, .val (.ref b120), .val (.long ((hh1 - r1) - r2)), .second, .val (.long rm), .second, .val (.int (own_hr mm ((hh1 - r1) - r2) rm)), .val (.int (own_hr mm ((hh1 - r1) - r2) (rm + (1 : Int64)))), .val (.int (own_hr mm ((hh1 - r1) - r2) q6))] [(.int (1 : Int32))])) _
        refine XS.goto X202.here hx rfl (pc0 := 179) (pc' := 183) rfl (hb hby at_179) (by decide) (by decide) ?_
        show Steps p.tables e below (T202.setTop (mkF m 183 #[.val (.long q1), .second, .val (.long q2), .second, .val (.long q3), .second, .val (.long q4), .second, .val (.long q5), .second, .val (.long q6), .second, .val (.long mm), .second, .val (.long ss), .second, .val (.long hh1), .second, .val (.long r1), .second, .val (.long r2), .second, .val (.ref b120), .val (.long ((hh1 - r1) - r2)), .second, .val (.long rm), .second, .val (.int (own_hr mm ((hh1 - r1) - r2) rm)), .val (.int (own_hr mm ((hh1 - r1) - r2) (rm + (1 : Int64)))), .val (.int (own_hr mm ((hh1 - r1) - r2) q6))] [(.int (1 : Int32))])) _
        exact k)
      obtain ⟨fs, hr, hrun, hended, hW, hsame⟩ := X202.leave (v := some (.int (1 : Int32))) (fun h => by rw [Bd.returns] at h; cases h)
      refine ⟨_, _, p206 _ (retN X202 hx (t := .boolean) Bd.returns (by simp) (hb hby at_183) hr), hrun, hended, _, _, rfl, ?_, ⟨_, rfl⟩, hW, hsame.mono (by decide) (by decide)⟩
      show Q0 Z q1 q2 q3 q4 q5 q6 h0 n0 _ T202.heap _
      rw [q202_hh]
      exact ⟨rfl, N202⟩
set_option maxRecDepth 65536 in
set_option maxHeartbeats 40000000 in
theorem comes_1 {Post : Tables → Env → Array Value → State → Outcome → State → Prop} (hpost : ∀ tb e args s v u, (limb_1_1.after args s (.returned v) u = true ∧ limb_1_2.after args s (.returned v) u = true ∧ True) → FrameEnd s (.returned v) u (Jvm.fieldLocs frame_1_writes args s ++ Jvm.arrayLocs frame_1_arrays args s ++ Jvm.staticLocs frame_1_statics s) 16 128 → Post tb e args s (.returned v) u) :
    ArmFor flags0 classFile x code maxLocals ret World_1 tables_1 room_1 Calls_1 rest_1 Pre_1 Post := by
  intro l hfl _ _ p e ha hc hk s m args below hf hA hF happ hP
  obtain ⟨hcalls, hrest, hpre⟩ := hP
  obtain ⟨-, -, -, hnamed, -, -, -, hat⟩ := (Spec.applies_iff hf).mp happ
  obtain ⟨hg, hn⟩ := and_e (Cond.before_iff.mp (show (Jvm.Cond.and given_1 narrow_1).before args s = true from hpre))
  obtain ⟨ga, gb0⟩ := and_e hg
  obtain ⟨gi0, gb1⟩ := and_e gb0
  obtain ⟨gi1, gb2⟩ := and_e gb1
  obtain ⟨gi2, gb3⟩ := and_e gb2
  obtain ⟨gi3, gb4⟩ := and_e gb3
  obtain ⟨gi4, gb5⟩ := and_e gb4
  have gi5 := gb5
  obtain ⟨w0, w1, w2, w3, w4, w5, rfl⟩ : ∃ w0 w1 w2 w3 w4 w5 : Value, args = #[w0, w1, w2, w3, w4, w5] := by
    have hs : args.size = 6 := by simpa [Cond.value, given_1] using ga
    obtain ⟨L⟩ := args
    match L, hs with
    | [w0, w1, w2, w3, w4, w5], _ => exact ⟨w0, w1, w2, w3, w4, w5, rfl⟩
  have hw := fun d (hd : d ∈ tables_1) => atoms_spec (ws := Jvm.Cond.code x code maxLocals ret :: tables_1) hat d (List.mem_cons_of_mem _ hd)
  have hfit : Fit s := fun {y c} hc i hi => by
    obtain ⟨ha, rfl⟩ := Array.getElem?_eq_some_iff.mp hc
    have q := List.all_eq_true.mp ((Array.all_eq_true_iff_forall_mem.mp hF) _ (Array.getElem_mem ha)) i (List.mem_range.mpr hi)
    simpa [Array.getElem?_eq_getElem hi] using q
  obtain ⟨i0, ei0⟩ := isL_v gi0
  obtain rfl : w0 = (.long i0) := Option.some.inj ei0
  obtain ⟨i1, ei1⟩ := isL_v gi1
  obtain rfl : w1 = (.long i1) := Option.some.inj ei1
  obtain ⟨i2, ei2⟩ := isL_v gi2
  obtain rfl : w2 = (.long i2) := Option.some.inj ei2
  obtain ⟨i3, ei3⟩ := isL_v gi3
  obtain rfl : w3 = (.long i3) := Option.some.inj ei3
  obtain ⟨i4, ei4⟩ := isL_v gi4
  obtain rfl : w4 = (.long i4) := Option.some.inj ei4
  obtain ⟨i5, ei5⟩ := isL_v gi5
  obtain rfl : w5 = (.long i5) := Option.some.inj ei5
  obtain ⟨n, o, h1, h2, h3, _, L, rfl, ⟨rfl, N⟩, hq⟩ := rm0 l s _ hw tables_1 i0 i1 i2 i3 i4 i5 s.heap s.heap.size (Nat.le_refl _) p e ha hc hk s m _ below hf ((Spec.applies_iff_loose hf).mp happ).1 ⟨rfl, State.Warmed39.refl s, rfl⟩ trivial
  refine ⟨n, _, h1, h2, h3, hpost _ _ _ _ _ _ ⟨Cond.after_iff.mpr rfl, Cond.after_iff.mpr (eq_i res_at (Term.int_eval (1)) rfl), trivial⟩ ⟨hq.1, hq.2.1, (hq.2.2.sift fun y hy => Or.inr (N y hy)).mono (by decide) (by decide)⟩⟩
theorem main_1_1 : Claimed_1_1 := comes_1 fun _ _ _ _ _ _ h hF => ⟨h.1, hF⟩
theorem main_1_2 : Claimed_1_2 := comes_1 fun _ _ _ _ _ _ h hF => ⟨h.2.1, hF⟩
end Jvm.Pilot.@@N@@
namespace Jvm.Pilot.@@N@@
open Jvm Jvm.ClassFile Sem Op Lib Jvm.Free Jvm.Stand Jvm.Pilot.@@N@@.Jvm.D
/-! MADE BY PROGRAM (witnessworld.py) out of the Statement's table words and the real class files: 9 classes; the members and pool entries that the words name. The judged class is class 1, her method 1. -/
namespace start1
open Jvm.ClassFile
def u (s : String) : CpInfo := .utf8 (stringToUtf16 s)
/-- a pool by its gaps: so many unusable entries, then the entry; so many at the end -/
def gap : Nat → List CpInfo → List CpInfo
  | 0, r => r
  | n + 1, r => .unusable :: gap n r
def poolList (es : List (Nat × CpInfo)) (last : Nat) : List CpInfo := es.foldr (fun e r => gap e.1 (e.2 :: r)) (gap last [])
def pool (es : List (Nat × CpInfo)) (last : Nat) : Array CpInfo := ⟨poolList es last⟩
def fileOf (pool : Array CpInfo) (this : Nat) (attrs : Array Attribute := #[]) (ms : Array MethodInfo := #[]) (fl : Nat := 33) (sup : Nat := 0) (ifs : Array Nat := #[]) (fds : Array FieldInfo := #[]) : ClassFile where
  minorVersion := 0
  majorVersion := 65
  constantPool := pool
  accessFlags := fl
  thisClass := this
  superClass := sup
  interfaces := ifs
  fields := fds
  methods := ms
  attributes := attrs
def plain (name : String) (sup : Option ClassId) : Class where
  name := name
  kind := .ordinary
  loader := none
  accessFlags := 33
  super := sup
  interfaces := #[]
  cf := none
  fields := #[]
  methods := #[]
  instanceTypes := #[]
  staticTypes := #[]
  resolved := #[]
  callSites := []
  init := .initialized
  statics := none
  mirror := none

def pool0 : Array CpInfo := pool [(5, u "<init>"), (0, u "()V"), (1, .class_ 10), (1, u "java/lang/Object")] 113

def k0c0 : Code := { maxStack := 0, maxLocals := 1, code := object_method_1_code, exceptionTable := #[], attributes := #[] }
def k0m0 : Method := { name := "<init>", desc := "()V", sig := { parameters := [], returnType := none }, accessFlags := 1, code := some k0c0 }
/-- java/lang/Object -/
def k0 : Class := { plain "java/lang/Object" none with
  accessFlags := 33
  interfaces := #[]
  cf := some (fileOf pool0 8 #[] #[{ accessFlags := 1, nameIndex := 5, descriptorIndex := 6, attributes := #[] }] 33 0 #[] #[])
  fields := #[]
  methods := #[k0m0]
  instanceTypes := #[]
  staticTypes := #[]
  resolved := Array.replicate 124 none
  statics := none }

def pool1 : Array CpInfo := pool [(2, .class_ 4), (1, u "java/lang/Object"), (0, u "<init>"), (0, u "()V"), (2, .long 9223372036854775807), (1, .methodref 12 13), (0, .class_ 14), (0, .nameAndType 15 16), (0, u "com/example/kuusi/kuusi/core/ElementLimitReleasePinLaw"), (0, u "upTo"), (0, u "(JJ)J"), (0, .class_ 18), (0, u "com/example/kuusi/kuusi/core/ElementLimit"), (0, .methodref 17 20), (0, .nameAndType 5 21), (0, u "(JJ)V"), (0, .methodref 17 23), (0, .nameAndType 24 25), (0, u "hold"), (0, u "(J)V"), (0, .methodref 17 27), (0, .nameAndType 28 25), (0, u "release"), (0, .methodref 17 30), (0, .nameAndType 31 32), (0, u "recount"), (0, u "(JJ)Z"), (0, .methodref 17 34), (0, .nameAndType 35 36), (0, u "spent"), (0, u "()J"), (2, u "law"), (0, u "(JJJJJJ)Z")] 6

def k1m0 : Method := { name := "<init>", desc := "()V", sig := { parameters := [], returnType := none }, accessFlags := 1, code := none }
def k1c1 : Code := { maxStack := 7, maxLocals := 30, code := code, exceptionTable := #[], attributes := #[] }
def k1m1 : Method := { name := "law", desc := "(JJJJJJ)Z", sig := { parameters := [.long, .long, .long, .long, .long, .long], returnType := some .boolean }, accessFlags := 9, code := some k1c1 }
def k1c2 : Code := { maxStack := 6, maxLocals := 6, code := method_3_code, exceptionTable := #[], attributes := #[] }
def k1m2 : Method := { name := "upTo", desc := "(JJ)J", sig := { parameters := [.long, .long], returnType := some .long }, accessFlags := 10, code := some k1c2 }
/-- com/example/kuusi/kuusi/core/ElementLimitReleasePinLaw -/
def k1 : Class := { plain "com/example/kuusi/kuusi/core/ElementLimitReleasePinLaw" (some 0) with
  accessFlags := 49
  interfaces := #[]
  cf := some (fileOf pool1 12 #[] #[{ accessFlags := 1, nameIndex := 5, descriptorIndex := 6, attributes := #[] }, { accessFlags := 9, nameIndex := 39, descriptorIndex := 40, attributes := #[] }, { accessFlags := 10, nameIndex := 15, descriptorIndex := 16, attributes := #[] }] 49 2 #[] #[])
  fields := #[]
  methods := #[k1m0, k1m1, k1m2]
  instanceTypes := #[]
  staticTypes := #[]
  resolved := Array.replicate 47 none
  statics := none }

def pool2 : Array CpInfo := pool [(2, .class_ 4), (1, u "com/example/kuusi/kuusi/core/ElementLimit"), (4, u "<init>"), (0, u "(JJ)V"), (0, .methodref 12 13), (0, .class_ 14), (0, .nameAndType 9 15), (0, u "java/lang/Object"), (0, u "()V"), (10, .fieldref 2 27), (0, .nameAndType 28 29), (0, u "maximum"), (0, u "J"), (0, .fieldref 2 31), (0, .nameAndType 32 29), (0, u "steps"), (0, .fieldref 2 34), (0, .nameAndType 35 36), (0, u "whole"), (0, u "Lcom/example/kuusi/kuusi/core/ElementLimit;"), (0, .fieldref 2 38), (0, .nameAndType 39 40), (0, u "sharing"), (0, u "Lcom/example/kuusi/kuusi/core/ElementLimit$Sharing;"), (18, .methodref 2 60), (0, .nameAndType 61 62), (0, u "checkRoom"), (0, u "(J)V"), (0, .methodref 2 64), (0, .nameAndType 65 62), (0, u "hold"), (0, .fieldref 2 67), (0, .nameAndType 68 29), (0, u "held"), (0, .methodref 2 70), (0, .nameAndType 71 72), (0, u "hasRoom"), (0, u "(J)Z"), (1, .class_ 76), (1, u "com/example/kuusi/kuusi/core/ElementLimit$Sharing"), (9, .methodref 2 87), (0, .nameAndType 88 62), (0, u "release"), (0, .methodref 2 90), (0, .nameAndType 91 72), (0, u "hasSteps"), (4, .methodref 2 97), (0, .nameAndType 98 62), (0, u "countSteps"), (0, .fieldref 2 100), (0, .nameAndType 101 29), (0, u "spent"), (2, .methodref 2 105), (0, .nameAndType 106 72), (0, u "endsTurnWithin"), (1, u "DEFAULT_MAXIMUM"), (1, u "STEPS_PER_SQUARE"), (0, u "BYTES_PER_ELEMENT"), (5, u "()J"), (2, u "recount"), (0, u "(JJ)Z")] 23

def k2c0 : Code := { maxStack := 4, maxLocals := 5, code := prog_31_method_2_code, exceptionTable := #[], attributes := #[] }
def k2m0 : Method := { name := "<init>", desc := "(JJ)V", sig := { parameters := [.long, .long], returnType := none }, accessFlags := 1, code := some k2c0 }
def k2c1 : Code := { maxStack := 5, maxLocals := 3, code := prog_31_method_7_code, exceptionTable := #[], attributes := #[] }
def k2m1 : Method := { name := "hold", desc := "(J)V", sig := { parameters := [.long], returnType := none }, accessFlags := 1, code := some k2c1 }
def k2c2 : Code := { maxStack := 4, maxLocals := 3, code := prog_31_method_8_code, exceptionTable := #[], attributes := #[] }
def k2m2 : Method := { name := "checkRoom", desc := "(J)V", sig := { parameters := [.long], returnType := none }, accessFlags := 1, code := some k2c2 }
def k2c3 : Code := { maxStack := 6, maxLocals := 3, code := prog_31_method_9_code, exceptionTable := #[], attributes := #[] }
def k2m3 : Method := { name := "hasRoom", desc := "(J)Z", sig := { parameters := [.long], returnType := some .boolean }, accessFlags := 2, code := some k2c3 }
def k2c4 : Code := { maxStack := 6, maxLocals := 3, code := prog_31_method_10_code, exceptionTable := #[], attributes := #[] }
def k2m4 : Method := { name := "release", desc := "(J)V", sig := { parameters := [.long], returnType := none }, accessFlags := 1, code := some k2c4 }
def k2c5 : Code := { maxStack := 6, maxLocals := 3, code := prog_31_method_12_code, exceptionTable := #[], attributes := #[] }
def k2m5 : Method := { name := "hasSteps", desc := "(J)Z", sig := { parameters := [.long], returnType := some .boolean }, accessFlags := 2, code := some k2c5 }
def k2c6 : Code := { maxStack := 5, maxLocals := 3, code := prog_31_method_13_code, exceptionTable := #[], attributes := #[] }
def k2m6 : Method := { name := "countSteps", desc := "(J)V", sig := { parameters := [.long], returnType := none }, accessFlags := 2, code := some k2c6 }
def k2c7 : Code := { maxStack := 3, maxLocals := 6, code := prog_31_method_14_code, exceptionTable := #[], attributes := #[] }
def k2m7 : Method := { name := "recount", desc := "(JJ)Z", sig := { parameters := [.long, .long], returnType := some .boolean }, accessFlags := 0, code := some k2c7 }
def k2c8 : Code := { maxStack := 3, maxLocals := 3, code := prog_31_method_15_code, exceptionTable := #[], attributes := #[] }
def k2m8 : Method := { name := "endsTurnWithin", desc := "(J)Z", sig := { parameters := [.long], returnType := some .boolean }, accessFlags := 2, code := some k2c8 }
def k2c9 : Code := { maxStack := 2, maxLocals := 1, code := prog_31_method_16_code, exceptionTable := #[], attributes := #[] }
def k2m9 : Method := { name := "spent", desc := "()J", sig := { parameters := [], returnType := some .long }, accessFlags := 1, code := some k2c9 }
/-- com/example/kuusi/kuusi/core/ElementLimit -/
def k2 : Class := { plain "com/example/kuusi/kuusi/core/ElementLimit" (some 0) with
  accessFlags := 49
  interfaces := #[]
  cf := some (fileOf pool2 2 #[.nestMembers #[74]] #[{ accessFlags := 1, nameIndex := 9, descriptorIndex := 10, attributes := #[] }, { accessFlags := 1, nameIndex := 65, descriptorIndex := 62, attributes := #[] }, { accessFlags := 1, nameIndex := 61, descriptorIndex := 62, attributes := #[] }, { accessFlags := 2, nameIndex := 71, descriptorIndex := 72, attributes := #[] }, { accessFlags := 1, nameIndex := 88, descriptorIndex := 62, attributes := #[] }, { accessFlags := 2, nameIndex := 91, descriptorIndex := 72, attributes := #[] }, { accessFlags := 2, nameIndex := 98, descriptorIndex := 62, attributes := #[] }, { accessFlags := 0, nameIndex := 120, descriptorIndex := 121, attributes := #[] }, { accessFlags := 2, nameIndex := 106, descriptorIndex := 72, attributes := #[] }, { accessFlags := 1, nameIndex := 101, descriptorIndex := 117, attributes := #[] }] 49 12 #[] #[{ accessFlags := 25, nameIndex := 108, descriptorIndex := 29, attributes := #[] }, { accessFlags := 25, nameIndex := 110, descriptorIndex := 29, attributes := #[] }, { accessFlags := 26, nameIndex := 111, descriptorIndex := 29, attributes := #[] }, { accessFlags := 18, nameIndex := 28, descriptorIndex := 29, attributes := #[] }, { accessFlags := 18, nameIndex := 32, descriptorIndex := 29, attributes := #[] }, { accessFlags := 18, nameIndex := 35, descriptorIndex := 36, attributes := #[] }, { accessFlags := 18, nameIndex := 39, descriptorIndex := 40, attributes := #[] }, { accessFlags := 2, nameIndex := 68, descriptorIndex := 29, attributes := #[] }, { accessFlags := 2, nameIndex := 101, descriptorIndex := 29, attributes := #[] }])
  fields := #[{ name := "DEFAULT_MAXIMUM", type := .long, accessFlags := 25, slot := 0, constantValue := 0 }, { name := "STEPS_PER_SQUARE", type := .long, accessFlags := 25, slot := 1, constantValue := 0 }, { name := "BYTES_PER_ELEMENT", type := .long, accessFlags := 26, slot := 2, constantValue := 0 }, { name := "maximum", type := .long, accessFlags := 18, slot := 0, constantValue := 0 }, { name := "steps", type := .long, accessFlags := 18, slot := 1, constantValue := 0 }, { name := "whole", type := (.object "com/example/kuusi/kuusi/core/ElementLimit"), accessFlags := 18, slot := 2, constantValue := 0 }, { name := "sharing", type := (.object "com/example/kuusi/kuusi/core/ElementLimit$Sharing"), accessFlags := 18, slot := 3, constantValue := 0 }, { name := "held", type := .long, accessFlags := 2, slot := 4, constantValue := 0 }, { name := "spent", type := .long, accessFlags := 2, slot := 5, constantValue := 0 }]
  methods := #[k2m0, k2m1, k2m2, k2m3, k2m4, k2m5, k2m6, k2m7, k2m8, k2m9]
  instanceTypes := #[.long, .long, (.object "com/example/kuusi/kuusi/core/ElementLimit"), (.object "com/example/kuusi/kuusi/core/ElementLimit$Sharing"), .long, .long]
  staticTypes := #[.long, .long, .long]
  resolved := Array.replicate 145 none
  statics := none }

def pool3 : Array CpInfo := pool [(1, u "java/lang/Cloneable"), (0, .class_ 1), (0, u "java/lang/Object"), (0, .class_ 3)] 3

/-- java/lang/Cloneable -/
def k3 : Class := { plain "java/lang/Cloneable" (some 0) with
  accessFlags := 1537
  interfaces := #[]
  cf := some (fileOf pool3 2 #[] #[] 1537 4 #[] #[])
  fields := #[]
  methods := #[]
  instanceTypes := #[]
  staticTypes := #[]
  resolved := Array.replicate 8 none
  statics := none }

def pool4 : Array CpInfo := pool [(1, u "java/io/Serializable"), (0, .class_ 1), (0, u "java/lang/Object"), (0, .class_ 3)] 3

/-- java/io/Serializable -/
def k4 : Class := { plain "java/io/Serializable" (some 0) with
  accessFlags := 1537
  interfaces := #[]
  cf := some (fileOf pool4 2 #[] #[] 1537 4 #[] #[])
  fields := #[]
  methods := #[]
  instanceTypes := #[]
  staticTypes := #[]
  resolved := Array.replicate 8 none
  statics := none }

/-- the primitive byte -/
def k5 : Class := { plain "byte" none with kind := .primitive 'B', accessFlags := 0x411 }
/-- [B -/
def k6 : Class := { plain "[B" (some 0) with kind := .array 5 .byte, interfaces := #[3, 4], accessFlags := 1041 }

/-- the primitive int -/
def k7 : Class := { plain "int" none with kind := .primitive 'I', accessFlags := 0x411 }
/-- [I -/
def k8 : Class := { plain "[I" (some 0) with kind := .array 7 .int, interfaces := #[3, 4], accessFlags := 1041 }

def heap : Heap := #[]
def classes : Array Class := #[k0, k1, k2, k3, k4, k5, k6, k7, k8]
def interned : List (Array UInt16 × Addr) := []
def slotsUsed : Nat := 0
def theMethod : MethodId := ⟨1, 1⟩
def args0 : Array Value := #[.long 9, .long 8, .long 7, .long 6, .long 5, .long 4]
def aboutOver (below : List Frame) : State where
  vm := { classes := classes, interned := interned.toArray }
  heap := heap
  slotsUsed := slotsUsed
  threads := #[{ frames := .invoking theMethod args0 :: below }]
def below0 : List Frame := [.native { method := ⟨0, 0⟩, args := #[] }]
def about1 : State := aboutOver below0
def p0 : Program := .bare "" "" ""
def e0 : Env := launch0.env 0 0 0
theorem w_frames : about1.frames = Frame.invoking theMethod args0 :: below0 := rfl
set_option maxRecDepth 65536 in
theorem w_args : argsFit about1.vm theMethod args0 = true := by decide +kernel
set_option maxRecDepth 65536 in
theorem w_heap : heapFits about1 = true := by decide +kernel
set_option maxRecDepth 65536 in
theorem w_runnable : about1.curStatus? = some .runnable := by decide +kernel
set_option maxRecDepth 65536 in
theorem w_alone : about1.alone = true := by decide +kernel
set_option maxRecDepth 65536 in
theorem w_named : about1.methodNamed? x = some theMethod := by decide +kernel
set_option maxRecDepth 65536 in
theorem w_hears : about1.hears theMethod below0 = true := by decide +kernel
set_option maxRecDepth 65536 in
theorem w_ripe : about1.ripe theMethod args0 below0 = true := by decide +kernel
theorem w_running : about1.status = .running := rfl
set_option maxRecDepth 65536 in
theorem w_room : about1.hasRoom e0.platform room_1 = true :=
  launch0.hasRoom_least _ room_1 (by decide +kernel) (by decide +kernel) (by decide +kernel) (by decide +kernel) (by decide +kernel) (by decide +kernel)
theorem allAtoms_all (ts : List Jvm.Cond) (a : Array Jvm.Value) (st : Jvm.State) : (allAtoms ts).before a st = ts.all (fun c => c.before a st) := by
  induction ts with
  | nil => rfl
  | cons c t ih =>
    show (Jvm.Cond.and c (allAtoms t)).before a st = _
    rw [Jvm.Cond.before_and, ih, List.all_cons]
def words1 : List Jvm.Cond := Jvm.Cond.code x code maxLocals ret :: tables_1
/-- a 'code' word, met by the world's own term for the bytes: nothing is compared byte by byte -/
theorem code_word {y : MethodName} {bytes : ByteArray} {mx : Nat} {rt : Option FieldType} {a : Array Value} {s : State} {m : MethodId} {meth : Method} {c : Code} (h1 : s.methodNamed? y = some m) (h2 : s.vm.method? m = some meth) (h3 : meth.code = some c) (h4 : c.code = bytes)
    (h5 : (c.maxLocals == mx && c.exceptionTable.isEmpty && decide (c.maxStack ≤ mostOperands) && decide (meth.sig.returnType = rt) && !meth.locks && decide (parseMethodDescriptor y.desc = some meth.sig)) = true) : (Jvm.Cond.code y bytes mx rt).before a s = true := by
  simp only [Bool.and_eq_true, beq_iff_eq, Bool.not_eq_true', decide_eq_true_eq] at h5
  obtain ⟨⟨⟨⟨⟨g1, g2⟩, g3⟩, g4⟩, g5⟩, g6⟩ := h5
  simp [Cond.before, Cond.holds, Cond.value, h1, h2, h3, h4, g1, g2, g3, g4, g5, g6]
def isCode : Jvm.Cond → Bool
  | .code _ _ _ _ => true
  | _ => false
theorem all_split {L : List Jvm.Cond} {P : Jvm.Cond → Bool} (h1 : L.all (fun c => isCode c || P c) = true) (h2 : ∀ c ∈ L.filter isCode, P c = true) : L.all P = true := by
  refine List.all_eq_true.mpr fun c hc => ?_
  have h := List.all_eq_true.mp h1 c hc
  rcases Bool.eq_false_or_eq_true (isCode c) with hi | hi
  · exact h2 c (List.mem_filter.mpr ⟨hc, hi⟩)
  · simpa [hi] using h
set_option maxRecDepth 65536 in
theorem w_c0 : (Jvm.Cond.code x code maxLocals ret).before args0 about1 = true := code_word (m := ⟨1, 1⟩) (meth := k1m1) (c := k1c1) (by decide +kernel) rfl rfl rfl (by decide +kernel)
set_option maxRecDepth 65536 in
theorem w_c1 : (Jvm.Cond.code ({ cls := "com/example/kuusi/kuusi/core/ElementLimitReleasePinLaw", name := "upTo", desc := "(JJ)J" } : Jvm.MethodName) method_3_code (6 : Nat) (Option.some Jvm.ClassFile.FieldType.long)).before args0 about1 = true := code_word (m := ⟨1, 2⟩) (meth := k1m2) (c := k1c2) (by decide +kernel) rfl rfl rfl (by decide +kernel)
set_option maxRecDepth 65536 in
theorem w_c2 : (Jvm.Cond.code ({ cls := "com/example/kuusi/kuusi/core/ElementLimit", name := "<init>", desc := "(JJ)V" } : Jvm.MethodName) prog_31_method_2_code (5 : Nat) (Option.none : Option Jvm.ClassFile.FieldType)).before args0 about1 = true := code_word (m := ⟨2, 0⟩) (meth := k2m0) (c := k2c0) (by decide +kernel) rfl rfl rfl (by decide +kernel)
set_option maxRecDepth 65536 in
theorem w_c3 : (Jvm.Cond.code ({ cls := "java/lang/Object", name := "<init>", desc := "()V" } : Jvm.MethodName) object_method_1_code (1 : Nat) (Option.none : Option Jvm.ClassFile.FieldType)).before args0 about1 = true := code_word (m := ⟨0, 0⟩) (meth := k0m0) (c := k0c0) (by decide +kernel) rfl rfl rfl (by decide +kernel)
set_option maxRecDepth 65536 in
theorem w_c4 : (Jvm.Cond.code ({ cls := "com/example/kuusi/kuusi/core/ElementLimit", name := "hold", desc := "(J)V" } : Jvm.MethodName) prog_31_method_7_code (3 : Nat) (Option.none : Option Jvm.ClassFile.FieldType)).before args0 about1 = true := code_word (m := ⟨2, 1⟩) (meth := k2m1) (c := k2c1) (by decide +kernel) rfl rfl rfl (by decide +kernel)
set_option maxRecDepth 65536 in
theorem w_c5 : (Jvm.Cond.code ({ cls := "com/example/kuusi/kuusi/core/ElementLimit", name := "checkRoom", desc := "(J)V" } : Jvm.MethodName) prog_31_method_8_code (3 : Nat) (Option.none : Option Jvm.ClassFile.FieldType)).before args0 about1 = true := code_word (m := ⟨2, 2⟩) (meth := k2m2) (c := k2c2) (by decide +kernel) rfl rfl rfl (by decide +kernel)
set_option maxRecDepth 65536 in
theorem w_c6 : (Jvm.Cond.code ({ cls := "com/example/kuusi/kuusi/core/ElementLimit", name := "hasRoom", desc := "(J)Z" } : Jvm.MethodName) prog_31_method_9_code (3 : Nat) (Option.some Jvm.ClassFile.FieldType.boolean)).before args0 about1 = true := code_word (m := ⟨2, 3⟩) (meth := k2m3) (c := k2c3) (by decide +kernel) rfl rfl rfl (by decide +kernel)
set_option maxRecDepth 65536 in
theorem w_c7 : (Jvm.Cond.code ({ cls := "com/example/kuusi/kuusi/core/ElementLimit", name := "release", desc := "(J)V" } : Jvm.MethodName) prog_31_method_10_code (3 : Nat) (Option.none : Option Jvm.ClassFile.FieldType)).before args0 about1 = true := code_word (m := ⟨2, 4⟩) (meth := k2m4) (c := k2c4) (by decide +kernel) rfl rfl rfl (by decide +kernel)
set_option maxRecDepth 65536 in
theorem w_c8 : (Jvm.Cond.code ({ cls := "com/example/kuusi/kuusi/core/ElementLimit", name := "recount", desc := "(JJ)Z" } : Jvm.MethodName) prog_31_method_14_code (6 : Nat) (Option.some Jvm.ClassFile.FieldType.boolean)).before args0 about1 = true := code_word (m := ⟨2, 7⟩) (meth := k2m7) (c := k2c7) (by decide +kernel) rfl rfl rfl (by decide +kernel)
set_option maxRecDepth 65536 in
theorem w_c9 : (Jvm.Cond.code ({ cls := "com/example/kuusi/kuusi/core/ElementLimit", name := "hasSteps", desc := "(J)Z" } : Jvm.MethodName) prog_31_method_12_code (3 : Nat) (Option.some Jvm.ClassFile.FieldType.boolean)).before args0 about1 = true := code_word (m := ⟨2, 5⟩) (meth := k2m5) (c := k2c5) (by decide +kernel) rfl rfl rfl (by decide +kernel)
set_option maxRecDepth 65536 in
theorem w_c10 : (Jvm.Cond.code ({ cls := "com/example/kuusi/kuusi/core/ElementLimit", name := "endsTurnWithin", desc := "(J)Z" } : Jvm.MethodName) prog_31_method_15_code (3 : Nat) (Option.some Jvm.ClassFile.FieldType.boolean)).before args0 about1 = true := code_word (m := ⟨2, 8⟩) (meth := k2m8) (c := k2c8) (by decide +kernel) rfl rfl rfl (by decide +kernel)
set_option maxRecDepth 65536 in
theorem w_c11 : (Jvm.Cond.code ({ cls := "com/example/kuusi/kuusi/core/ElementLimit", name := "countSteps", desc := "(J)V" } : Jvm.MethodName) prog_31_method_13_code (3 : Nat) (Option.none : Option Jvm.ClassFile.FieldType)).before args0 about1 = true := code_word (m := ⟨2, 6⟩) (meth := k2m6) (c := k2c6) (by decide +kernel) rfl rfl rfl (by decide +kernel)
set_option maxRecDepth 65536 in
theorem w_c12 : (Jvm.Cond.code ({ cls := "com/example/kuusi/kuusi/core/ElementLimit", name := "spent", desc := "()J" } : Jvm.MethodName) prog_31_method_16_code (1 : Nat) (Option.some Jvm.ClassFile.FieldType.long)).before args0 about1 = true := code_word (m := ⟨2, 9⟩) (meth := k2m9) (c := k2c9) (by decide +kernel) rfl rfl rfl (by decide +kernel)
def codes1 : List Jvm.Cond := [Jvm.Cond.code x code maxLocals ret, Jvm.Cond.code ({ cls := "com/example/kuusi/kuusi/core/ElementLimitReleasePinLaw", name := "upTo", desc := "(JJ)J" } : Jvm.MethodName) method_3_code (6 : Nat) (Option.some Jvm.ClassFile.FieldType.long), Jvm.Cond.code ({ cls := "com/example/kuusi/kuusi/core/ElementLimit", name := "<init>", desc := "(JJ)V" } : Jvm.MethodName) prog_31_method_2_code (5 : Nat) (Option.none : Option Jvm.ClassFile.FieldType), Jvm.Cond.code ({ cls := "java/lang/Object", name := "<init>", desc := "()V" } : Jvm.MethodName) object_method_1_code (1 : Nat) (Option.none : Option Jvm.ClassFile.FieldType), Jvm.Cond.code ({ cls := "com/example/kuusi/kuusi/core/ElementLimit", name := "hold", desc := "(J)V" } : Jvm.MethodName) prog_31_method_7_code (3 : Nat) (Option.none : Option Jvm.ClassFile.FieldType), Jvm.Cond.code ({ cls := "com/example/kuusi/kuusi/core/ElementLimit", name := "checkRoom", desc := "(J)V" } : Jvm.MethodName) prog_31_method_8_code (3 : Nat) (Option.none : Option Jvm.ClassFile.FieldType), Jvm.Cond.code ({ cls := "com/example/kuusi/kuusi/core/ElementLimit", name := "hasRoom", desc := "(J)Z" } : Jvm.MethodName) prog_31_method_9_code (3 : Nat) (Option.some Jvm.ClassFile.FieldType.boolean), Jvm.Cond.code ({ cls := "com/example/kuusi/kuusi/core/ElementLimit", name := "release", desc := "(J)V" } : Jvm.MethodName) prog_31_method_10_code (3 : Nat) (Option.none : Option Jvm.ClassFile.FieldType), Jvm.Cond.code ({ cls := "com/example/kuusi/kuusi/core/ElementLimit", name := "recount", desc := "(JJ)Z" } : Jvm.MethodName) prog_31_method_14_code (6 : Nat) (Option.some Jvm.ClassFile.FieldType.boolean), Jvm.Cond.code ({ cls := "com/example/kuusi/kuusi/core/ElementLimit", name := "hasSteps", desc := "(J)Z" } : Jvm.MethodName) prog_31_method_12_code (3 : Nat) (Option.some Jvm.ClassFile.FieldType.boolean), Jvm.Cond.code ({ cls := "com/example/kuusi/kuusi/core/ElementLimit", name := "endsTurnWithin", desc := "(J)Z" } : Jvm.MethodName) prog_31_method_15_code (3 : Nat) (Option.some Jvm.ClassFile.FieldType.boolean), Jvm.Cond.code ({ cls := "com/example/kuusi/kuusi/core/ElementLimit", name := "countSteps", desc := "(J)V" } : Jvm.MethodName) prog_31_method_13_code (3 : Nat) (Option.none : Option Jvm.ClassFile.FieldType), Jvm.Cond.code ({ cls := "com/example/kuusi/kuusi/core/ElementLimit", name := "spent", desc := "()J" } : Jvm.MethodName) prog_31_method_16_code (1 : Nat) (Option.some Jvm.ClassFile.FieldType.long)]
set_option maxRecDepth 65536 in
theorem codes_eq : words1.filter isCode = codes1 := rfl
theorem w_codes : ∀ c ∈ words1.filter isCode, c.before args0 about1 = true := by
  rw [codes_eq]
  intro c hc
  simp only [codes1, List.mem_cons, List.not_mem_nil, or_false] at hc
  rcases hc with rfl | rfl | rfl | rfl | rfl | rfl | rfl | rfl | rfl | rfl | rfl | rfl | rfl
  · exact w_c0
  · exact w_c1
  · exact w_c2
  · exact w_c3
  · exact w_c4
  · exact w_c5
  · exact w_c6
  · exact w_c7
  · exact w_c8
  · exact w_c9
  · exact w_c10
  · exact w_c11
  · exact w_c12
set_option maxRecDepth 65536 in
theorem w_t1 : (words1.take 24).all (fun c => isCode c || c.before args0 about1) = true := by decide +kernel
set_option maxRecDepth 65536 in
theorem w_t2 : ((words1.drop 24).take 24).all (fun c => isCode c || c.before args0 about1) = true := by decide +kernel
set_option maxRecDepth 65536 in
theorem w_t3 : ((words1.drop 24).drop 24).all (fun c => isCode c || c.before args0 about1) = true := by decide +kernel
theorem w_tables : (allAtoms (Jvm.Cond.code x code maxLocals ret :: tables_1)).before args0 about1 = true := by
  rw [allAtoms_all]
  show words1.all (fun c => c.before args0 about1) = true
  refine all_split ?_ w_codes
  rw [← List.take_append_drop 24 words1, List.all_append, w_t1, ← List.take_append_drop 24 (words1.drop 24), List.all_append, w_t2, w_t3]
  rfl
set_option maxRecDepth 65536 in
theorem w_case : (Jvm.Cond.and given_1 narrow_1).before args0 about1 = true := by decide +kernel
theorem w_applies : (headSpec (Jvm.Cond.code x code maxLocals ret :: tables_1) room_1).applies x e0.platform about1 = true :=
  (Spec.applies_iff w_frames).mpr ⟨w_running, w_runnable, w_alone, w_named, w_hears, w_ripe, w_room, w_tables⟩
theorem atStart : AtStart classFile x code maxLocals ret World_1 tables_1 room_1 Calls_1 rest_1 Pre_1 launch0 p0 e0 about1 theMethod args0 below0 :=
  ⟨lists_1, trivial, launch0.admits_env _ _ _, launch0.least_env, fairChoices_fair.cas, fairChoices_fair.clock, w_frames, w_args, w_heap, w_applies, trivial, trivial, w_case⟩
end start1
theorem witness_1 : WitnessClaimed_1 := ⟨start1.p0, start1.e0, start1.about1, start1.theMethod, start1.args0, start1.below0, start1.atStart⟩
end Jvm.Pilot.@@N@@
