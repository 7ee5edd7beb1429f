import JvmDerived
import JvmDerived.Pilot.@@N@@Statement
import JvmDerived.Pilot.@@N@@Code
set_option linter.unusedVariables false
set_option linter.unusedSimpArgs false
namespace Jvm.RoadKit
open Sem ClassFile Op Lib Jvm.Stand Jvm.Free Jvm.LawKit
section New
variable {p : Program} {l : Launch} {e : Env} {R : Room} {s : State} {m : MethodId} {args : Array Value} {below : List Frame} {meth : Method} {c : Code} {T : State} {locs : List Loc} {cells slots : Nat}
theorem retI (X : Stand p l e R s m args below meth c T locs cells slots) (hx : p.tables.exec = Jvm.exec) {pc : Nat} {Ls : Array Slot} {z : Int32} {rest : List Value} (hret : meth.sig.returnType = some .int) (hd : decode c.code pc = .ok (.ireturn, 1)) {fs : List Frame}
    (hl : ∀ (f : JFrame) (acts : List Action), f.method = m → f.locked = none → f.entered = [] → (doReturn e (T.setTop f) acts (some (.int z))).1 = T.setFrames fs) : Steps p.tables e below (T.setTop (mkF m pc Ls (.int z :: rest))) (T.setFrames fs) :=
  retOut X hx (w := .int z) (t := .int) hret rfl (Or.inl ⟨rfl, Or.inl rfl, _, rfl⟩) hd hl
end New
end Jvm.RoadKit
namespace Jvm.Own
open Sem ClassFile Op Lib Jvm.Stand Jvm.Free Jvm.LawKit Jvm.RoadKit
/-- from A on the run comes to B -/
abbrev Go (tb : Tables) (e : Env) (below : List Frame) (A B : State) : Prop := ∀ t, Steps tb e below B t → Steps tb e below A t
theorem gc {tb : Tables} {e : Env} {below : List Frame} {A B C : State} (h : Go tb e below A B) (k : ∀ t, Steps tb e below C t → Steps tb e below B t) : Go tb e below A C := fun t q => h t (k t q)
theorem gcT {tb : Tables} {e : Env} {below : List Frame} {A B C : State} (h : Go tb e below A B) (k : Steps tb e below B C) : Go tb e below A C := fun t q => h t (k.trans q)
theorem lremM {p : Program} {l : Launch} {e : Env} {R : Room} {s : State} {m : MethodId} {args : Array Value} {below : List Frame} {meth : Method} {c : Code} {T : State} {locs : List Loc} {cells slots : Nat} {g : JFrame} {target : State} (X : Stand p l e R s m args below meth c T locs cells slots) (hx : p.tables.exec = Jvm.exec) (hg : g.method = m) {x y : Int64} {rest : List Value} (hd : decode c.code g.pc = .ok (.lrem, 1)) (hs : g.stack = .long y :: .long x :: rest) (hy : y ≠ 0)
    (hr : Steps p.tables e below (T.setTop { g with pc := g.pc + 1, stack := .long (x % y) :: rest }) target) : Steps p.tables e below (T.setTop g) target :=
  XS.lrem X.here hx hg hd hs hy (by rw [lrem_mod]; exact hr)
theorem eqInt {s : State} {args : Array Value} {a : Term} {c : Int32} (h : (Cond.eq a (.int c)).value args s none s [] = some true) : a.eval args s none [] s = some (.int c) := by
  obtain ⟨x, y, hx, hy, k1, k2⟩ := cmp_v (Or.inl h)
  cases hy
  obtain ⟨z, rfl⟩ := k2
  simp [Cond.value, hx, Term.eval] at h
  subst h; exact hx
theorem neqInt {s : State} {args : Array Value} {a : Term} {c x : Int32} (hx : a.eval args s none [] s = some (.int x)) (h : (Cond.not (Cond.eq a (.int c))).value args s none s [] = some true) : ¬ x = c := by
  intro q
  have h2 := not_v h
  subst q
  simp [Cond.value, hx, Term.eval] at h2
theorem elAt {s : State} {args : Array Value} {t u : Term} {a w : Addr} {cl : Cell} {ty : FieldType} {i : Int32} (ht : t.eval args s none [] s = some (.ref a)) (A : Arr s s.heap a cl ty) (h : (Cond.eq (.elem t (.int i)) u).value args s none s [] = some true) (hu : u.eval args s none [] s = some (.ref w)) {j : Nat} (hj : i.toNatClampNeg = j) : cl.slots[j]? = some (.ref w) := by
  obtain ⟨x, y, hx, hy, k1, k2⟩ := cmp_v (Or.inl h)
  rw [hu] at hy; cases hy
  have hr : x.isRef = true := k2.2
  have e := gotT (eq_R hx hu hr rfl) h
  subst e
  have q := (elem_in hx ht (Term.int_eval i) A.1).2
  rw [hj] at q; exact q
theorem arvOf {s : State} {args : Array Value} {t : Term} {a : Addr} {cl : Cell} {ty : FieldType} {z : Int32} {vs : List Value} {dv : Value} (hf : Fit s) (ev : t.eval args s none [] s = some (.ref a)) (A : Arr s s.heap a cl ty) (hl : (Term.length t).eval args s none [] s = some (.int z)) (hz : ¬ z < 0) (hn : z.toNatClampNeg = vs.length) (H : HasL cl 0 vs) : Arv s s.heap a cl.cls ty z vs dv := by
  have ha : s.arrayAt? a = some cl := Arr.fin (Vm.Alike.refl _) A
  by_cases q : cl.slots.size < 2 ^ 31
  · rw [len_f ev ha q] at hl
    cases hl
    exact Arv.start hf A q rfl hz hn H
  · simp [Term.eval, ev, ha, q] at hl
theorem selPriv {s : State} {args : Array Value} {C : String} {z y : MethodName} (w : (Cond.selects C z z).before args s = true) (hc : z.cls = y.cls) (hp : s.PrivateAt y) (hi : (Cond.instanceMethod y).before args s = true) (hy : y.cls ≠ "java/lang/invoke/MethodHandle" ∧ y.cls ≠ "java/lang/invoke/VarHandle") : (Cond.selects y.cls y y).before args s = true := by
  obtain ⟨c2, r2, m2, -, -, q3, -, kP, hkP, hkPi⟩ := Cond.selects_spec w
  exact selects_self_of_private (hc ▸ findClass_of_methodNamed q3) hkP hkPi hp hi hy

theorem IB_same {Z : State} {vm vm1 : Vm} {Ts : List String} (I : IB Z vm Ts) (h : vm1.interned = vm.interned) : IB Z vm1 Ts := by
  obtain ⟨more, e, hm⟩ := I
  exact ⟨more, h.trans e, hm⟩
theorem ldcM {p : Program} {l : Launch} {e : Env} {R : Room} {s : State} {m : MethodId} {args : Array Value} {below : List Frame} {meth : Method} {c : Code} {T : State} {locs : List Loc} {cells slots : Nat} {Z : State} {h : Heap} (X : Stand p l e R s m args below meth c T locs cells slots) (hx : p.tables.exec = Jvm.exec) (hZ : Z.Warmed39 s.vm) {a0 : Array Value} {own C : String} {index : Nat} (hown : s.vm.findClass own = some m.cls) (w : (Cond.classLink own index C).before a0 Z = true) {mr : Addr} (M : Mir Z C mr) (eT : T.heap = h)
    {g : JFrame} (hg : g.method = m) (hd : decode c.code g.pc = .ok (.ldc index, 2)) :
    ∃ T', Stand p l e R s m args below meth c T' locs cells slots ∧ T'.heap = h ∧ ∀ target, Steps p.tables e below (T'.setTop { g with pc := g.pc + 2, stack := .ref mr :: g.stack }) target → Steps p.tables e below (T.setTop g) target := by
  obtain ⟨cc, kc, m1, m2, m3, -⟩ := M
  obtain ⟨k', q, ek⟩ := hZ.alike.2.2 _ _ m2
  obtain ⟨vm', X', st⟩ := X.ldcMirror hx hown (mvT hZ w) (a := mr) (by simp [Term.eval, hZ.alike.findClass, m1, q, show k'.mirror = some mr by rw [ek]; exact m3]) hg hd
  exact ⟨_, X', eT, st⟩
theorem backOfI {p : Program} {l : Launch} {e : Env} {R : Room} {s Z : State} {args a0 : Array Value} {below : List Frame} {h : Heap} {y : MethodName} {bytes : ByteArray} {maxL : Nat} {ret : Option FieldType} {rm : Room} {len W : Nat} {as' : Array Value} {Q : Option Value → Heap → List Loc → Prop} {Ts : List String}
    (hM : MetFree l y (head1 [Cond.code y bytes maxL ret] rm) (fun a U => a = as' ∧ Z.Warmed39 U.vm ∧ U.heap = h ∧ IB Z U.vm Ts) (fun _ _ _ _ _ => True) (fun _ U o U' => ∃ v L, o = .returned v ∧ Q v U'.heap L ∧ ReturnedEndW U o U' L rm.cells rm.slots))
    (hZ : Z.Warmed39 s.vm) (I : IB Z s.vm Ts) (wc : (Cond.code y bytes maxL ret).before a0 Z = true) (wz : (Cond.initialized y.cls).before a0 Z = true) (hf : rm.frames + 1 ≤ R.frames) (hl : W + (maxL + 11) + rm.locals ≤ R.locals) :
    BackS l R p e below s args y len W (fun A a => a = as' ∧ A.U.heap = h ∧ A.cells + rm.cells ≤ R.cells ∧ A.slots + rm.slots ≤ R.slots)
      (fun A _ v B => ∃ L, Q v B.U.heap L ∧ B.locs = A.locs ++ L ∧ B.cells = A.cells + rm.cells ∧ B.slots = A.slots + rm.slots) :=
  BackS.of_freeW (bytes := bytes) (maxL := maxL) (ret := ret) (E := fun _ _ o t L k n => k = rm.cells ∧ n = rm.slots ∧ ∃ v, o = .returned v ∧ Q v t.heap L) hM hf hl
    (fun m meth c A a Y hp => have hU : Z.Warmed39 A.U.vm := wtrans hZ Y.warmed
      ⟨by show (Cond.and _ .tt).before a A.U = true; rw [Cond.before_and, mv hU wc]; rfl, mv hU wc, mv hU wz, hp.2.2.1, hp.2.2.2⟩)
    (fun m meth c A a g mk Y hp => ⟨hp.1, wtrans hZ Y.warmed, hp.2.1, IB_same I Y.warmed.interned_eq⟩) (fun _ _ _ _ _ _ _ _ _ => trivial)
    (fun _ _ _ _ ⟨v, L, h1, h2, h3⟩ => ⟨L, _, _, h3, rfl, rfl, v, h1, h2⟩)
    (fun m meth c A a g mk v t L k n Y hp _ _ ⟨e1, e2, v', e3, e4⟩ => by cases e3; subst e1 e2; exact ⟨L, e4, rfl, rfl, rfl⟩)
theorem nsRoot {Z : State} {a0 : Array Value} {O K : String} (w0 : (Cond.noSuperclass O).before a0 Z = true) {x y : MethodName} (ws : (Cond.selects K x y).before a0 Z = true) (hn : O ≠ K) : NS Z O K := by
  obtain ⟨co, ko, o1, o2, o3, -, -⟩ := Cond.noSuperclass_spec w0
  obtain ⟨c2, r2, m2, i1, -, -, -, -, -, -⟩ := Cond.selects_spec ws
  have ne1 := ids_ne o1 i1 hn
  exact ⟨co, c2, o1, i1, fun fuel => by cases fuel with | zero => rfl | succ f => simp [Vm.isSubclassAux, ne1, o2, o3]⟩
theorem nsNo {Z : State} {a0 : Array Value} {C S K : String} (w1 : (Cond.superclass C S).before a0 Z = true) (n : NS Z C K) {x y : MethodName} (ws : (Cond.selects K x y).before a0 Z = true) (hy : y.cls = K) (hn : C ≠ K) : ∃ c t, Z.vm.findClass C = some c ∧ Z.vm.findClass K = some t ∧ Z.vm.assignable c t = false := by
  obtain ⟨c, t, h0, g0, n3⟩ := n
  obtain ⟨p, k, kp, h1, h2, h3, h4, h5, -, h7⟩ := Cond.superclass_spec h0 w1
  obtain ⟨c2, r2, m2, -, -, q3, -, kP, hkP, hkPi⟩ := Cond.selects_spec ws
  have hck : m2.cls = t := Option.some.inj ((findClass_of_methodNamed q3).symm.trans (hy ▸ g0))
  rw [hck] at hkP
  have ne := ids_ne h0 g0 hn
  refine ⟨c, t, h0, g0, ?_⟩
  show Z.vm.assignableAux (255 + 1) c t = false
  rw [Vm.assignableAux]
  simp only [h2, hkP, h5, hkPi, Vm.isSubclass, n3]
  cases kP.kind <;> simp [ne]
theorem neAV {Z : State} {h : Heap} {a b : Addr} {C : String} {n : Nat} {a0 : Array Value} {k : ClassId} {ty : FieldType} {z : Int32} {vs : List Value} {dv : Value} (w : (Cond.instantiable C n).before a0 Z = true) (E : Exa Z h a C) (V : Arv Z h b k ty z vs dv) : a ≠ b := by
  rintro rfl
  obtain ⟨cell, k1, e1, e2, e3, -, -⟩ := E
  obtain ⟨cl, ⟨v1, ⟨-, k2, hk2, comp, hkind⟩, -⟩, -⟩ := V
  obtain ⟨cI, kI, hfI, hkI, hkindI, -⟩ := Cond.instantiable_spec w
  cases e1.symm.trans v1
  cases e2.symm.trans hfI
  cases hkI.symm.trans hk2
  rw [hkindI] at hkind; cases hkind
theorem neFF {Z : State} {h : Heap} {a b x : Addr} {C n d : String} (F : Fld Z h a C n d .null) (G : Fld Z h b C n d (.ref x)) : a ≠ b := by
  rintro rfl
  obtain ⟨c1, cf1, k1, i1, f1, g1, g2, -, -, -, -, g7⟩ := F
  obtain ⟨c2, cf2, k2, i2, f2, v1, v2, -, -, -, -, v7⟩ := G
  cases g1.symm.trans v1
  cases g2.symm.trans v2
  rw [g7] at v7; cases v7
end Jvm.Own
namespace Jvm.Pilot.@@N@@
open Jvm Jvm.ClassFile Sem Op Lib Jvm.Free Jvm.Stand Jvm.LawKit Jvm.RoadKit Jvm.Own Bundle Jvm.Pilot.@@N@@.Jvm.D
theorem own_w {Z : State} {a0 : Array Value} (hw : ∀ d ∈ tables_1, d.before a0 Z = true) (i : Nat) {d : Jvm.Cond} (h : tables_1[i]? = some d) : d.before a0 Z = true := hw _ (List.mem_of_getElem? h)
abbrev own_x0 (c : Int32) : Int32 := nar .byte ((c >>> (0 : Int32)).toInt8.toInt32)
abbrev own_x8 (c : Int32) : Int32 := nar .byte ((c >>> (8 : Int32)).toInt8.toInt32)
abbrev own_xl (c : Int32) : Int32 := nar .byte (c.toInt8.toInt32)

def own_c8 (b : Int32) : Int32 := nar .char ((b &&& (255 : Int32)).toUInt32.toUInt16.toUInt32.toInt32)
def own_c16 (b0 b1 : Int32) : Int32 := nar .char ((((b0 &&& (255 : Int32)) <<< (0 : Int32)) ||| ((b1 &&& (255 : Int32)) <<< (8 : Int32))).toUInt32.toUInt16.toUInt32.toInt32)
theorem own_255 (i : Nat) : (255#32).getLsbD i = decide (i < 8) := by
  rw [BitVec.getLsbD_ofNat, show (255 : Nat) = 2 ^ 8 - 1 from rfl, Nat.testBit_two_pow_sub_one]
  by_cases h : i < 8 <;> simp [h]
  omega
theorem own_narb (x : Int32) : (nar .byte x &&& (255 : Int32)).toBitVec = x.toBitVec &&& 255#32 := by
  apply BitVec.eq_of_getLsbD_eq
  intro i hi
  simp [nar, own_255, BitVec.getLsbD_signExtend]
  by_cases h : i < 8 <;> simp [h, hi]
theorem own_nb8 (x : Int32) : nar .byte (x.toInt8.toInt32) &&& (255 : Int32) = x &&& 255 := by
  apply Int32.toBitVec_inj.mp
  rw [own_narb]
  apply BitVec.eq_of_getLsbD_eq
  intro i hi
  simp [own_255, BitVec.getLsbD_signExtend]
  by_cases h : i < 8 <;> simp [h, hi]
theorem own_narc (x : Int32) (h1 : ¬ x < 0) (h2 : ¬ (65535 : Int32) < x) : nar .char x = x := by
  have h := c_i2c x
  rw [Int32.lt_iff_toInt_lt] at h1 h2
  rw [show (0 : Int32).toInt = 0 from rfl] at h1
  rw [show (65535 : Int32).toInt = 65535 from rfl] at h2
  apply Int32.toInt_inj.mp
  show (x.toUInt32.toUInt16.toUInt32.toInt32).toInt = x.toInt
  omega
theorem own_narcr (x : Int32) : ¬ nar .char x < 0 ∧ ¬ (65535 : Int32) < nar .char x := by
  have h := c_i2c x
  rw [Int32.lt_iff_toInt_lt, Int32.lt_iff_toInt_lt]
  rw [show (0 : Int32).toInt = 0 from rfl, show (65535 : Int32).toInt = 65535 from rfl]
  show ¬ (x.toUInt32.toUInt16.toUInt32.toInt32).toInt < 0 ∧ ¬ 65535 < (x.toUInt32.toUInt16.toUInt32.toInt32).toInt
  omega
theorem own_m255 (x : Int32) (h1 : ¬ x < 0) (h2 : ¬ (255 : Int32) < x) : x &&& (255 : Int32) = x := by
  have h := c_mask x 255 8 (by decide) (by decide)
  rw [Int32.lt_iff_toInt_lt] at h1 h2
  rw [show (0 : Int32).toInt = 0 from rfl] at h1
  rw [show (255 : Int32).toInt = 255 from rfl] at h2
  apply Int32.toInt_inj.mp
  rw [h]; omega
/-- a Latin-1 char comes back -/
theorem own_l8 (c : Int32) (h1 : ¬ c < 0) (h2 : ¬ (255 : Int32) < c) : own_c8 (nar .byte (c.toInt8.toInt32)) = c := by
  have e : nar .byte (c.toInt8.toInt32) &&& (255 : Int32) = c := by rw [own_nb8, own_m255 c h1 h2]
  have h3 : ¬ (65535 : Int32) < c := fun q => h2 (Int32.lt_trans (by decide) q)
  have e2 : c.toUInt32.toUInt16.toUInt32.toInt32 = c := own_narc c h1 h3
  unfold own_c8
  rw [e, e2, own_narc c h1 h3]
theorem own_l16 (c : Int32) (h1 : ¬ c < 0) (h2 : ¬ (65535 : Int32) < c) : own_c16 (nar .byte ((c >>> (0 : Int32)).toInt8.toInt32)) (nar .byte ((c >>> (8 : Int32)).toInt8.toInt32)) = c := by
  unfold own_c16
  rw [own_nb8, own_nb8]
  have e0 : c >>> (0 : Int32) = c := by simp
  rw [e0]
  have e : ((c &&& (255 : Int32)) <<< (0 : Int32)) ||| (((c >>> (8 : Int32)) &&& (255 : Int32)) <<< (8 : Int32)) = c := by
    have hb : ∀ i, 16 ≤ i → c.toBitVec.getLsbD i = false := by
      intro i hi
      rw [Int32.lt_iff_toInt_lt] at h1 h2
      rw [show (0 : Int32).toInt = 0 from rfl] at h1
      rw [show (65535 : Int32).toInt = 65535 from rfl] at h2
      have h3 : c.toInt = c.toBitVec.toInt := rfl
      have h4 : c.toBitVec.toNat < 65536 := by
        rw [h3, BitVec.toInt_eq_toNat_cond] at h1 h2
        split at h1 <;> simp_all <;> omega
      rw [BitVec.getLsbD, Nat.testBit_lt_two_pow]
      exact Nat.lt_of_lt_of_le h4 (Nat.le_trans (by decide : 65536 ≤ 2 ^ 16) (Nat.pow_le_pow_right (by decide) hi))
    apply Int32.toBitVec_inj.mp
    apply BitVec.eq_of_getLsbD_eq
    intro i hi
    have key : 8 ≤ i → 8 + (i - 8) = i := fun h => by omega
    simp [own_255, BitVec.getLsbD_sshiftRight]
    rcases Nat.lt_or_ge i 8 with a | a
    · simp [a]
    · rcases Nat.lt_or_ge i 16 with b | b
      · have q1 : ¬ i < 8 := by omega
        have q2 : i - 8 < 8 := by omega
        have q3 : i - 8 < 32 := by omega
        simp [hi, q1, q2, q3, key a]
      · have q1 : ¬ i < 8 := by omega
        have q2 : ¬ (i - 8 < 8) := by omega
        rw [hb i b]; simp [q1, q2]
  rw [e]
  have e2 : c.toUInt32.toUInt16.toUInt32.toInt32 = c := own_narc c h1 h2
  rw [e2, own_narc c h1 h2]

theorem own_nar2 (x : Int32) : nar .char (nar .char x) = nar .char x := own_narc _ (own_narcr x).1 (own_narcr x).2
def own_G (Z : State) (cs1 : Int32) (fm : Value) : Prop := Sta Z Z.heap "java/lang/String" "COMPACT_STRINGS" "Z" (.int cs1) ∧ ¬ (cs1 = (0 : Int32)) ∧ Sta Z Z.heap "jdk/internal/util/Preconditions" "SIOOBE_FORMATTER" "Ljava/util/function/BiFunction;" fm ∧ fm.isRef = true

theorem own_sA {Z : State} {a0 : Array Value} (hw : ∀ d ∈ tables_1, d.before a0 Z = true) : ∀ a ∈ Bundle.stringAtoms, a.before a0 Z = true := fun a h => hw a ((by decide +kernel : ∀ w ∈ Bundle.stringAtoms, w ∈ tables_1) a h)
def own_at (cs : List Int32) (i : Nat) : Int32 := cs.getD i 0
def own_nl (cs : List Int32) : Nat → Nat
  | 0 => 0
  | i + 1 => own_nl cs i + (if own_at cs i = 10 then 1 else 0)
theorem own_nl_s (cs : List Int32) (i : Nat) : own_nl cs (i + 1) = own_nl cs i + (if own_at cs i = 10 then 1 else 0) := rfl
theorem own_nl_le (cs : List Int32) : ∀ i, own_nl cs i ≤ i := by
  intro i; induction i with
  | zero => exact Nat.le_refl _
  | succ i ih => rw [own_nl_s]; split <;> omega
theorem own_nl_mono (cs : List Int32) : ∀ k i, own_nl cs i ≤ own_nl cs (i + k) := by
  intro k i; induction k with
  | zero => exact Nat.le_refl _
  | succ k ih => rw [← Nat.add_assoc, own_nl_s]; omega
theorem own_nl_lt (cs : List Int32) {i n : Nat} (h : i < n) (q : own_at cs i = 10) : 1 + own_nl cs i < 1 + own_nl cs n := by
  have h1 := own_nl_mono cs (n - (i + 1)) (i + 1)
  rw [show i + 1 + (n - (i + 1)) = n by omega, own_nl_s, if_pos q] at h1
  omega
def own_st (cs : List Int32) (n : Nat) : Nat → List Int32
  | 0 => List.replicate (1 + own_nl cs n) 0
  | i + 1 => if own_at cs i = 10 then (own_st cs n i).set (1 + own_nl cs i) (Int32.ofNat (i + 1)) else own_st cs n i
theorem own_st_len (cs : List Int32) (n : Nat) : ∀ i, (own_st cs n i).length = 1 + own_nl cs n := by
  intro i; induction i with
  | zero => simp [own_st]
  | succ i ih => unfold own_st; split <;> simp [ih]
theorem own_lt32 {a b : Nat} (ha : a < 32) (hb : b < 32) : (Int32.ofNat a < Int32.ofNat b ↔ a < b) := by
  have : ∀ x y : Fin 32, (Int32.ofNat x.val < Int32.ofNat y.val ↔ x.val < y.val) := by decide +kernel
  exact this ⟨a, ha⟩ ⟨b, hb⟩
theorem own_cl32 {a : Nat} (ha : a < 32) : (Int32.ofNat a).toNatClampNeg = a := by
  have : ∀ x : Fin 32, (Int32.ofNat x.val).toNatClampNeg = x.val := by decide +kernel
  exact this ⟨a, ha⟩
theorem own_nn32 {a : Nat} (ha : a < 32) : ¬ Int32.ofNat a < (0 : Int32) := by
  have : ∀ x : Fin 32, ¬ Int32.ofNat x.val < (0 : Int32) := by decide +kernel
  exact this ⟨a, ha⟩
theorem own_up1 (a : Nat) : Int32.ofNat (a + 1) = Int32.ofNat a + (1 : Int32) := by
  apply Int32.toBitVec_inj.mp
  simp
theorem own_sv (cs : List Int32) (n : Nat) : ∀ i, i ≤ n → ∀ k, 1 ≤ k → k ≤ own_nl cs i → ∃ q, q < i ∧ own_at cs q = 10 ∧ own_nl cs q = k - 1 ∧ (own_st cs n i).getD k 0 = Int32.ofNat (q + 1) := by
  intro i; induction i with
  | zero => intro _ k h1 h2; simp [own_nl] at h2; omega
  | succ i ih =>
    intro hi k h1 h2
    rw [own_nl_s] at h2
    by_cases q : own_at cs i = 10
    · rw [if_pos q] at h2
      have hs : own_st cs n (i + 1) = (own_st cs n i).set (1 + own_nl cs i) (Int32.ofNat (i + 1)) := by simp [own_st, q]
      have hlt := own_nl_lt cs (i := i) (n := n) (by omega) q
      by_cases e : k = own_nl cs i + 1
      · refine ⟨i, by omega, q, by omega, ?_⟩
        rw [hs, show k = 1 + own_nl cs i by omega]
        simp only [List.getD_eq_getElem?_getD]
        rw [List.getElem?_set_self (by rw [own_st_len]; exact hlt)]; rfl
      · obtain ⟨p, a, b, c, d⟩ := ih (by omega) k h1 (by omega)
        refine ⟨p, by omega, b, c, ?_⟩
        rw [hs, ← d]
        simp only [List.getD_eq_getElem?_getD]
        rw [List.getElem?_set_ne (by omega)]
    · rw [if_neg q] at h2
      have hs : own_st cs n (i + 1) = own_st cs n i := by simp [own_st, q]
      obtain ⟨p, a, b, c, d⟩ := ih (by omega) k h1 (by omega)
      exact ⟨p, by omega, b, c, by rw [hs]; exact d⟩
theorem own_st0 (cs : List Int32) (n : Nat) : ∀ i, i ≤ n → (own_st cs n i).getD 0 0 = 0 := by
  intro i; induction i with
  | zero => intro _; simp [own_st, List.getD_eq_getElem?_getD, List.getElem?_replicate]; split <;> rfl
  | succ i ih =>
    intro hi
    unfold own_st; split
    · have z := ih (by omega)
      refine Eq.trans ?_ z
      simp only [List.getD_eq_getElem?_getD]
      rw [List.getElem?_set_ne (by omega)]
    · exact ih (by omega)
theorem own_nl_mono' (cs : List Int32) {i j : Nat} (h : i ≤ j) : own_nl cs i ≤ own_nl cs j := by
  have z := own_nl_mono cs (j - i) i
  rwa [show i + (j - i) = j by omega] at z
/-- what stands at a place of the starts -/
theorem own_sg (cs : List Int32) (n j : Nat) (hj : j < 1 + own_nl cs n) : ∃ g, g ≤ n ∧ (own_st cs n n).getD j 0 = Int32.ofNat g ∧ own_nl cs g = j ∧ ∀ o, (g ≤ o ↔ j ≤ own_nl cs o) := by
  by_cases e : j = 0
  · subst e
    exact ⟨0, by omega, own_st0 cs n n (Nat.le_refl _), rfl, fun o => by simp⟩
  · obtain ⟨q, a, b, c, d⟩ := own_sv cs n n (Nat.le_refl _) j (by omega) (by omega)
    have hn : own_nl cs (q + 1) = j := by rw [own_nl_s, if_pos b]; omega
    refine ⟨q + 1, by omega, d, hn, fun o => ⟨fun h => ?_, fun h => ?_⟩⟩
    · have z := own_nl_mono' cs h; omega
    · rcases Nat.lt_or_ge q o with r | r
      · exact r
      · have z := own_nl_mono' cs r; omega
theorem own_sm (cs : List Int32) (n j : Nat) (h : j < 32) : ((own_st cs n n).map Value.int).getD ((Int32.ofNat j)).toNatClampNeg (.int (0 : Int32)) = .int ((own_st cs n n).getD j 0) := by
  rw [own_cl32 h]
  simp only [List.getD_eq_getElem?_getD, List.getElem?_map]
  cases (own_st cs n n)[j]? <;> rfl
theorem own_mid {a b : Nat} (ha : a < 16) (hb : b < 16) : (((Int32.ofNat a) + (Int32.ofNat b)).toUInt32 >>> (1 : UInt32)).toInt32 = Int32.ofNat ((a + b) / 2) := by
  have : ∀ x y : Fin 16, (((Int32.ofNat x.1) + (Int32.ofNat y.1)).toUInt32 >>> (1 : UInt32)).toInt32 = Int32.ofNat ((x.1 + y.1) / 2) := by decide +kernel
  exact this ⟨a, ha⟩ ⟨b, hb⟩
theorem own_dn1 {a : Nat} (h : a < 16) (h1 : 1 ≤ a) : Int32.ofNat a - (1 : Int32) = Int32.ofNat (a - 1) := by
  have : ∀ x : Fin 16, 1 ≤ x.1 → Int32.ofNat x.1 - (1 : Int32) = Int32.ofNat (x.1 - 1) := by decide +kernel
  exact this ⟨a, h⟩ h1
theorem own_ngt {a : Nat} (h : a < 16) : (-(Int32.ofNat a + (1 : Int32))) < (0 : Int32) ∧ -(-(Int32.ofNat a + (1 : Int32))) - (1 : Int32) = Int32.ofNat a := by
  have : ∀ x : Fin 16, (-(Int32.ofNat x.1 + (1 : Int32))) < (0 : Int32) ∧ -(-(Int32.ofNat x.1 + (1 : Int32))) - (1 : Int32) = Int32.ofNat x.1 := by decide +kernel
  exact this ⟨a, h⟩

def own_ds (cs : List Int32) (n : Nat) : Nat → List Int32
  | 0 => List.replicate n 0
  | i + 1 => (own_ds cs n i).set i (nar .byte ((own_at cs i).toInt8.toInt32))
theorem own_ds_len (cs : List Int32) (n : Nat) : ∀ i, (own_ds cs n i).length = n := by
  intro i; induction i with
  | zero => simp [own_ds]
  | succ i ih => unfold own_ds; simp [ih]
theorem own_mg (cs : List Int32) (i : Nat) (h : i < 32) : (cs.map Value.int).getD ((Int32.ofNat i)).toNatClampNeg (.int (0 : Int32)) = .int (own_at cs i) := by
  rw [own_cl32 h]; unfold own_at
  simp only [List.getD_eq_getElem?_getD, List.getElem?_map]
  cases cs[i]? <;> rfl

theorem own_c255 (x : Int32) : ¬ (x &&& (255 : Int32)).toUInt32.toUInt16.toUInt32.toInt32 < 0 ∧ ¬ (255 : Int32) < (x &&& (255 : Int32)).toUInt32.toUInt16.toUInt32.toInt32 := by
  have h0 := c_mask x 255 8 (by decide) (by decide)
  have h := c_i2c (x &&& (255 : Int32))
  rw [Int32.lt_iff_toInt_lt, Int32.lt_iff_toInt_lt, show (0 : Int32).toInt = 0 from rfl, show (255 : Int32).toInt = 255 from rfl]
  omega
theorem own_le255 {c : Int32} (h2 : ¬ (255 : Int32) < c) : ¬ (65535 : Int32) < c := fun q => h2 (Int32.lt_trans (by decide) q)
theorem own_n255 (x : Int32) : ¬ nar .char ((x &&& (255 : Int32)).toUInt32.toUInt16.toUInt32.toInt32) < 0 ∧ ¬ (255 : Int32) < nar .char ((x &&& (255 : Int32)).toUInt32.toUInt16.toUInt32.toInt32) := by
  have z := own_c255 x
  rw [own_narc _ z.1 (own_le255 z.2)]; exact z
def own_n1 (c : Int32) (i ko : Nat) : Int32 := if i < ko then (if c = 10 then 1 else 0) else 0
theorem own_of1 (a : Nat) (P : Prop) [Decidable P] : Int32.ofNat (a + (if P then 1 else 0)) = Int32.ofNat a + (if P then 1 else 0) := by
  split
  · exact own_up1 a
  · simp
theorem own_alc (a b c : Int32) : a + (b + c) = b + (a + c) := by rw [← Int32.add_assoc, Int32.add_comm a b, Int32.add_assoc]
theorem own_ofi (P : Prop) [Decidable P] : Int32.ofNat (if P then 1 else 0) = (if P then 1 else 0) := by split <;> rfl
theorem own_modk (x : Int32) (n : Nat) (hn : n < 8) : ∃ ko, ko ≤ n ∧ (x &&& (2147483647 : Int32)) % (Int32.ofNat (n + 1)) = Int32.ofNat ko := by
  have h0 := c_mask x 2147483647 31 (by decide) (by decide)
  have hz : (Int32.ofNat (n + 1)).toInt = (n + 1 : Int) := by rw [Int32.toInt_ofNat_small (by omega)]; rfl
  have h1 := (c_irem (x &&& 2147483647) (Int32.ofNat (n + 1)) (n + 1 : Int) (by omega)).1 (by omega)
  have b1 := Int.emod_nonneg (x &&& 2147483647).toInt (show (n + 1 : Int) ≠ 0 by omega)
  have b2 := Int.emod_lt_of_pos (x &&& 2147483647).toInt (show (0 : Int) < (n + 1 : Int) by omega)
  refine ⟨((x &&& (2147483647 : Int32)) % (Int32.ofNat (n + 1))).toInt.toNat, by omega, Int32.toInt_inj.mp ?_⟩
  rw [Int32.toInt_ofNat_small (by omega)]; omega
theorem own_rem7 (x : Int32) : (x &&& 2147483647) % 7 = 0 ∨ (x &&& 2147483647) % 7 = 1 ∨ (x &&& 2147483647) % 7 = 2 ∨ (x &&& 2147483647) % 7 = 3 ∨ (x &&& 2147483647) % 7 = 4 ∨ (x &&& 2147483647) % 7 = 5 ∨ (x &&& 2147483647) % 7 = 6 := by
  obtain ⟨ko, h, e⟩ := own_modk x 6 (by decide)
  have e7 : Int32.ofNat (6 + 1) = 7 := rfl
  rw [e7] at e; rw [e]
  rcases (by omega : ko = 0 ∨ ko = 1 ∨ ko = 2 ∨ ko = 3 ∨ ko = 4 ∨ ko = 5 ∨ ko = 6) with rfl | rfl | rfl | rfl | rfl | rfl | rfl <;> decide
theorem own_fin0 (x0 x1 x2 x3 x4 x5 : Int32) (ko : Nat) (h : ko ≤ 0) : Int32.ofNat (own_nl [] ko + 1) = (1 : Int32) + (((((own_n1 x0 0 ko + own_n1 x1 1 ko) + own_n1 x2 2 ko) + own_n1 x3 3 ko) + own_n1 x4 4 ko) + own_n1 x5 5 ko) := by
  rcases (by omega : ko = 0) with rfl <;> simp [own_n1, own_nl, own_at, own_up1, own_of1, own_ofi, Int32.add_comm, own_alc, Int32.add_assoc]
theorem own_fin1 (x0 x1 x2 x3 x4 x5 : Int32) (ko : Nat) (h : ko ≤ 1) : Int32.ofNat (own_nl [x0] ko + 1) = (1 : Int32) + (((((own_n1 x0 0 ko + own_n1 x1 1 ko) + own_n1 x2 2 ko) + own_n1 x3 3 ko) + own_n1 x4 4 ko) + own_n1 x5 5 ko) := by
  rcases (by omega : ko = 0 ∨ ko = 1) with rfl | rfl <;> simp [own_n1, own_nl, own_at, own_up1, own_of1, own_ofi, Int32.add_comm, own_alc, Int32.add_assoc]
theorem own_fin2 (x0 x1 x2 x3 x4 x5 : Int32) (ko : Nat) (h : ko ≤ 2) : Int32.ofNat (own_nl [x0, x1] ko + 1) = (1 : Int32) + (((((own_n1 x0 0 ko + own_n1 x1 1 ko) + own_n1 x2 2 ko) + own_n1 x3 3 ko) + own_n1 x4 4 ko) + own_n1 x5 5 ko) := by
  rcases (by omega : ko = 0 ∨ ko = 1 ∨ ko = 2) with rfl | rfl | rfl <;> simp [own_n1, own_nl, own_at, own_up1, own_of1, own_ofi, Int32.add_comm, own_alc, Int32.add_assoc]
theorem own_fin3 (x0 x1 x2 x3 x4 x5 : Int32) (ko : Nat) (h : ko ≤ 3) : Int32.ofNat (own_nl [x0, x1, x2] ko + 1) = (1 : Int32) + (((((own_n1 x0 0 ko + own_n1 x1 1 ko) + own_n1 x2 2 ko) + own_n1 x3 3 ko) + own_n1 x4 4 ko) + own_n1 x5 5 ko) := by
  rcases (by omega : ko = 0 ∨ ko = 1 ∨ ko = 2 ∨ ko = 3) with rfl | rfl | rfl | rfl <;> simp [own_n1, own_nl, own_at, own_up1, own_of1, own_ofi, Int32.add_comm, own_alc, Int32.add_assoc]
theorem own_fin4 (x0 x1 x2 x3 x4 x5 : Int32) (ko : Nat) (h : ko ≤ 4) : Int32.ofNat (own_nl [x0, x1, x2, x3] ko + 1) = (1 : Int32) + (((((own_n1 x0 0 ko + own_n1 x1 1 ko) + own_n1 x2 2 ko) + own_n1 x3 3 ko) + own_n1 x4 4 ko) + own_n1 x5 5 ko) := by
  rcases (by omega : ko = 0 ∨ ko = 1 ∨ ko = 2 ∨ ko = 3 ∨ ko = 4) with rfl | rfl | rfl | rfl | rfl <;> simp [own_n1, own_nl, own_at, own_up1, own_of1, own_ofi, Int32.add_comm, own_alc, Int32.add_assoc]
theorem own_fin5 (x0 x1 x2 x3 x4 x5 : Int32) (ko : Nat) (h : ko ≤ 5) : Int32.ofNat (own_nl [x0, x1, x2, x3, x4] ko + 1) = (1 : Int32) + (((((own_n1 x0 0 ko + own_n1 x1 1 ko) + own_n1 x2 2 ko) + own_n1 x3 3 ko) + own_n1 x4 4 ko) + own_n1 x5 5 ko) := by
  rcases (by omega : ko = 0 ∨ ko = 1 ∨ ko = 2 ∨ ko = 3 ∨ ko = 4 ∨ ko = 5) with rfl | rfl | rfl | rfl | rfl | rfl <;> simp [own_n1, own_nl, own_at, own_up1, own_of1, own_ofi, Int32.add_comm, own_alc, Int32.add_assoc]
theorem own_fin6 (x0 x1 x2 x3 x4 x5 : Int32) (ko : Nat) (h : ko ≤ 6) : Int32.ofNat (own_nl [x0, x1, x2, x3, x4, x5] ko + 1) = (1 : Int32) + (((((own_n1 x0 0 ko + own_n1 x1 1 ko) + own_n1 x2 2 ko) + own_n1 x3 3 ko) + own_n1 x4 4 ko) + own_n1 x5 5 ko) := by
  rcases (by omega : ko = 0 ∨ ko = 1 ∨ ko = 2 ∨ ko = 3 ∨ ko = 4 ∨ ko = 5 ∨ ko = 6) with rfl | rfl | rfl | rfl | rfl | rfl | rfl <;> simp [own_n1, own_nl, own_at, own_up1, own_of1, own_ofi, Int32.add_comm, own_alc, Int32.add_assoc]

theorem d16_0 : decode jdk_42_method_154_code 0 = .ok (.getstatic 38, 3) := by decide +kernel
theorem d16_3 : decode jdk_42_method_154_code 3 = .ok (.ifCond .eq 14, 3) := by decide +kernel
theorem d16_6 : decode jdk_42_method_154_code 6 = .ok (.aload_n 0, 1) := by decide +kernel
theorem d16_7 : decode jdk_42_method_154_code 7 = .ok (.getfield 15, 3) := by decide +kernel
theorem d16_10 : decode jdk_42_method_154_code 10 = .ok (.ifCond .ne 7, 3) := by decide +kernel
theorem d16_13 : decode jdk_42_method_154_code 13 = .ok (.iconst 1, 1) := by decide +kernel
theorem d16_14 : decode jdk_42_method_154_code 14 = .ok (.goto 4, 3) := by decide +kernel
theorem d16_18 : decode jdk_42_method_154_code 18 = .ok (.ireturn, 1) := by decide +kernel
theorem pn16 : plainFor (⟨"java/lang/String", "isLatin1", "()Z"⟩ : MethodName) = true := plainFor_of_name (by first | (simp [plainName, overriddenIn]; done) | decide +kernel)
theorem ef_rm16_0 (m : MethodId) (a1 : Addr) (cs1 : Int32) (fm : Value) : entryFrame m #[(.ref a1)] 1 = mkF m 0 #[.val (.ref a1)] [] := by first | (simp [entryFrame, mkF, argsToLocals, Value.category]; done) | rfl
def Q16_0 (Z : State) (a1 : Addr) (cs1 : Int32) (fm : Value) (h0 : Heap) (n0 : Nat) (v : Option Value) (h : Heap) (L : List Loc) : Prop := v = some (.int (1 : Int32)) ∧ Fr n0 L ∧ (h = h0)
set_option maxRecDepth 65536 in
set_option maxHeartbeats 40000000 in
theorem rm16_0 (l : Launch) (Z : State) (a0 : Array Value) (hw : ∀ d ∈ tables_1, d.before a0 Z = true) (ws : List Jvm.Cond) (a1 : Addr) (cs1 : Int32) (fm : Value) (h0 : Heap) (n0 : Nat) (Z0 : n0 ≤ h0.size) (O1 : Old Z n0 h0) (G : own_G Z cs1 fm) (F1 : Fld Z h0 a1 "java/lang/String" "coder" "B" (.int (0 : Int32))) :
  MetFree l (⟨"java/lang/String", "isLatin1", "()Z"⟩ : MethodName) (head1 (Jvm.Cond.code (⟨"java/lang/String", "isLatin1", "()Z"⟩ : MethodName) jdk_42_method_154_code 1 (some .boolean) :: ws) ({ frames := 0, cells := 0, slots := 0, locals := 0 } : Room)) (fun a U => a = #[(.ref a1)] ∧ Z.Warmed39 U.vm ∧ U.heap = h0) (fun _ _ _ _ _ => True) (fun _ U o U' => ∃ v L, o = .returned v ∧ Q16_0 Z a1 cs1 fm h0 n0 v U'.heap L ∧ FrameEnd U o U' L ({ frames := 0, cells := 0, slots := 0, locals := 0 } : Room).cells ({ frames := 0, cells := 0, slots := 0, locals := 0 } : Room).slots) := by
 refine MetFree.of_bodySF pn16 hisR ?_
 intro p e s m args below meth c s₁ Bd hml0 hP hK
 obtain ⟨rfl, hZ, hh⟩ := hP
 have hx := Bd.exec
 have hby := Bd.bytes
 have hml : c.maxLocals = 1 := hml0
 have hown : s.vm.findClass "java/lang/String" = some m.cls := findClass_of_methodNamed Bd.named
 have hnm := (name_of_methodNamed Bd.named Bd.method).1
 have X0 : Stand p l e ({ frames := 0, cells := 0, slots := 0, locals := 0 } : Room) s m #[(.ref a1)] below meth c s₁ [] 0 0 := Stand.of_body Bd
 have e0 : s₁.heap = h0 := by rw [← hh, Bd.state]; rfl
 have N0 := Fr.nil n0
 have p0 : Go p.tables e below (s₁.setTop (entryFrame m #[(.ref a1)] 1)) (s₁.setTop (mkF m 0 #[.val (.ref a1)] [])) := fun t_ k_ => castTop (ef_rm16_0 m a1 cs1 fm) k_
 obtain ⟨T101, X101, e101, st101⟩ := getS2 X0 hx hZ hown (host := "") (Or.inl (own_w hw 47 rfl)) Via.refl e0 (G.1.ext O1.2) (g := (mkF m 0 #[.val (.ref a1)] [])) rfl (hb hby d16_0)
 have c102 : ¬ (cs1 = (0 : Int32)) := G.2.1
 have p103 : Go p.tables e below _ (T101.setTop (mkF m 7 #[.val (.ref a1)] [(.ref a1)])) := fun t_ k_ => (gc p0 st101) t_ (by
  refine XS.ifNo X101.here hx rfl (hb hby d16_3) rfl ((if0 _ _).trans (feq c102).1) ?_
  refine XS.aloadN X101.here hx rfl (hb hby d16_6) rfl rfl ?_
  exact k_)
 obtain ⟨T104, X104, e104, st104⟩ := getF X101 hx hZ hown (host := "") (Or.inl (own_w hw 27 rfl)) Via.refl e101 F1 (g := (mkF m 7 #[.val (.ref a1)] [(.ref a1)])) rfl rfl (hb hby d16_7)
 have p105 : Go p.tables e below _ (T104.setTop (mkF m 18 #[.val (.ref a1)] [(.int (1 : Int32))])) := fun t_ k_ => (gc p103 st104) t_ (by
  refine XS.ifNo X104.here hx rfl (hb hby d16_10) rfl ((if0 _ _).trans (teq (by decide : ((0 : Int32) = (0 : Int32)))).2) ?_
  refine XS.iconst X104.here hx rfl (hb hby d16_13) ?_
  refine XS.goto X104.here hx rfl (pc0 := 14) (pc' := 18) rfl (hb hby d16_14) (by decide) (by decide) ?_
  exact k_)
 obtain ⟨fs, hr, hrun, hended, hW, hsame⟩ := X104.leave (v := some (.int (1 : Int32))) (fun h => by rw [Bd.returns] at h; cases h)
 refine ⟨_, _, p105 _ (retN X104 hx (t := .boolean) Bd.returns (by simp) (hb hby d16_18) hr), hrun, hended, _, _, rfl, ?_, ⟨_, rfl⟩, hW, hsame.mono (by decide) (by decide)⟩
 show Q16_0 Z a1 cs1 fm h0 n0 _ T104.heap _
 rw [e104]
 exact ⟨rfl, N0, rfl⟩
theorem d7_0 : decode jdk_42_method_152_code 0 = .ok (.getstatic 38, 3) := by decide +kernel
theorem d7_3 : decode jdk_42_method_152_code 3 = .ok (.ifCond .eq 10, 3) := by decide +kernel
theorem d7_6 : decode jdk_42_method_152_code 6 = .ok (.aload_n 0, 1) := by decide +kernel
theorem d7_7 : decode jdk_42_method_152_code 7 = .ok (.getfield 15, 3) := by decide +kernel
theorem d7_10 : decode jdk_42_method_152_code 10 = .ok (.goto 4, 3) := by decide +kernel
theorem d7_14 : decode jdk_42_method_152_code 14 = .ok (.ireturn, 1) := by decide +kernel
theorem pn7 : plainFor (⟨"java/lang/String", "coder", "()B"⟩ : MethodName) = true := plainFor_of_name (by first | (simp [plainName, overriddenIn]; done) | decide +kernel)
theorem ef_rm7_0 (m : MethodId) (a1 : Addr) (cs1 : Int32) (fm : Value) : entryFrame m #[(.ref a1)] 1 = mkF m 0 #[.val (.ref a1)] [] := by first | (simp [entryFrame, mkF, argsToLocals, Value.category]; done) | rfl
def Q7_0 (Z : State) (a1 : Addr) (cs1 : Int32) (fm : Value) (h0 : Heap) (n0 : Nat) (v : Option Value) (h : Heap) (L : List Loc) : Prop := v = some (.int (0 : Int32)) ∧ Fr n0 L ∧ (h = h0)
set_option maxRecDepth 65536 in
set_option maxHeartbeats 40000000 in
theorem rm7_0 (l : Launch) (Z : State) (a0 : Array Value) (hw : ∀ d ∈ tables_1, d.before a0 Z = true) (ws : List Jvm.Cond) (a1 : Addr) (cs1 : Int32) (fm : Value) (h0 : Heap) (n0 : Nat) (Z0 : n0 ≤ h0.size) (O1 : Old Z n0 h0) (G : own_G Z cs1 fm) (F1 : Fld Z h0 a1 "java/lang/String" "coder" "B" (.int (0 : Int32))) :
  MetFree l (⟨"java/lang/String", "coder", "()B"⟩ : MethodName) (head1 (Jvm.Cond.code (⟨"java/lang/String", "coder", "()B"⟩ : MethodName) jdk_42_method_152_code 1 (some .byte) :: ws) ({ frames := 0, cells := 0, slots := 0, locals := 0 } : Room)) (fun a U => a = #[(.ref a1)] ∧ Z.Warmed39 U.vm ∧ U.heap = h0) (fun _ _ _ _ _ => True) (fun _ U o U' => ∃ v L, o = .returned v ∧ Q7_0 Z a1 cs1 fm h0 n0 v U'.heap L ∧ FrameEnd U o U' L ({ frames := 0, cells := 0, slots := 0, locals := 0 } : Room).cells ({ frames := 0, cells := 0, slots := 0, locals := 0 } : Room).slots) := by
 refine MetFree.of_bodySF pn7 hisR ?_
 intro p e s m args below meth c s₁ Bd hml0 hP hK
 obtain ⟨rfl, hZ, hh⟩ := hP
 have hx := Bd.exec
 have hby := Bd.bytes
 have hml : c.maxLocals = 1 := hml0
 have hown : s.vm.findClass "java/lang/String" = some m.cls := findClass_of_methodNamed Bd.named
 have hnm := (name_of_methodNamed Bd.named Bd.method).1
 have X0 : Stand p l e ({ frames := 0, cells := 0, slots := 0, locals := 0 } : Room) s m #[(.ref a1)] below meth c s₁ [] 0 0 := Stand.of_body Bd
 have e0 : s₁.heap = h0 := by rw [← hh, Bd.state]; rfl
 have N0 := Fr.nil n0
 have p0 : Go p.tables e below (s₁.setTop (entryFrame m #[(.ref a1)] 1)) (s₁.setTop (mkF m 0 #[.val (.ref a1)] [])) := fun t_ k_ => castTop (ef_rm7_0 m a1 cs1 fm) k_
 obtain ⟨T101, X101, e101, st101⟩ := getS2 X0 hx hZ hown (host := "") (Or.inl (own_w hw 47 rfl)) Via.refl e0 (G.1.ext O1.2) (g := (mkF m 0 #[.val (.ref a1)] [])) rfl (hb hby d7_0)
 have c102 : ¬ (cs1 = (0 : Int32)) := G.2.1
 have p103 : Go p.tables e below _ (T101.setTop (mkF m 7 #[.val (.ref a1)] [(.ref a1)])) := fun t_ k_ => (gc p0 st101) t_ (by
  refine XS.ifNo X101.here hx rfl (hb hby d7_3) rfl ((if0 _ _).trans (feq c102).1) ?_
  refine XS.aloadN X101.here hx rfl (hb hby d7_6) rfl rfl ?_
  exact k_)
 obtain ⟨T104, X104, e104, st104⟩ := getF X101 hx hZ hown (host := "") (Or.inl (own_w hw 27 rfl)) Via.refl e101 F1 (g := (mkF m 7 #[.val (.ref a1)] [(.ref a1)])) rfl rfl (hb hby d7_7)
 have p105 : Go p.tables e below _ (T104.setTop (mkF m 14 #[.val (.ref a1)] [(.int (0 : Int32))])) := fun t_ k_ => (gc p103 st104) t_ (by
  refine XS.goto X104.here hx rfl (pc0 := 10) (pc' := 14) rfl (hb hby d7_10) (by decide) (by decide) ?_
  exact k_)
 obtain ⟨fs, hr, hrun, hended, hW, hsame⟩ := X104.leave (v := some (.int (0 : Int32))) (fun h => by rw [Bd.returns] at h; cases h)
 refine ⟨_, _, p105 _ (retN X104 hx (t := .byte) Bd.returns (by simp) (hb hby d7_14) hr), hrun, hended, _, _, rfl, ?_, ⟨_, rfl⟩, hW, hsame.mono (by decide) (by decide)⟩
 show Q7_0 Z a1 cs1 fm h0 n0 _ T104.heap _
 rw [e104]
 exact ⟨rfl, N0, rfl⟩
theorem d6_0 : decode jdk_42_method_54_code 0 = .ok (.aload_n 0, 1) := by decide +kernel
theorem d6_1 : decode jdk_42_method_54_code 1 = .ok (.getfield 9, 3) := by decide +kernel
theorem d6_4 : decode jdk_42_method_54_code 4 = .ok (.arraylength, 1) := by decide +kernel
theorem d6_5 : decode jdk_42_method_54_code 5 = .ok (.aload_n 0, 1) := by decide +kernel
theorem d6_6 : decode jdk_42_method_54_code 6 = .ok (.invokevirtual 335, 3) := by decide +kernel
theorem d6_9 : decode jdk_42_method_54_code 9 = .ok (.ishr, 1) := by decide +kernel
theorem d6_10 : decode jdk_42_method_54_code 10 = .ok (.ireturn, 1) := by decide +kernel
theorem pd0 : parseMethodDescriptor "()B" = some ⟨[], some .byte⟩ := by decide +kernel
theorem pn6 : plainFor (⟨"java/lang/String", "length", "()I"⟩ : MethodName) = true := plainFor_of_name (by first | (simp [plainName, overriddenIn]; done) | decide +kernel)
theorem ef_rm6_0 (m : MethodId) (a1 : Addr) (n1 : Int32) (bv : Addr) (kv : ClassId) (z : Int32) (vs : List Value) (cs1 : Int32) (fm : Value) : entryFrame m #[(.ref a1)] 1 = mkF m 0 #[.val (.ref a1)] [] := by first | (simp [entryFrame, mkF, argsToLocals, Value.category]; done) | rfl
def Q6_0 (Z : State) (a1 : Addr) (n1 : Int32) (bv : Addr) (kv : ClassId) (z : Int32) (vs : List Value) (cs1 : Int32) (fm : Value) (h0 : Heap) (n0 : Nat) (v : Option Value) (h : Heap) (L : List Loc) : Prop := v = some (.int n1) ∧ Fr n0 L ∧ (h = h0)
set_option maxRecDepth 65536 in
set_option maxHeartbeats 40000000 in
theorem rm6_0 (l : Launch) (Z : State) (a0 : Array Value) (hw : ∀ d ∈ tables_1, d.before a0 Z = true) (ws : List Jvm.Cond) (a1 : Addr) (n1 : Int32) (bv : Addr) (kv : ClassId) (z : Int32) (vs : List Value) (cs1 : Int32) (fm : Value) (h0 : Heap) (n0 : Nat) (Z0 : n0 ≤ h0.size) (O1 : Old Z n0 h0) (G : own_G Z cs1 fm) (E1 : Exa Z h0 a1 "java/lang/String") (F1 : Fld Z h0 a1 "java/lang/String" "coder" "B" (.int (0 : Int32))) (F2 : Fld Z h0 a1 "java/lang/String" "value" "[B" (.ref bv)) (V1 : Arv Z h0 bv kv .byte z vs (.int (0 : Int32))) (hz : (z >>> (0 : Int32)) = n1) :
  MetFree l (⟨"java/lang/String", "length", "()I"⟩ : MethodName) (head1 (Jvm.Cond.code (⟨"java/lang/String", "length", "()I"⟩ : MethodName) jdk_42_method_54_code 1 (some .int) :: ws) ({ frames := 1, cells := 0, slots := 0, locals := 13 } : Room)) (fun a U => a = #[(.ref a1)] ∧ Z.Warmed39 U.vm ∧ U.heap = h0) (fun _ _ _ _ _ => True) (fun _ U o U' => ∃ v L, o = .returned v ∧ Q6_0 Z a1 n1 bv kv z vs cs1 fm h0 n0 v U'.heap L ∧ FrameEnd U o U' L ({ frames := 1, cells := 0, slots := 0, locals := 13 } : Room).cells ({ frames := 1, cells := 0, slots := 0, locals := 13 } : Room).slots) := by
 refine MetFree.of_bodySF pn6 hisR ?_
 intro p e s m args below meth c s₁ Bd hml0 hP hK
 obtain ⟨rfl, hZ, hh⟩ := hP
 have hx := Bd.exec
 have hby := Bd.bytes
 have hml : c.maxLocals = 1 := hml0
 have hown : s.vm.findClass "java/lang/String" = some m.cls := findClass_of_methodNamed Bd.named
 have hnm := (name_of_methodNamed Bd.named Bd.method).1
 have X0 : Stand p l e ({ frames := 1, cells := 0, slots := 0, locals := 13 } : Room) s m #[(.ref a1)] below meth c s₁ [] 0 0 := Stand.of_body Bd
 have e0 : s₁.heap = h0 := by rw [← hh, Bd.state]; rfl
 have N0 := Fr.nil n0
 have p0 : Go p.tables e below (s₁.setTop (entryFrame m #[(.ref a1)] 1)) (s₁.setTop (mkF m 0 #[.val (.ref a1)] [])) := fun t_ k_ => castTop (ef_rm6_0 m a1 n1 bv kv z vs cs1 fm) k_
 have p101 : Go p.tables e below _ (s₁.setTop (mkF m 1 #[.val (.ref a1)] [(.ref a1)])) := fun t_ k_ => p0 t_ (by
  refine XS.aloadN X0.here hx rfl (hb hby d6_0) rfl rfl ?_
  exact k_)
 obtain ⟨T102, X102, e102, st102⟩ := getF X0 hx hZ hown (host := "") (Or.inl (own_w hw 26 rfl)) Via.refl e0 F2 (g := (mkF m 1 #[.val (.ref a1)] [(.ref a1)])) rfl rfl (hb hby d6_1)
 obtain ⟨cl103, Ar103, -, S103, Ng103, -, -⟩ := id V1
 have p104 : Go p.tables e below _ (T102.setTop (mkF m 6 #[.val (.ref a1)] [(.ref a1), (.int z)])) := fun t_ k_ => (gc p101 st102) t_ (by
  refine X102.arraylength hx (by rw [e102]; exact Ar103.1) (State.isArrayOf_alike hZ.alike Ar103.2.1) (g := (mkF m 4 #[.val (.ref a1)] [(.ref bv)])) rfl rfl (hb hby d6_4) _ ?_
  rw [len_of S103 Ng103]
  show Steps p.tables e below (T102.setTop (mkF m 5 #[.val (.ref a1)] [(.int z)])) _
  refine XS.aloadN X102.here hx rfl (hb hby d6_5) rfl rfl ?_
  exact k_)
 obtain ⟨cq105, kq105, q105a, q105b, q105c⟩ := isOf hZ e102 E1
 obtain ⟨_, _, ⟨T105, L105, k105, n105⟩, -, X105, ⟨Lc105, hQ105, l105, y105, z105⟩, st105⟩ := X102.virtualBack hx (y := (⟨"java/lang/String", "coder", "()B"⟩ : MethodName)) (z := (⟨"java/lang/String", "coder", "()B"⟩ : MethodName)) hown (mvT hZ (own_w hw 42 rfl)) (mvT hZ (own_w hw 43 rfl)) (notFace_of_selects (args := #[]) (mvT hZ (own_w hw 45 rfl))) (mvT hZ (own_w hw 45 rfl)) (mvT hZ (own_w hw 44 rfl)) (by decide) (backOf (W := 1) (rm7_0 l Z a0 hw [] a1 cs1 fm h0 n0 (Nat.le_trans Z0 (Keep.refl h0 []).1) O1 G F1) hZ (own_w hw 46 rfl) (own_w hw 9 rfl) (by decide) (by decide)) q105a q105c (g := (mkF m 6 #[.val (.ref a1)] [(.ref a1), (.int z)])) rfl (by rw [hml]; rfl) (Steps.refl _) (argsL := []) (rest := [(.int z)]) (lenOf pd0 rfl) rfl (by show 2 * 0 + _ ≤ _; exact Nat.le_of_eq rfl) (hb hby d6_6) (fun _ _ => ⟨rfl, e102, (by decide : 0 + 0 ≤ _), (by decide : 0 + 0 ≤ _)⟩)
 dsimp only [Pt.U, Pt.locs, Pt.cells, Pt.slots] at X105 l105 y105 z105 st105 hQ105
 subst l105 y105 z105
 obtain ⟨rfl, N105q, q105_hh⟩ := hQ105
 have N105 := Fr.app N0 N105q
 have p106 : Go p.tables e below _ (T105.setTop (mkF m 10 #[.val (.ref a1)] [(.int (z >>> (0 : Int32)))])) := fun t_ k_ => (gcT p104 st105) t_ (by
  refine XS.ishr X105.here hx rfl (hb hby d6_9) rfl ?_
  exact k_)
 obtain ⟨fs, hr, hrun, hended, hW, hsame⟩ := X105.leave (v := some (.int (z >>> (0 : Int32)))) (fun h => by rw [Bd.returns] at h; cases h)
 refine ⟨_, _, p106 _ (retI X105 hx Bd.returns (hb hby d6_10) hr), hrun, hended, _, _, rfl, ?_, ⟨_, rfl⟩, hW, hsame.mono (by decide) (by decide)⟩
 show Q6_0 Z a1 n1 bv kv z vs cs1 fm h0 n0 _ T105.heap _
 rw [q105_hh]
 exact ⟨congrArg (fun q => some (Value.int q)) hz, N105, rfl⟩
theorem d19_0 : decode jdk_41_method_11_code 0 = .ok (.iload_n 0, 1) := by decide +kernel
theorem d19_1 : decode jdk_41_method_11_code 1 = .ok (.ifCond .lt 8, 3) := by decide +kernel
theorem d19_4 : decode jdk_41_method_11_code 4 = .ok (.iload_n 0, 1) := by decide +kernel
theorem d19_5 : decode jdk_41_method_11_code 5 = .ok (.iload_n 1, 1) := by decide +kernel
theorem d19_6 : decode jdk_41_method_11_code 6 = .ok (.if_icmp .lt 10, 3) := by decide +kernel
theorem d19_16 : decode jdk_41_method_11_code 16 = .ok (.iload_n 0, 1) := by decide +kernel
theorem d19_17 : decode jdk_41_method_11_code 17 = .ok (.ireturn, 1) := by decide +kernel
theorem pn19 : plainFor (⟨"jdk/internal/util/Preconditions", "checkIndex", "(IILjava/util/function/BiFunction;)I"⟩ : MethodName) = true := plainFor_of_name (by first | (simp [plainName, overriddenIn]; done) | decide +kernel)
theorem ef_rm19 (m : MethodId) (p1 : Int32) (p2 : Int32) (fm : Value) (hfm : fm.isRef = true) : entryFrame m #[(.int p1), (.int p2), fm] 3 = mkF m 0 #[.val (.int p1), .val (.int p2), .val fm] [] := by
 rcases ref_cases hfm with rfl | ⟨a_, rfl⟩ <;> rfl
def Q19 (Z : State) (p1 : Int32) (p2 : Int32) (fm : Value) (h0 : Heap) (n0 : Nat) (v : Option Value) (h : Heap) (L : List Loc) : Prop := v = some (.int p1) ∧ Fr n0 L ∧ (h = h0)
set_option maxRecDepth 65536 in
set_option maxHeartbeats 40000000 in
theorem rm19 (l : Launch) (Z : State) (a0 : Array Value) (hw : ∀ d ∈ tables_1, d.before a0 Z = true) (ws : List Jvm.Cond) (p1 : Int32) (p2 : Int32) (fm : Value) (h0 : Heap) (n0 : Nat) (Z0 : n0 ≤ h0.size) (hfm : fm.isRef = true) (h1 : ¬ (p1 < (0 : Int32))) (h2 : p1 < p2) :
  MetFree l (⟨"jdk/internal/util/Preconditions", "checkIndex", "(IILjava/util/function/BiFunction;)I"⟩ : MethodName) (head1 (Jvm.Cond.code (⟨"jdk/internal/util/Preconditions", "checkIndex", "(IILjava/util/function/BiFunction;)I"⟩ : MethodName) jdk_41_method_11_code 3 (some .int) :: ws) ({ frames := 0, cells := 0, slots := 0, locals := 0 } : Room)) (fun a U => a = #[(.int p1), (.int p2), fm] ∧ Z.Warmed39 U.vm ∧ U.heap = h0) (fun _ _ _ _ _ => True) (fun _ U o U' => ∃ v L, o = .returned v ∧ Q19 Z p1 p2 fm h0 n0 v U'.heap L ∧ FrameEnd U o U' L ({ frames := 0, cells := 0, slots := 0, locals := 0 } : Room).cells ({ frames := 0, cells := 0, slots := 0, locals := 0 } : Room).slots) := by
 refine MetFree.of_bodySF pn19 hisR ?_
 intro p e s m args below meth c s₁ Bd hml0 hP hK
 obtain ⟨rfl, hZ, hh⟩ := hP
 have hx := Bd.exec
 have hby := Bd.bytes
 have hml : c.maxLocals = 3 := hml0
 have hown : s.vm.findClass "jdk/internal/util/Preconditions" = some m.cls := findClass_of_methodNamed Bd.named
 have hnm := (name_of_methodNamed Bd.named Bd.method).1
 have X0 : Stand p l e ({ frames := 0, cells := 0, slots := 0, locals := 0 } : Room) s m #[(.int p1), (.int p2), fm] below meth c s₁ [] 0 0 := Stand.of_body Bd
 have e0 : s₁.heap = h0 := by rw [← hh, Bd.state]; rfl
 have N0 := Fr.nil n0
 have p0 : Go p.tables e below (s₁.setTop (entryFrame m #[(.int p1), (.int p2), fm] 3)) (s₁.setTop (mkF m 0 #[.val (.int p1), .val (.int p2), .val fm] [])) := fun t_ k_ => castTop (ef_rm19 m p1 p2 fm hfm) k_
 have p101 : Go p.tables e below _ (s₁.setTop (mkF m 1 #[.val (.int p1), .val (.int p2), .val fm] [(.int p1)])) := fun t_ k_ => p0 t_ (by
  refine XS.iloadN X0.here hx rfl (hb hby d19_0) rfl ?_
  exact k_)
 have c102 : ¬ (p1 < (0 : Int32)) := h1
 have p103 : Go p.tables e below _ (s₁.setTop (mkF m 6 #[.val (.int p1), .val (.int p2), .val fm] [(.int p2), (.int p1)])) := fun t_ k_ => p101 t_ (by
  refine XS.ifNo X0.here hx rfl (hb hby d19_1) rfl ((if0 _ _).trans (flt c102).1) ?_
  refine XS.iloadN X0.here hx rfl (hb hby d19_4) rfl ?_
  refine XS.iloadN X0.here hx rfl (hb hby d19_5) rfl ?_
  exact k_)
 have c104 : (p1 < p2) := h2
 have p105 : Go p.tables e below _ (s₁.setTop (mkF m 17 #[.val (.int p1), .val (.int p2), .val fm] [(.int p1)])) := fun t_ k_ => p103 t_ (by
  refine XS.icmpYes X0.here hx rfl (pc0 := 6) (pc' := 16) rfl (hb hby d19_6) rfl (tlt c104).1 (by decide) (by decide) ?_
  refine XS.iloadN X0.here hx rfl (hb hby d19_16) rfl ?_
  exact k_)
 obtain ⟨fs, hr, hrun, hended, hW, hsame⟩ := X0.leave (v := some (.int p1)) (fun h => by rw [Bd.returns] at h; cases h)
 refine ⟨_, _, p105 _ (retI X0 hx Bd.returns (hb hby d19_17) hr), hrun, hended, _, _, rfl, ?_, ⟨_, rfl⟩, hW, hsame.mono (by decide) (by decide)⟩
 show Q19 Z p1 p2 fm h0 n0 _ s₁.heap _
 rw [e0]
 exact ⟨rfl, N0, rfl⟩
theorem d18_0 : decode jdk_42_method_155_code 0 = .ok (.iload_n 0, 1) := by decide +kernel
theorem d18_1 : decode jdk_42_method_155_code 1 = .ok (.iload_n 1, 1) := by decide +kernel
theorem d18_2 : decode jdk_42_method_155_code 2 = .ok (.getstatic 1053, 3) := by decide +kernel
theorem d18_5 : decode jdk_42_method_155_code 5 = .ok (.invokestatic 1059, 3) := by decide +kernel
theorem d18_8 : decode jdk_42_method_155_code 8 = .ok (.pop, 1) := by decide +kernel
theorem d18_9 : decode jdk_42_method_155_code 9 = .ok (.return_, 1) := by decide +kernel
theorem pd1 : parseMethodDescriptor "(IILjava/util/function/BiFunction;)I" = some ⟨[.int, .int, (.object "java/util/function/BiFunction")], some .int⟩ := by decide +kernel
theorem pn18 : plainFor (⟨"java/lang/String", "checkIndex", "(II)V"⟩ : MethodName) = true := plainFor_of_name (by first | (simp [plainName, overriddenIn]; done) | decide +kernel)
theorem ef_rm18 (m : MethodId) (p1 : Int32) (p2 : Int32) (cs1 : Int32) (fm : Value) : entryFrame m #[(.int p1), (.int p2)] 2 = mkF m 0 #[.val (.int p1), .val (.int p2)] [] := by first | (simp [entryFrame, mkF, argsToLocals, Value.category]; done) | rfl
def Q18 (Z : State) (p1 : Int32) (p2 : Int32) (cs1 : Int32) (fm : Value) (h0 : Heap) (n0 : Nat) (v : Option Value) (h : Heap) (L : List Loc) : Prop := v = none ∧ Fr n0 L ∧ (h = h0)
set_option maxRecDepth 65536 in
set_option maxHeartbeats 40000000 in
theorem rm18 (l : Launch) (Z : State) (a0 : Array Value) (hw : ∀ d ∈ tables_1, d.before a0 Z = true) (ws : List Jvm.Cond) (p1 : Int32) (p2 : Int32) (cs1 : Int32) (fm : Value) (h0 : Heap) (n0 : Nat) (Z0 : n0 ≤ h0.size) (O1 : Old Z n0 h0) (G : own_G Z cs1 fm) (h1 : ¬ (p1 < (0 : Int32))) (h2 : p1 < p2) :
  MetFree l (⟨"java/lang/String", "checkIndex", "(II)V"⟩ : MethodName) (head1 (Jvm.Cond.code (⟨"java/lang/String", "checkIndex", "(II)V"⟩ : MethodName) jdk_42_method_155_code 2 none :: ws) ({ frames := 1, cells := 0, slots := 0, locals := 14 } : Room)) (fun a U => a = #[(.int p1), (.int p2)] ∧ Z.Warmed39 U.vm ∧ U.heap = h0) (fun _ _ _ _ _ => True) (fun _ U o U' => ∃ v L, o = .returned v ∧ Q18 Z p1 p2 cs1 fm h0 n0 v U'.heap L ∧ FrameEnd U o U' L ({ frames := 1, cells := 0, slots := 0, locals := 14 } : Room).cells ({ frames := 1, cells := 0, slots := 0, locals := 14 } : Room).slots) := by
 refine MetFree.of_bodySF pn18 hisR ?_
 intro p e s m args below meth c s₁ Bd hml0 hP hK
 obtain ⟨rfl, hZ, hh⟩ := hP
 have hx := Bd.exec
 have hby := Bd.bytes
 have hml : c.maxLocals = 2 := hml0
 have hown : s.vm.findClass "java/lang/String" = some m.cls := findClass_of_methodNamed Bd.named
 have hnm := (name_of_methodNamed Bd.named Bd.method).1
 have X0 : Stand p l e ({ frames := 1, cells := 0, slots := 0, locals := 14 } : Room) s m #[(.int p1), (.int p2)] below meth c s₁ [] 0 0 := Stand.of_body Bd
 have e0 : s₁.heap = h0 := by rw [← hh, Bd.state]; rfl
 have N0 := Fr.nil n0
 have p0 : Go p.tables e below (s₁.setTop (entryFrame m #[(.int p1), (.int p2)] 2)) (s₁.setTop (mkF m 0 #[.val (.int p1), .val (.int p2)] [])) := fun t_ k_ => castTop (ef_rm18 m p1 p2 cs1 fm) k_
 have p101 : Go p.tables e below _ (s₁.setTop (mkF m 2 #[.val (.int p1), .val (.int p2)] [(.int p2), (.int p1)])) := fun t_ k_ => p0 t_ (by
  refine XS.iloadN X0.here hx rfl (hb hby d18_0) rfl ?_
  refine XS.iloadN X0.here hx rfl (hb hby d18_1) rfl ?_
  exact k_)
 obtain ⟨T102, X102, e102, st102⟩ := getS2 X0 hx hZ hown (host := "") (Or.inl (own_w hw 93 rfl)) Via.refl e0 (G.2.2.1.ext O1.2) (g := (mkF m 2 #[.val (.int p1), .val (.int p2)] [(.int p2), (.int p1)])) rfl (hb hby d18_2)
 obtain ⟨_, _, ⟨T103, L103, k103, n103⟩, -, X103, ⟨Lc103, hQ103, l103, y103, z103⟩, st103⟩ := Jvm.LawKit.callS X102 hx (y := (⟨"jdk/internal/util/Preconditions", "checkIndex", "(IILjava/util/function/BiFunction;)I"⟩ : MethodName)) hown (mvT hZ (own_w hw 95 rfl)) (mvT hZ (own_w hw 96 rfl)) (mvT hZ (own_w hw 94 rfl)) (mvT hZ (own_w hw 97 rfl)) (by decide) (backOf (W := 0) (rm19 l Z a0 hw [] p1 p2 fm h0 n0 (Nat.le_trans Z0 (Keep.refl h0 []).1) G.2.2.2 h1 h2) hZ (own_w hw 97 rfl) (own_w hw 94 rfl) (by decide) (by decide)) (g := (mkF m 5 #[.val (.int p1), .val (.int p2)] [fm, (.int p2), (.int p1)])) rfl (by rw [hml]; rfl) (argsL := [(.int p1), (.int p2), fm]) (rest := []) (lenOf pd1 rfl) rfl (by show 2 * 0 + _ ≤ _; exact Nat.le_of_eq rfl) (hb hby d18_5) (fun _ _ => ⟨rfl, e102, (by decide : 0 + 0 ≤ _), (by decide : 0 + 0 ≤ _)⟩)
 dsimp only [Pt.U, Pt.locs, Pt.cells, Pt.slots] at X103 l103 y103 z103 st103 hQ103
 subst l103 y103 z103
 obtain ⟨rfl, N103q, q103_hh⟩ := hQ103
 have N103 := Fr.app N0 N103q
 have p104 : Go p.tables e below _ (T103.setTop (mkF m 9 #[.val (.int p1), .val (.int p2)] [])) := fun t_ k_ => (gc (gc p101 st102) st103) t_ (by
  refine XS.pop X103.here hx rfl (hb hby d18_8) rfl rfl ?_
  exact k_)
 obtain ⟨fs, hr, hrun, hended, hW, hsame⟩ := X103.leave (v := none) (fun _ => rfl)
 refine ⟨_, _, p104 _ (X103.returnOut hx Bd.returns (hb hby d18_9) hr), hrun, hended, _, _, rfl, ?_, ⟨_, rfl⟩, hW, hsame.mono (by decide) (by decide)⟩
 show Q18 Z p1 p2 cs1 fm h0 n0 _ T103.heap _
 rw [q103_hh]
 exact ⟨rfl, N103, rfl⟩
theorem d17_0 : decode jdk_43_method_2_code 0 = .ok (.iload_n 1, 1) := by decide +kernel
theorem d17_1 : decode jdk_43_method_2_code 1 = .ok (.aload_n 0, 1) := by decide +kernel
theorem d17_2 : decode jdk_43_method_2_code 2 = .ok (.arraylength, 1) := by decide +kernel
theorem d17_3 : decode jdk_43_method_2_code 3 = .ok (.invokestatic 9, 3) := by decide +kernel
theorem d17_6 : decode jdk_43_method_2_code 6 = .ok (.aload_n 0, 1) := by decide +kernel
theorem d17_7 : decode jdk_43_method_2_code 7 = .ok (.iload_n 1, 1) := by decide +kernel
theorem d17_8 : decode jdk_43_method_2_code 8 = .ok (.baload, 1) := by decide +kernel
theorem d17_9 : decode jdk_43_method_2_code 9 = .ok (.sipush 255, 3) := by decide +kernel
theorem d17_12 : decode jdk_43_method_2_code 12 = .ok (.iand, 1) := by decide +kernel
theorem d17_13 : decode jdk_43_method_2_code 13 = .ok (.i2c, 1) := by decide +kernel
theorem d17_14 : decode jdk_43_method_2_code 14 = .ok (.ireturn, 1) := by decide +kernel
theorem pd2 : parseMethodDescriptor "(II)V" = some ⟨[.int, .int], none⟩ := by decide +kernel
theorem pn17 : plainFor (⟨"java/lang/StringLatin1", "charAt", "([BI)C"⟩ : MethodName) = true := plainFor_of_name (by first | (simp [plainName, overriddenIn]; done) | decide +kernel)
theorem ef_rm17 (m : MethodId) (a1 : Addr) (p2 : Int32) (kv : ClassId) (z : Int32) (vs : List Value) (b : Int32) (cc : Int32) (cs1 : Int32) (fm : Value) : entryFrame m #[(.ref a1), (.int p2)] 2 = mkF m 0 #[.val (.ref a1), .val (.int p2)] [] := by first | (simp [entryFrame, mkF, argsToLocals, Value.category]; done) | rfl
def Q17 (Z : State) (a1 : Addr) (p2 : Int32) (kv : ClassId) (z : Int32) (vs : List Value) (b : Int32) (cc : Int32) (cs1 : Int32) (fm : Value) (h0 : Heap) (n0 : Nat) (v : Option Value) (h : Heap) (L : List Loc) : Prop := v = some (.int cc) ∧ Fr n0 L ∧ (h = h0)
set_option maxRecDepth 65536 in
set_option maxHeartbeats 40000000 in
theorem rm17 (l : Launch) (Z : State) (a0 : Array Value) (hw : ∀ d ∈ tables_1, d.before a0 Z = true) (ws : List Jvm.Cond) (a1 : Addr) (p2 : Int32) (kv : ClassId) (z : Int32) (vs : List Value) (b : Int32) (cc : Int32) (cs1 : Int32) (fm : Value) (h0 : Heap) (n0 : Nat) (Z0 : n0 ≤ h0.size) (O1 : Old Z n0 h0) (G : own_G Z cs1 fm) (V1 : Arv Z h0 a1 kv .byte z vs (.int (0 : Int32))) (h1 : ¬ (p2 < (0 : Int32))) (h2 : p2 < z) (hg : vs.getD (p2).toNatClampNeg (.int (0 : Int32)) = .int b) (hc : own_c8 b = cc) :
  MetFree l (⟨"java/lang/StringLatin1", "charAt", "([BI)C"⟩ : MethodName) (head1 (Jvm.Cond.code (⟨"java/lang/StringLatin1", "charAt", "([BI)C"⟩ : MethodName) jdk_43_method_2_code 2 (some .char) :: ws) ({ frames := 2, cells := 0, slots := 0, locals := 27 } : Room)) (fun a U => a = #[(.ref a1), (.int p2)] ∧ Z.Warmed39 U.vm ∧ U.heap = h0) (fun _ _ _ _ _ => True) (fun _ U o U' => ∃ v L, o = .returned v ∧ Q17 Z a1 p2 kv z vs b cc cs1 fm h0 n0 v U'.heap L ∧ FrameEnd U o U' L ({ frames := 2, cells := 0, slots := 0, locals := 27 } : Room).cells ({ frames := 2, cells := 0, slots := 0, locals := 27 } : Room).slots) := by
 refine MetFree.of_bodySF pn17 hisR ?_
 intro p e s m args below meth c s₁ Bd hml0 hP hK
 obtain ⟨rfl, hZ, hh⟩ := hP
 have hx := Bd.exec
 have hby := Bd.bytes
 have hml : c.maxLocals = 2 := hml0
 have hown : s.vm.findClass "java/lang/StringLatin1" = some m.cls := findClass_of_methodNamed Bd.named
 have hnm := (name_of_methodNamed Bd.named Bd.method).1
 have X0 : Stand p l e ({ frames := 2, cells := 0, slots := 0, locals := 27 } : Room) s m #[(.ref a1), (.int p2)] below meth c s₁ [] 0 0 := Stand.of_body Bd
 have e0 : s₁.heap = h0 := by rw [← hh, Bd.state]; rfl
 have N0 := Fr.nil n0
 have p0 : Go p.tables e below (s₁.setTop (entryFrame m #[(.ref a1), (.int p2)] 2)) (s₁.setTop (mkF m 0 #[.val (.ref a1), .val (.int p2)] [])) := fun t_ k_ => castTop (ef_rm17 m a1 p2 kv z vs b cc cs1 fm) k_
 have p101 : Go p.tables e below _ (s₁.setTop (mkF m 2 #[.val (.ref a1), .val (.int p2)] [(.ref a1), (.int p2)])) := fun t_ k_ => p0 t_ (by
  refine XS.iloadN X0.here hx rfl (hb hby d17_0) rfl ?_
  refine XS.aloadN X0.here hx rfl (hb hby d17_1) rfl rfl ?_
  exact k_)
 obtain ⟨cl102, Ar102, -, S102, Ng102, -, -⟩ := id V1
 have p103 : Go p.tables e below _ (s₁.setTop (mkF m 3 #[.val (.ref a1), .val (.int p2)] [(.int z), (.int p2)])) := fun t_ k_ => p101 t_ (by
  refine X0.arraylength hx (by rw [e0]; exact Ar102.1) (State.isArrayOf_alike hZ.alike Ar102.2.1) (g := (mkF m 2 #[.val (.ref a1), .val (.int p2)] [(.ref a1), (.int p2)])) rfl rfl (hb hby d17_2) _ ?_
  rw [len_of S102 Ng102]
  show Steps p.tables e below (s₁.setTop (mkF m 3 #[.val (.ref a1), .val (.int p2)] [(.int z), (.int p2)])) _
  exact k_)
 obtain ⟨_, _, ⟨T104, L104, k104, n104⟩, -, X104, ⟨Lc104, hQ104, l104, y104, z104⟩, st104⟩ := Jvm.LawKit.callS X0 hx (y := (⟨"java/lang/String", "checkIndex", "(II)V"⟩ : MethodName)) hown (mvT hZ (own_w hw 90 rfl)) (mvT hZ (own_w hw 91 rfl)) (mvT hZ (own_w hw 9 rfl)) (mvT hZ (own_w hw 92 rfl)) (by decide) (backOf (W := 0) (rm18 l Z a0 hw [] p2 z cs1 fm h0 n0 (Nat.le_trans Z0 (Keep.refl h0 []).1) O1 G h1 h2) hZ (own_w hw 92 rfl) (own_w hw 9 rfl) (by decide) (by decide)) (g := (mkF m 3 #[.val (.ref a1), .val (.int p2)] [(.int z), (.int p2)])) rfl (by rw [hml]; rfl) (argsL := [(.int p2), (.int z)]) (rest := []) (lenOf pd2 rfl) rfl (by show 2 * 0 + _ ≤ _; exact Nat.le_of_eq rfl) (hb hby d17_3) (fun _ _ => ⟨rfl, e0, (by decide : 0 + 0 ≤ _), (by decide : 0 + 0 ≤ _)⟩)
 dsimp only [Pt.U, Pt.locs, Pt.cells, Pt.slots] at X104 l104 y104 z104 st104 hQ104
 subst l104 y104 z104
 obtain ⟨rfl, N104q, q104_hh⟩ := hQ104
 have N104 := Fr.app N0 N104q
 have p105 : Go p.tables e below _ (T104.setTop (mkF m 8 #[.val (.ref a1), .val (.int p2)] [(.int p2), (.ref a1)])) := fun t_ k_ => (gc p103 st104) t_ (by
  refine XS.aloadN X104.here hx rfl (hb hby d17_6) rfl rfl ?_
  refine XS.iloadN X104.here hx rfl (hb hby d17_7) rfl ?_
  exact k_)
 obtain ⟨cl106, Ar106, q106, S106, Ng106, H106, G106⟩ := id V1
 have hin106 := inb_of S106 (j := p2) ⟨h1, h2⟩
 have hat106 := H106.at (v := (.int b)) hin106 hg
 have p107 : Go p.tables e below _ (T104.setTop (mkF m 14 #[.val (.ref a1), .val (.int p2)] [(.int ((b &&& (255 : Int32)).toUInt32.toUInt16.toUInt32.toInt32))])) := fun t_ k_ => p105 t_ (by
  refine X104.baloadBytes hx (j := p2) (v := (.int b)) (by rw [q104_hh]; exact Ar106.1) (State.isArrayOf_alike hZ.alike Ar106.2.1) Ar106.2.2 hin106 hat106 (g := (mkF m 8 #[.val (.ref a1), .val (.int p2)] [(.int p2), (.ref a1)])) rfl rfl (hb hby d17_8) _ ?_
  refine XS.sipush X104.here hx rfl (hb hby d17_9) ?_
  refine XS.iand X104.here hx rfl (hb hby d17_12) rfl ?_
  refine XS.i2c X104.here hx rfl (hb hby d17_13) rfl ?_
  exact k_)
 obtain ⟨fs, hr, hrun, hended, hW, hsame⟩ := X104.leave (v := some (.int (nar .char ((b &&& (255 : Int32)).toUInt32.toUInt16.toUInt32.toInt32)))) (fun h => by rw [Bd.returns] at h; cases h)
 refine ⟨_, _, p107 _ (retN X104 hx (t := .char) Bd.returns (by simp) (hb hby d17_14) hr), hrun, hended, _, _, rfl, ?_, ⟨_, rfl⟩, hW, hsame.mono (by decide) (by decide)⟩
 show Q17 Z a1 p2 kv z vs b cc cs1 fm h0 n0 _ T104.heap _
 rw [q104_hh]
 exact ⟨congrArg (fun q => some (Value.int q)) hc, N104, rfl⟩
theorem d15_0 : decode jdk_42_method_56_code 0 = .ok (.aload_n 0, 1) := by decide +kernel
theorem d15_1 : decode jdk_42_method_56_code 1 = .ok (.invokevirtual 492, 3) := by decide +kernel
theorem d15_4 : decode jdk_42_method_56_code 4 = .ok (.ifCond .eq 12, 3) := by decide +kernel
theorem d15_7 : decode jdk_42_method_56_code 7 = .ok (.aload_n 0, 1) := by decide +kernel
theorem d15_8 : decode jdk_42_method_56_code 8 = .ok (.getfield 9, 3) := by decide +kernel
theorem d15_11 : decode jdk_42_method_56_code 11 = .ok (.iload_n 1, 1) := by decide +kernel
theorem d15_12 : decode jdk_42_method_56_code 12 = .ok (.invokestatic 495, 3) := by decide +kernel
theorem d15_15 : decode jdk_42_method_56_code 15 = .ok (.ireturn, 1) := by decide +kernel
theorem pd3 : parseMethodDescriptor "()Z" = some ⟨[], some .boolean⟩ := by decide +kernel
theorem pd4 : parseMethodDescriptor "([BI)C" = some ⟨[(.array .byte), .int], some .char⟩ := by decide +kernel
theorem pn15 : plainFor (⟨"java/lang/String", "charAt", "(I)C"⟩ : MethodName) = true := plainFor_of_name (by first | (simp [plainName, overriddenIn]; done) | decide +kernel)
theorem ef_rm15_0 (m : MethodId) (a1 : Addr) (p2 : Int32) (bv : Addr) (kv : ClassId) (z : Int32) (vs : List Value) (b : Int32) (cc : Int32) (cs1 : Int32) (fm : Value) : entryFrame m #[(.ref a1), (.int p2)] 2 = mkF m 0 #[.val (.ref a1), .val (.int p2)] [] := by first | (simp [entryFrame, mkF, argsToLocals, Value.category]; done) | rfl
def Q15_0 (Z : State) (a1 : Addr) (p2 : Int32) (bv : Addr) (kv : ClassId) (z : Int32) (vs : List Value) (b : Int32) (cc : Int32) (cs1 : Int32) (fm : Value) (h0 : Heap) (n0 : Nat) (v : Option Value) (h : Heap) (L : List Loc) : Prop := v = some (.int cc) ∧ Fr n0 L ∧ (h = h0)
set_option maxRecDepth 65536 in
set_option maxHeartbeats 40000000 in
theorem rm15_0 (l : Launch) (Z : State) (a0 : Array Value) (hw : ∀ d ∈ tables_1, d.before a0 Z = true) (ws : List Jvm.Cond) (a1 : Addr) (p2 : Int32) (bv : Addr) (kv : ClassId) (z : Int32) (vs : List Value) (b : Int32) (cc : Int32) (cs1 : Int32) (fm : Value) (h0 : Heap) (n0 : Nat) (Z0 : n0 ≤ h0.size) (O1 : Old Z n0 h0) (G : own_G Z cs1 fm) (E1 : Exa Z h0 a1 "java/lang/String") (F1 : Fld Z h0 a1 "java/lang/String" "coder" "B" (.int (0 : Int32))) (F2 : Fld Z h0 a1 "java/lang/String" "value" "[B" (.ref bv)) (V1 : Arv Z h0 bv kv .byte z vs (.int (0 : Int32))) (h1 : ¬ (p2 < (0 : Int32))) (h2 : p2 < z) (hg : vs.getD (p2).toNatClampNeg (.int (0 : Int32)) = .int b) (hc : own_c8 b = cc) :
  MetFree l (⟨"java/lang/String", "charAt", "(I)C"⟩ : MethodName) (head1 (Jvm.Cond.code (⟨"java/lang/String", "charAt", "(I)C"⟩ : MethodName) jdk_42_method_56_code 2 (some .char) :: ws) ({ frames := 3, cells := 0, slots := 0, locals := 40 } : Room)) (fun a U => a = #[(.ref a1), (.int p2)] ∧ Z.Warmed39 U.vm ∧ U.heap = h0) (fun _ _ _ _ _ => True) (fun _ U o U' => ∃ v L, o = .returned v ∧ Q15_0 Z a1 p2 bv kv z vs b cc cs1 fm h0 n0 v U'.heap L ∧ FrameEnd U o U' L ({ frames := 3, cells := 0, slots := 0, locals := 40 } : Room).cells ({ frames := 3, cells := 0, slots := 0, locals := 40 } : Room).slots) := by
 refine MetFree.of_bodySF pn15 hisR ?_
 intro p e s m args below meth c s₁ Bd hml0 hP hK
 obtain ⟨rfl, hZ, hh⟩ := hP
 have hx := Bd.exec
 have hby := Bd.bytes
 have hml : c.maxLocals = 2 := hml0
 have hown : s.vm.findClass "java/lang/String" = some m.cls := findClass_of_methodNamed Bd.named
 have hnm := (name_of_methodNamed Bd.named Bd.method).1
 have X0 : Stand p l e ({ frames := 3, cells := 0, slots := 0, locals := 40 } : Room) s m #[(.ref a1), (.int p2)] below meth c s₁ [] 0 0 := Stand.of_body Bd
 have e0 : s₁.heap = h0 := by rw [← hh, Bd.state]; rfl
 have N0 := Fr.nil n0
 have p0 : Go p.tables e below (s₁.setTop (entryFrame m #[(.ref a1), (.int p2)] 2)) (s₁.setTop (mkF m 0 #[.val (.ref a1), .val (.int p2)] [])) := fun t_ k_ => castTop (ef_rm15_0 m a1 p2 bv kv z vs b cc cs1 fm) k_
 have p101 : Go p.tables e below _ (s₁.setTop (mkF m 1 #[.val (.ref a1), .val (.int p2)] [(.ref a1)])) := fun t_ k_ => p0 t_ (by
  refine XS.aloadN X0.here hx rfl (hb hby d15_0) rfl rfl ?_
  exact k_)
 obtain ⟨cq102, kq102, q102a, q102b, q102c⟩ := isOf hZ e0 E1
 obtain ⟨_, _, ⟨T102, L102, k102, n102⟩, -, X102, ⟨Lc102, hQ102, l102, y102, z102⟩, st102⟩ := X0.virtualBack hx (y := (⟨"java/lang/String", "isLatin1", "()Z"⟩ : MethodName)) (z := (⟨"java/lang/String", "isLatin1", "()Z"⟩ : MethodName)) hown (mvT hZ (own_w hw 81 rfl)) (mvT hZ (own_w hw 82 rfl)) (notFace_of_selects (args := #[]) (mvT hZ (own_w hw 84 rfl))) (mvT hZ (own_w hw 84 rfl)) (mvT hZ (own_w hw 83 rfl)) (by decide) (backOf (W := 0) (rm16_0 l Z a0 hw [] a1 cs1 fm h0 n0 (Nat.le_trans Z0 (Keep.refl h0 []).1) O1 G F1) hZ (own_w hw 85 rfl) (own_w hw 9 rfl) (by decide) (by decide)) q102a q102c (g := (mkF m 1 #[.val (.ref a1), .val (.int p2)] [(.ref a1)])) rfl (by rw [hml]; rfl) (Steps.refl _) (argsL := []) (rest := []) (lenOf pd3 rfl) rfl (by show 2 * 0 + _ ≤ _; exact Nat.le_of_eq rfl) (hb hby d15_1) (fun _ _ => ⟨rfl, e0, (by decide : 0 + 0 ≤ _), (by decide : 0 + 0 ≤ _)⟩)
 dsimp only [Pt.U, Pt.locs, Pt.cells, Pt.slots] at X102 l102 y102 z102 st102 hQ102
 subst l102 y102 z102
 obtain ⟨rfl, N102q, q102_hh⟩ := hQ102
 have N102 := Fr.app N0 N102q
 have p103 : Go p.tables e below _ (T102.setTop (mkF m 8 #[.val (.ref a1), .val (.int p2)] [(.ref a1)])) := fun t_ k_ => (gcT p101 st102) t_ (by
  refine XS.ifNo X102.here hx rfl (hb hby d15_4) rfl ((if0 _ _).trans (feq (by decide : ¬ ((1 : Int32) = (0 : Int32)))).1) ?_
  refine XS.aloadN X102.here hx rfl (hb hby d15_7) rfl rfl ?_
  exact k_)
 obtain ⟨T104, X104, e104, st104⟩ := getF X102 hx hZ hown (host := "") (Or.inl (own_w hw 26 rfl)) Via.refl q102_hh F2 (g := (mkF m 8 #[.val (.ref a1), .val (.int p2)] [(.ref a1)])) rfl rfl (hb hby d15_8)
 have p105 : Go p.tables e below _ (T104.setTop (mkF m 12 #[.val (.ref a1), .val (.int p2)] [(.int p2), (.ref bv)])) := fun t_ k_ => (gc p103 st104) t_ (by
  refine XS.iloadN X104.here hx rfl (hb hby d15_11) rfl ?_
  exact k_)
 obtain ⟨_, _, ⟨T106, L106, k106, n106⟩, -, X106, ⟨Lc106, hQ106, l106, y106, z106⟩, st106⟩ := Jvm.LawKit.callS X104 hx (y := (⟨"java/lang/StringLatin1", "charAt", "([BI)C"⟩ : MethodName)) hown (mvT hZ (own_w hw 86 rfl)) (mvT hZ (own_w hw 87 rfl)) (mvT hZ (own_w hw 88 rfl)) (mvT hZ (own_w hw 89 rfl)) (by decide) (backOf (W := 0) (rm17 l Z a0 hw [] bv p2 kv z vs b cc cs1 fm h0 n0 (Nat.le_trans Z0 (Keep.refl h0 []).1) O1 G V1 h1 h2 hg hc) hZ (own_w hw 89 rfl) (own_w hw 88 rfl) (by decide) (by decide)) (g := (mkF m 12 #[.val (.ref a1), .val (.int p2)] [(.int p2), (.ref bv)])) rfl (by rw [hml]; rfl) (argsL := [(.ref bv), (.int p2)]) (rest := []) (lenOf pd4 rfl) rfl (by show 2 * 0 + _ ≤ _; exact Nat.le_of_eq rfl) (hb hby d15_12) (fun _ _ => ⟨rfl, e104, (by decide : 0 + 0 ≤ _), (by decide : 0 + 0 ≤ _)⟩)
 dsimp only [Pt.U, Pt.locs, Pt.cells, Pt.slots] at X106 l106 y106 z106 st106 hQ106
 subst l106 y106 z106
 obtain ⟨rfl, N106q, q106_hh⟩ := hQ106
 have N106 := Fr.app N102 N106q
 obtain ⟨fs, hr, hrun, hended, hW, hsame⟩ := X106.leave (v := some (.int (nar .char cc))) (fun h => by rw [Bd.returns] at h; cases h)
 refine ⟨_, _, (gc p105 st106) _ (retN X106 hx (t := .char) Bd.returns (by simp) (hb hby d15_15) hr), hrun, hended, _, _, rfl, ?_, ⟨_, rfl⟩, hW, hsame.mono (by decide) (by decide)⟩
 show Q15_0 Z a1 p2 bv kv z vs b cc cs1 fm h0 n0 _ T106.heap _
 rw [q106_hh]
 exact ⟨by rw [← hc]; exact congrArg (fun q => some (Value.int q)) (own_nar2 _), N106, rfl⟩
theorem d13_3 : decode jdk_52_method_21_code 3 = .ok (.iload 5, 2) := by decide +kernel
theorem d13_5 : decode jdk_52_method_21_code 5 = .ok (.iload 4, 2) := by decide +kernel
theorem d13_7 : decode jdk_52_method_21_code 7 = .ok (.if_icmp .ge 37, 3) := by decide +kernel
theorem d13_10 : decode jdk_52_method_21_code 10 = .ok (.aload_n 0, 1) := by decide +kernel
theorem d13_11 : decode jdk_52_method_21_code 11 = .ok (.iload_n 1, 1) := by decide +kernel
theorem d13_12 : decode jdk_52_method_21_code 12 = .ok (.caload, 1) := by decide +kernel
theorem d13_13 : decode jdk_52_method_21_code 13 = .ok (.istore 6, 2) := by decide +kernel
theorem d13_15 : decode jdk_52_method_21_code 15 = .ok (.iload 6, 2) := by decide +kernel
theorem d13_17 : decode jdk_52_method_21_code 17 = .ok (.sipush 255, 3) := by decide +kernel
theorem d13_20 : decode jdk_52_method_21_code 20 = .ok (.if_icmp .le 6, 3) := by decide +kernel
theorem d13_26 : decode jdk_52_method_21_code 26 = .ok (.aload_n 2, 1) := by decide +kernel
theorem d13_27 : decode jdk_52_method_21_code 27 = .ok (.iload_n 3, 1) := by decide +kernel
theorem d13_28 : decode jdk_52_method_21_code 28 = .ok (.iload 6, 2) := by decide +kernel
theorem d13_30 : decode jdk_52_method_21_code 30 = .ok (.i2b, 1) := by decide +kernel
theorem d13_31 : decode jdk_52_method_21_code 31 = .ok (.bastore, 1) := by decide +kernel
theorem d13_32 : decode jdk_52_method_21_code 32 = .ok (.iinc 1 1, 3) := by decide +kernel
theorem d13_35 : decode jdk_52_method_21_code 35 = .ok (.iinc 3 1, 3) := by decide +kernel
theorem d13_38 : decode jdk_52_method_21_code 38 = .ok (.iinc 5 1, 3) := by decide +kernel
theorem d13_41 : decode jdk_52_method_21_code 41 = .ok (.goto (-38), 3) := by decide +kernel
set_option maxRecDepth 65536 in
set_option maxHeartbeats 40000000 in
theorem lpCL {p : Program} {l : Launch} {e : Env} {s : State} {m : MethodId} {args : Array Value} {below : List Frame} {meth : Method} {c : Code} (Z : State) (a0 : Array Value) (hx : p.tables.exec = Jvm.exec) (hZ : Z.Warmed39 s.vm) (hw : ∀ d ∈ tables_1, d.before a0 Z = true) (hby : c.code = jdk_52_method_21_code) (hml : c.maxLocals = 7) (hown : s.vm.findClass "java/lang/StringUTF16" = some m.cls) (a1 : Addr) (a3 : Addr) (k1 : ClassId) (k3 : ClassId) (cs : List Int32) (n : Nat) (kk : Nat) (n0 : Nat) (hn : n ≤ 8) (hk : kk = n) (HL : ∀ j, j < kk → ¬ ((255 : Int32) < own_at cs j)) (ne : a1 ≠ a3) (g3 : n0 ≤ a3) : ∀ (k i : Nat) (s6 : Slot) (T : State) (h0 : Heap) (locs : List Loc), i + k = kk → One s6 → Stand p l e (⟨0, 0, 0, 0⟩ : Room) s m args below meth c T locs 0 0 → T.heap = h0 → n0 ≤ h0.size → Fr n0 locs → Arv Z h0 a1 k1 .char (Int32.ofNat n) (cs.map Value.int) (.int (0 : Int32)) → Arv Z h0 a3 k3 .byte (Int32.ofNat n) ((own_ds cs n i).map Value.int) (.int (0 : Int32)) → ∃ (T' : State) (h' : Heap) (lc : List Loc) (s6' : Slot), Stand p l e (⟨0, 0, 0, 0⟩ : Room) s m args below meth c T' lc 0 0 ∧ T'.heap = h' ∧ Fr n0 lc ∧ Keep h0 h' [a3] ∧ Arv Z h' a3 k3 .byte (Int32.ofNat n) ((own_ds cs n kk).map Value.int) (.int (0 : Int32)) ∧ Go p.tables e below (T.setTop (mkF m 3 #[.val (.ref a1), .val (.int (Int32.ofNat i)), .val (.ref a3), .val (.int (Int32.ofNat i)), .val (.int (Int32.ofNat n)), .val (.int (Int32.ofNat i)), s6] [])) (T'.setTop (mkF m 44 #[.val (.ref a1), .val (.int (Int32.ofNat kk)), .val (.ref a3), .val (.int (Int32.ofNat kk)), .val (.int (Int32.ofNat n)), .val (.int (Int32.ofNat kk)), s6'] [])) := by
 intro k
 induction k with
 | zero =>
  intro i s6 T h0 locs hik o6 X0 e0 Z0 N0 V1 V3
  have hin : i = kk := by omega
  have p0 : Go p.tables e below (T.setTop (mkF m 3 #[.val (.ref a1), .val (.int (Int32.ofNat i)), .val (.ref a3), .val (.int (Int32.ofNat i)), .val (.int (Int32.ofNat n)), .val (.int (Int32.ofNat i)), s6] [])) (T.setTop (mkF m 3 #[.val (.ref a1), .val (.int (Int32.ofNat i)), .val (.ref a3), .val (.int (Int32.ofNat i)), .val (.int (Int32.ofNat n)), .val (.int (Int32.ofNat i)), s6] [])) := fun t_ k_ => k_
  have p101 : Go p.tables e below _ (T.setTop (mkF m 7 #[.val (.ref a1), .val (.int (Int32.ofNat i)), .val (.ref a3), .val (.int (Int32.ofNat i)), .val (.int (Int32.ofNat n)), .val (.int (Int32.ofNat i)), s6] [(.int (Int32.ofNat n)), (.int (Int32.ofNat i))])) := fun t_ k_ => p0 t_ (by
   refine XS.iload X0.here hx rfl (hb hby d13_3) rfl ?_
   refine XS.iload X0.here hx rfl (hb hby d13_5) rfl ?_
   exact k_)
  have c102 : ¬ ((Int32.ofNat i) < (Int32.ofNat n)) := (fun q => by rw [own_lt32 (by omega) (by omega)] at q; omega)
  have p103 : Go p.tables e below _ (T.setTop (mkF m 44 #[.val (.ref a1), .val (.int (Int32.ofNat i)), .val (.ref a3), .val (.int (Int32.ofNat i)), .val (.int (Int32.ofNat n)), .val (.int (Int32.ofNat i)), s6] [])) := fun t_ k_ => p101 t_ (by
   refine XS.icmpYes X0.here hx rfl (pc0 := 7) (pc' := 44) rfl (hb hby d13_7) rfl (flt c102).2.1 (by decide) (by decide) ?_
   exact k_)
  subst hin; exact ⟨_, _, _, _, X0, e0, N0, (Keep.refl h0 [a3]), V3, p103⟩
 | succ k ih =>
  intro i s6 T h0 locs hik o6 X0 e0 Z0 N0 V1 V3
  have p0 : Go p.tables e below (T.setTop (mkF m 3 #[.val (.ref a1), .val (.int (Int32.ofNat i)), .val (.ref a3), .val (.int (Int32.ofNat i)), .val (.int (Int32.ofNat n)), .val (.int (Int32.ofNat i)), s6] [])) (T.setTop (mkF m 3 #[.val (.ref a1), .val (.int (Int32.ofNat i)), .val (.ref a3), .val (.int (Int32.ofNat i)), .val (.int (Int32.ofNat n)), .val (.int (Int32.ofNat i)), s6] [])) := fun t_ k_ => k_
  have p101 : Go p.tables e below _ (T.setTop (mkF m 7 #[.val (.ref a1), .val (.int (Int32.ofNat i)), .val (.ref a3), .val (.int (Int32.ofNat i)), .val (.int (Int32.ofNat n)), .val (.int (Int32.ofNat i)), s6] [(.int (Int32.ofNat n)), (.int (Int32.ofNat i))])) := fun t_ k_ => p0 t_ (by
   refine XS.iload X0.here hx rfl (hb hby d13_3) rfl ?_
   refine XS.iload X0.here hx rfl (hb hby d13_5) rfl ?_
   exact k_)
  have c102 : ((Int32.ofNat i) < (Int32.ofNat n)) := (own_lt32 (by omega) (by omega)).mpr (by omega)
  have p103 : Go p.tables e below _ (T.setTop (mkF m 12 #[.val (.ref a1), .val (.int (Int32.ofNat i)), .val (.ref a3), .val (.int (Int32.ofNat i)), .val (.int (Int32.ofNat n)), .val (.int (Int32.ofNat i)), s6] [(.int (Int32.ofNat i)), (.ref a1)])) := fun t_ k_ => p101 t_ (by
   refine XS.icmpNo X0.here hx rfl (hb hby d13_7) rfl (tlt c102).2.1 ?_
   refine XS.aloadN X0.here hx rfl (hb hby d13_10) rfl rfl ?_
   refine XS.iloadN X0.here hx rfl (hb hby d13_11) rfl ?_
   exact k_)
  obtain ⟨cl104, Ar104, q104, S104, Ng104, H104, G104⟩ := id V1
  have hin104 := inb_of S104 (j := (Int32.ofNat i)) ⟨own_nn32 (by omega), (own_lt32 (by omega) (by omega)).mpr (by omega)⟩
  have hat104 := H104.at (v := (.int (own_at cs i))) hin104 (own_mg cs i (by omega))
  have p105 : Go p.tables e below _ (T.setTop (mkF m 20 #[.val (.ref a1), .val (.int (Int32.ofNat i)), .val (.ref a3), .val (.int (Int32.ofNat i)), .val (.int (Int32.ofNat n)), .val (.int (Int32.ofNat i)), .val (.int (own_at cs i))] [(.int (255 : Int32)), (.int (own_at cs i))])) := fun t_ k_ => p103 t_ (by
   refine X0.caload hx (j := (Int32.ofNat i)) (v := (.int (own_at cs i))) (by rw [e0]; exact Ar104.1) (State.isArrayOf_alike hZ.alike Ar104.2.1) Ar104.2.2 hin104 hat104 (g := (mkF m 12 #[.val (.ref a1), .val (.int (Int32.ofNat i)), .val (.ref a3), .val (.int (Int32.ofNat i)), .val (.int (Int32.ofNat n)), .val (.int (Int32.ofNat i)), s6] [(.int (Int32.ofNat i)), (.ref a1)])) rfl rfl (hb hby d13_12) _ ?_
   refine XS.istoreS X0.here hx rfl (hb hby d13_13) rfl rfl o6 ?_
   refine XS.iload X0.here hx rfl (hb hby d13_15) rfl ?_
   refine XS.sipush X0.here hx rfl (hb hby d13_17) ?_
   exact k_)
  have c106 : ¬ ((255 : Int32) < (own_at cs i)) := HL i (by omega)
  have p107 : Go p.tables e below _ (T.setTop (mkF m 31 #[.val (.ref a1), .val (.int (Int32.ofNat i)), .val (.ref a3), .val (.int (Int32.ofNat i)), .val (.int (Int32.ofNat n)), .val (.int (Int32.ofNat i)), .val (.int (own_at cs i))] [(.int ((own_at cs i).toInt8.toInt32)), (.int (Int32.ofNat i)), (.ref a3)])) := fun t_ k_ => p105 t_ (by
   refine XS.icmpYes X0.here hx rfl (pc0 := 20) (pc' := 26) rfl (hb hby d13_20) rfl (flt c106).2.2.2 (by decide) (by decide) ?_
   refine XS.aloadN X0.here hx rfl (hb hby d13_26) rfl rfl ?_
   refine XS.iloadN X0.here hx rfl (hb hby d13_27) rfl ?_
   refine XS.iload X0.here hx rfl (hb hby d13_28) rfl ?_
   refine XS.i2b X0.here hx rfl (hb hby d13_30) rfl ?_
   exact k_)
  obtain ⟨cl108, Ar108, q108, S108, Ng108, H108, G108⟩ := id V3
  have hin108 := inb_of S108 (j := (Int32.ofNat i)) ⟨own_nn32 (by omega), (own_lt32 (by omega) (by omega)).mpr (by omega)⟩
  obtain ⟨T108, h108, X108, e108, W108, st108⟩ := stB X0 hx hZ e0 Ar108 (j := (Int32.ofNat i)) hin108 (g := (mkF m 31 #[.val (.ref a1), .val (.int (Int32.ofNat i)), .val (.ref a3), .val (.int (Int32.ofNat i)), .val (.int (Int32.ofNat n)), .val (.int (Int32.ofNat i)), .val (.int (own_at cs i))] [(.int ((own_at cs i).toInt8.toInt32)), (.int (Int32.ofNat i)), (.ref a3)])) rfl rfl (hb hby d13_31)
  have K109 : Keep h0 h108 [a3] := (Keep.refl h0 [a3]).wr W108 (Or.inl (List.mem_of_getElem? (i := 0) rfl))
  have N108 := Fr.snoc X108 N0 g3
  have V108 : Arv Z h108 a3 k3 .byte (Int32.ofNat n) ((own_ds cs n (i + 1)).map Value.int) (.int (0 : Int32)) := by
   have z := Arv.set Ar108 q108 S108 Ng108 H108 G108 (fits_nar_byte _) W108 i (own_cl32 (by omega)) (by rw [List.length_map, own_ds_len]; omega)
   rw [← List.map_set] at z; exact z
  have p110 : Go p.tables e below _ (T108.setTop (mkF m 3 #[.val (.ref a1), .val (.int ((Int32.ofNat i) + (1 : Int32))), .val (.ref a3), .val (.int ((Int32.ofNat i) + (1 : Int32))), .val (.int (Int32.ofNat n)), .val (.int ((Int32.ofNat i) + (1 : Int32))), .val (.int (own_at cs i))] [])) := fun t_ k_ => (gc p107 st108) t_ (by
   refine XS.iinc X108.here hx rfl (hb hby d13_32) rfl (l' := #[.val (.ref a1), .val (.int ((Int32.ofNat i) + (1 : Int32))), .val (.ref a3), .val (.int (Int32.ofNat i)), .val (.int (Int32.ofNat n)), .val (.int (Int32.ofNat i)), .val (.int (own_at cs i))]) rfl ?_
   refine XS.iinc X108.here hx rfl (hb hby d13_35) rfl (l' := #[.val (.ref a1), .val (.int ((Int32.ofNat i) + (1 : Int32))), .val (.ref a3), .val (.int ((Int32.ofNat i) + (1 : Int32))), .val (.int (Int32.ofNat n)), .val (.int (Int32.ofNat i)), .val (.int (own_at cs i))]) rfl ?_
   refine XS.iinc X108.here hx rfl (hb hby d13_38) rfl (l' := #[.val (.ref a1), .val (.int ((Int32.ofNat i) + (1 : Int32))), .val (.ref a3), .val (.int ((Int32.ofNat i) + (1 : Int32))), .val (.int (Int32.ofNat n)), .val (.int ((Int32.ofNat i) + (1 : Int32))), .val (.int (own_at cs i))]) rfl ?_
   refine XS.goto X108.here hx rfl (pc0 := 41) (pc' := 3) rfl (hb hby d13_41) (by decide) (by decide) ?_
   exact k_)
  have f111 := (V1.other W108 ne)
  obtain ⟨T', h', lc', s6', X', e', N', K', V3', g'⟩ := ih (i + 1) (.val (.int (own_at cs i))) T108 h108 _ (by omega) (One.val rfl) X108 e108 (Nat.le_trans Z0 K109.1) N108 f111 V108
  refine ⟨T', h', lc', s6', X', e', N', K109.trans K' (allS (Or.inl (List.mem_of_getElem? (i := 0) rfl)) all0), V3', fun t_ k_ => p110 t_ ?_⟩
  have z := g' t_ k_
  rw [own_up1 i] at z
  exact z
theorem d13_0 : decode jdk_52_method_21_code 0 = .ok (.iconst 0, 1) := by decide +kernel
theorem d13_1 : decode jdk_52_method_21_code 1 = .ok (.istore 5, 2) := by decide +kernel
theorem d13_44 : decode jdk_52_method_21_code 44 = .ok (.iload 4, 2) := by decide +kernel
theorem d13_46 : decode jdk_52_method_21_code 46 = .ok (.ireturn, 1) := by decide +kernel
theorem pn13 : plainFor (⟨"java/lang/StringUTF16", "compress", "([CI[BII)I"⟩ : MethodName) = true := plainFor_of_name (by first | (simp [plainName, overriddenIn]; done) | decide +kernel)
theorem ef_rm13_L (m : MethodId) (a1 : Addr) (a3 : Addr) (k1 : ClassId) (k3 : ClassId) (cs : List Int32) (n : Nat) (kk : Nat) : entryFrame m #[(.ref a1), (.int (0 : Int32)), (.ref a3), (.int (0 : Int32)), (.int (Int32.ofNat n))] 7 = mkF m 0 #[.val (.ref a1), .val (.int (0 : Int32)), .val (.ref a3), .val (.int (0 : Int32)), .val (.int (Int32.ofNat n)), .unset, .unset] [] := by first | (simp [entryFrame, mkF, argsToLocals, Value.category]; done) | rfl
def Q13_L (Z : State) (a1 : Addr) (a3 : Addr) (k1 : ClassId) (k3 : ClassId) (cs : List Int32) (n : Nat) (kk : Nat) (h0 : Heap) (n0 : Nat) (v : Option Value) (h : Heap) (L : List Loc) : Prop := v = some (.int (Int32.ofNat kk)) ∧ Fr n0 L ∧ (Keep h0 h [a3]) ∧ (Arv Z h a3 k3 .byte (Int32.ofNat n) ((own_ds cs n kk).map Value.int) (.int (0 : Int32)))
set_option maxRecDepth 65536 in
set_option maxHeartbeats 40000000 in
theorem rm13_L (l : Launch) (Z : State) (a0 : Array Value) (hw : ∀ d ∈ tables_1, d.before a0 Z = true) (ws : List Jvm.Cond) (a1 : Addr) (a3 : Addr) (k1 : ClassId) (k3 : ClassId) (cs : List Int32) (n : Nat) (kk : Nat) (h0 : Heap) (n0 : Nat) (Z0 : n0 ≤ h0.size) (V1 : Arv Z h0 a1 k1 .char (Int32.ofNat n) (cs.map Value.int) (.int (0 : Int32))) (V3 : Arv Z h0 a3 k3 .byte (Int32.ofNat n) ((own_ds cs n 0).map Value.int) (.int (0 : Int32))) (hn : n ≤ 8) (hk : kk = n) (HL : ∀ j, j < kk → ¬ ((255 : Int32) < own_at cs j)) (ne : a1 ≠ a3) (g3 : n0 ≤ a3) :
  MetFree l (⟨"java/lang/StringUTF16", "compress", "([CI[BII)I"⟩ : MethodName) (head1 (Jvm.Cond.code (⟨"java/lang/StringUTF16", "compress", "([CI[BII)I"⟩ : MethodName) jdk_52_method_21_code 7 (some .int) :: ws) ({ frames := 0, cells := 0, slots := 0, locals := 0 } : Room)) (fun a U => a = #[(.ref a1), (.int (0 : Int32)), (.ref a3), (.int (0 : Int32)), (.int (Int32.ofNat n))] ∧ Z.Warmed39 U.vm ∧ U.heap = h0) (fun _ _ _ _ _ => True) (fun _ U o U' => ∃ v L, o = .returned v ∧ Q13_L Z a1 a3 k1 k3 cs n kk h0 n0 v U'.heap L ∧ FrameEnd U o U' L ({ frames := 0, cells := 0, slots := 0, locals := 0 } : Room).cells ({ frames := 0, cells := 0, slots := 0, locals := 0 } : Room).slots) := by
 refine MetFree.of_bodySF pn13 hisR ?_
 intro p e s m args below meth c s₁ Bd hml0 hP hK
 obtain ⟨rfl, hZ, hh⟩ := hP
 have hx := Bd.exec
 have hby := Bd.bytes
 have hml : c.maxLocals = 7 := hml0
 have hown : s.vm.findClass "java/lang/StringUTF16" = some m.cls := findClass_of_methodNamed Bd.named
 have hnm := (name_of_methodNamed Bd.named Bd.method).1
 have X0 : Stand p l e ({ frames := 0, cells := 0, slots := 0, locals := 0 } : Room) s m #[(.ref a1), (.int (0 : Int32)), (.ref a3), (.int (0 : Int32)), (.int (Int32.ofNat n))] below meth c s₁ [] 0 0 := Stand.of_body Bd
 have e0 : s₁.heap = h0 := by rw [← hh, Bd.state]; rfl
 have N0 := Fr.nil n0
 have p0 : Go p.tables e below (s₁.setTop (entryFrame m #[(.ref a1), (.int (0 : Int32)), (.ref a3), (.int (0 : Int32)), (.int (Int32.ofNat n))] 7)) (s₁.setTop (mkF m 0 #[.val (.ref a1), .val (.int (0 : Int32)), .val (.ref a3), .val (.int (0 : Int32)), .val (.int (Int32.ofNat n)), .unset, .unset] [])) := fun t_ k_ => castTop (ef_rm13_L m a1 a3 k1 k3 cs n kk) k_
 have p101 : Go p.tables e below _ (s₁.setTop (mkF m 3 #[.val (.ref a1), .val (.int (0 : Int32)), .val (.ref a3), .val (.int (0 : Int32)), .val (.int (Int32.ofNat n)), .val (.int (0 : Int32)), .unset] [])) := fun t_ k_ => p0 t_ (by
  refine XS.iconst X0.here hx rfl (hb hby d13_0) ?_
  refine XS.istore X0.here hx rfl (hb hby d13_1) rfl (l' := #[.val (.ref a1), .val (.int (0 : Int32)), .val (.ref a3), .val (.int (0 : Int32)), .val (.int (Int32.ofNat n)), .val (.int (0 : Int32)), .unset]) rfl ?_
  exact k_)
 have p103 : Go p.tables e below _ (s₁.setTop (mkF m 3 #[.val (.ref a1), .val (.int (Int32.ofNat 0)), .val (.ref a3), .val (.int (Int32.ofNat 0)), .val (.int (Int32.ofNat n)), .val (.int (Int32.ofNat 0)), .unset] [])) := p101
 obtain ⟨T102, h102, lc102, s6102, X102, e102, N102, K102, V3102, g102⟩ := lpCL Z a0 hx hZ hw hby hml hown a1 a3 k1 k3 cs n kk n0 hn hk HL ne g3 kk 0 .unset s₁ h0 _ (by omega) One.u X0 e0 Z0 N0 V1 V3
 have p104 : Go p.tables e below _ (T102.setTop (mkF m 44 #[.val (.ref a1), .val (.int (Int32.ofNat kk)), .val (.ref a3), .val (.int (Int32.ofNat kk)), .val (.int (Int32.ofNat n)), .val (.int (Int32.ofNat kk)), s6102] [])) := fun t_ k_ => p103 t_ (g102 t_ k_)
 have p105 : Go p.tables e below _ (T102.setTop (mkF m 46 #[.val (.ref a1), .val (.int (Int32.ofNat kk)), .val (.ref a3), .val (.int (Int32.ofNat kk)), .val (.int (Int32.ofNat n)), .val (.int (Int32.ofNat kk)), s6102] [(.int (Int32.ofNat n))])) := fun t_ k_ => p104 t_ (by
  refine XS.iload X102.here hx rfl (hb hby d13_44) rfl ?_
  exact k_)
 obtain ⟨fs, hr, hrun, hended, hW, hsame⟩ := X102.leave (v := some (.int (Int32.ofNat n))) (fun h => by rw [Bd.returns] at h; cases h)
 refine ⟨_, _, p105 _ (retI X102 hx Bd.returns (hb hby d13_46) hr), hrun, hended, _, _, rfl, ?_, ⟨_, rfl⟩, hW, hsame.mono (by decide) (by decide)⟩
 show Q13_L Z a1 a3 k1 k3 cs n kk h0 n0 _ T102.heap _
 rw [e102]
 exact ⟨congrArg (fun q => some (Value.int (Int32.ofNat q))) hk.symm, N102, K102, V3102⟩
set_option maxRecDepth 65536 in
set_option maxHeartbeats 40000000 in
theorem lpCU {p : Program} {l : Launch} {e : Env} {s : State} {m : MethodId} {args : Array Value} {below : List Frame} {meth : Method} {c : Code} (Z : State) (a0 : Array Value) (hx : p.tables.exec = Jvm.exec) (hZ : Z.Warmed39 s.vm) (hw : ∀ d ∈ tables_1, d.before a0 Z = true) (hby : c.code = jdk_52_method_21_code) (hml : c.maxLocals = 7) (hown : s.vm.findClass "java/lang/StringUTF16" = some m.cls) (a1 : Addr) (a3 : Addr) (k1 : ClassId) (k3 : ClassId) (cs : List Int32) (n : Nat) (kk : Nat) (n0 : Nat) (hn : n ≤ 8) (hk : kk < n) (HL : ∀ j, j < kk → ¬ ((255 : Int32) < own_at cs j)) (hm : (255 : Int32) < own_at cs kk) (ne : a1 ≠ a3) (g3 : n0 ≤ a3) : ∀ (k i : Nat) (s6 : Slot) (T : State) (h0 : Heap) (locs : List Loc), i + k = kk → One s6 → Stand p l e (⟨0, 0, 0, 0⟩ : Room) s m args below meth c T locs 0 0 → T.heap = h0 → n0 ≤ h0.size → Fr n0 locs → Arv Z h0 a1 k1 .char (Int32.ofNat n) (cs.map Value.int) (.int (0 : Int32)) → Arv Z h0 a3 k3 .byte (Int32.ofNat n) ((own_ds cs n i).map Value.int) (.int (0 : Int32)) → ∃ (T' : State) (h' : Heap) (lc : List Loc) (s6' : Slot), Stand p l e (⟨0, 0, 0, 0⟩ : Room) s m args below meth c T' lc 0 0 ∧ T'.heap = h' ∧ Fr n0 lc ∧ Keep h0 h' [a3] ∧ Arv Z h' a3 k3 .byte (Int32.ofNat n) ((own_ds cs n kk).map Value.int) (.int (0 : Int32)) ∧ Go p.tables e below (T.setTop (mkF m 3 #[.val (.ref a1), .val (.int (Int32.ofNat i)), .val (.ref a3), .val (.int (Int32.ofNat i)), .val (.int (Int32.ofNat n)), .val (.int (Int32.ofNat i)), s6] [])) (T'.setTop (mkF m 23 #[.val (.ref a1), .val (.int (Int32.ofNat kk)), .val (.ref a3), .val (.int (Int32.ofNat kk)), .val (.int (Int32.ofNat n)), .val (.int (Int32.ofNat kk)), s6'] [])) := by
 intro k
 induction k with
 | zero =>
  intro i s6 T h0 locs hik o6 X0 e0 Z0 N0 V1 V3
  have hin : i = kk := by omega
  have p0 : Go p.tables e below (T.setTop (mkF m 3 #[.val (.ref a1), .val (.int (Int32.ofNat i)), .val (.ref a3), .val (.int (Int32.ofNat i)), .val (.int (Int32.ofNat n)), .val (.int (Int32.ofNat i)), s6] [])) (T.setTop (mkF m 3 #[.val (.ref a1), .val (.int (Int32.ofNat i)), .val (.ref a3), .val (.int (Int32.ofNat i)), .val (.int (Int32.ofNat n)), .val (.int (Int32.ofNat i)), s6] [])) := fun t_ k_ => k_
  have p101 : Go p.tables e below _ (T.setTop (mkF m 7 #[.val (.ref a1), .val (.int (Int32.ofNat i)), .val (.ref a3), .val (.int (Int32.ofNat i)), .val (.int (Int32.ofNat n)), .val (.int (Int32.ofNat i)), s6] [(.int (Int32.ofNat n)), (.int (Int32.ofNat i))])) := fun t_ k_ => p0 t_ (by
   refine XS.iload X0.here hx rfl (hb hby d13_3) rfl ?_
   refine XS.iload X0.here hx rfl (hb hby d13_5) rfl ?_
   exact k_)
  have c102 : ((Int32.ofNat i) < (Int32.ofNat n)) := (own_lt32 (by omega) (by omega)).mpr (by omega)
  have p103 : Go p.tables e below _ (T.setTop (mkF m 12 #[.val (.ref a1), .val (.int (Int32.ofNat i)), .val (.ref a3), .val (.int (Int32.ofNat i)), .val (.int (Int32.ofNat n)), .val (.int (Int32.ofNat i)), s6] [(.int (Int32.ofNat i)), (.ref a1)])) := fun t_ k_ => p101 t_ (by
   refine XS.icmpNo X0.here hx rfl (hb hby d13_7) rfl (tlt c102).2.1 ?_
   refine XS.aloadN X0.here hx rfl (hb hby d13_10) rfl rfl ?_
   refine XS.iloadN X0.here hx rfl (hb hby d13_11) rfl ?_
   exact k_)
  obtain ⟨cl104, Ar104, q104, S104, Ng104, H104, G104⟩ := id V1
  have hin104 := inb_of S104 (j := (Int32.ofNat i)) ⟨own_nn32 (by omega), (own_lt32 (by omega) (by omega)).mpr (by omega)⟩
  have hat104 := H104.at (v := (.int (own_at cs i))) hin104 (own_mg cs i (by omega))
  have p105 : Go p.tables e below _ (T.setTop (mkF m 20 #[.val (.ref a1), .val (.int (Int32.ofNat i)), .val (.ref a3), .val (.int (Int32.ofNat i)), .val (.int (Int32.ofNat n)), .val (.int (Int32.ofNat i)), .val (.int (own_at cs i))] [(.int (255 : Int32)), (.int (own_at cs i))])) := fun t_ k_ => p103 t_ (by
   refine X0.caload hx (j := (Int32.ofNat i)) (v := (.int (own_at cs i))) (by rw [e0]; exact Ar104.1) (State.isArrayOf_alike hZ.alike Ar104.2.1) Ar104.2.2 hin104 hat104 (g := (mkF m 12 #[.val (.ref a1), .val (.int (Int32.ofNat i)), .val (.ref a3), .val (.int (Int32.ofNat i)), .val (.int (Int32.ofNat n)), .val (.int (Int32.ofNat i)), s6] [(.int (Int32.ofNat i)), (.ref a1)])) rfl rfl (hb hby d13_12) _ ?_
   refine XS.istoreS X0.here hx rfl (hb hby d13_13) rfl rfl o6 ?_
   refine XS.iload X0.here hx rfl (hb hby d13_15) rfl ?_
   refine XS.sipush X0.here hx rfl (hb hby d13_17) ?_
   exact k_)
  have c106 : ((255 : Int32) < (own_at cs i)) := hin ▸ hm
  have p107 : Go p.tables e below _ (T.setTop (mkF m 23 #[.val (.ref a1), .val (.int (Int32.ofNat i)), .val (.ref a3), .val (.int (Int32.ofNat i)), .val (.int (Int32.ofNat n)), .val (.int (Int32.ofNat i)), .val (.int (own_at cs i))] [])) := fun t_ k_ => p105 t_ (by
   refine XS.icmpNo X0.here hx rfl (hb hby d13_20) rfl (tlt c106).2.2.2 ?_
   exact k_)
  subst hin; exact ⟨_, _, _, _, X0, e0, N0, (Keep.refl h0 [a3]), V3, p107⟩
 | succ k ih =>
  intro i s6 T h0 locs hik o6 X0 e0 Z0 N0 V1 V3
  have p0 : Go p.tables e below (T.setTop (mkF m 3 #[.val (.ref a1), .val (.int (Int32.ofNat i)), .val (.ref a3), .val (.int (Int32.ofNat i)), .val (.int (Int32.ofNat n)), .val (.int (Int32.ofNat i)), s6] [])) (T.setTop (mkF m 3 #[.val (.ref a1), .val (.int (Int32.ofNat i)), .val (.ref a3), .val (.int (Int32.ofNat i)), .val (.int (Int32.ofNat n)), .val (.int (Int32.ofNat i)), s6] [])) := fun t_ k_ => k_
  have p101 : Go p.tables e below _ (T.setTop (mkF m 7 #[.val (.ref a1), .val (.int (Int32.ofNat i)), .val (.ref a3), .val (.int (Int32.ofNat i)), .val (.int (Int32.ofNat n)), .val (.int (Int32.ofNat i)), s6] [(.int (Int32.ofNat n)), (.int (Int32.ofNat i))])) := fun t_ k_ => p0 t_ (by
   refine XS.iload X0.here hx rfl (hb hby d13_3) rfl ?_
   refine XS.iload X0.here hx rfl (hb hby d13_5) rfl ?_
   exact k_)
  have c102 : ((Int32.ofNat i) < (Int32.ofNat n)) := (own_lt32 (by omega) (by omega)).mpr (by omega)
  have p103 : Go p.tables e below _ (T.setTop (mkF m 12 #[.val (.ref a1), .val (.int (Int32.ofNat i)), .val (.ref a3), .val (.int (Int32.ofNat i)), .val (.int (Int32.ofNat n)), .val (.int (Int32.ofNat i)), s6] [(.int (Int32.ofNat i)), (.ref a1)])) := fun t_ k_ => p101 t_ (by
   refine XS.icmpNo X0.here hx rfl (hb hby d13_7) rfl (tlt c102).2.1 ?_
   refine XS.aloadN X0.here hx rfl (hb hby d13_10) rfl rfl ?_
   refine XS.iloadN X0.here hx rfl (hb hby d13_11) rfl ?_
   exact k_)
  obtain ⟨cl104, Ar104, q104, S104, Ng104, H104, G104⟩ := id V1
  have hin104 := inb_of S104 (j := (Int32.ofNat i)) ⟨own_nn32 (by omega), (own_lt32 (by omega) (by omega)).mpr (by omega)⟩
  have hat104 := H104.at (v := (.int (own_at cs i))) hin104 (own_mg cs i (by omega))
  have p105 : Go p.tables e below _ (T.setTop (mkF m 20 #[.val (.ref a1), .val (.int (Int32.ofNat i)), .val (.ref a3), .val (.int (Int32.ofNat i)), .val (.int (Int32.ofNat n)), .val (.int (Int32.ofNat i)), .val (.int (own_at cs i))] [(.int (255 : Int32)), (.int (own_at cs i))])) := fun t_ k_ => p103 t_ (by
   refine X0.caload hx (j := (Int32.ofNat i)) (v := (.int (own_at cs i))) (by rw [e0]; exact Ar104.1) (State.isArrayOf_alike hZ.alike Ar104.2.1) Ar104.2.2 hin104 hat104 (g := (mkF m 12 #[.val (.ref a1), .val (.int (Int32.ofNat i)), .val (.ref a3), .val (.int (Int32.ofNat i)), .val (.int (Int32.ofNat n)), .val (.int (Int32.ofNat i)), s6] [(.int (Int32.ofNat i)), (.ref a1)])) rfl rfl (hb hby d13_12) _ ?_
   refine XS.istoreS X0.here hx rfl (hb hby d13_13) rfl rfl o6 ?_
   refine XS.iload X0.here hx rfl (hb hby d13_15) rfl ?_
   refine XS.sipush X0.here hx rfl (hb hby d13_17) ?_
   exact k_)
  have c106 : ¬ ((255 : Int32) < (own_at cs i)) := HL i (by omega)
  have p107 : Go p.tables e below _ (T.setTop (mkF m 31 #[.val (.ref a1), .val (.int (Int32.ofNat i)), .val (.ref a3), .val (.int (Int32.ofNat i)), .val (.int (Int32.ofNat n)), .val (.int (Int32.ofNat i)), .val (.int (own_at cs i))] [(.int ((own_at cs i).toInt8.toInt32)), (.int (Int32.ofNat i)), (.ref a3)])) := fun t_ k_ => p105 t_ (by
   refine XS.icmpYes X0.here hx rfl (pc0 := 20) (pc' := 26) rfl (hb hby d13_20) rfl (flt c106).2.2.2 (by decide) (by decide) ?_
   refine XS.aloadN X0.here hx rfl (hb hby d13_26) rfl rfl ?_
   refine XS.iloadN X0.here hx rfl (hb hby d13_27) rfl ?_
   refine XS.iload X0.here hx rfl (hb hby d13_28) rfl ?_
   refine XS.i2b X0.here hx rfl (hb hby d13_30) rfl ?_
   exact k_)
  obtain ⟨cl108, Ar108, q108, S108, Ng108, H108, G108⟩ := id V3
  have hin108 := inb_of S108 (j := (Int32.ofNat i)) ⟨own_nn32 (by omega), (own_lt32 (by omega) (by omega)).mpr (by omega)⟩
  obtain ⟨T108, h108, X108, e108, W108, st108⟩ := stB X0 hx hZ e0 Ar108 (j := (Int32.ofNat i)) hin108 (g := (mkF m 31 #[.val (.ref a1), .val (.int (Int32.ofNat i)), .val (.ref a3), .val (.int (Int32.ofNat i)), .val (.int (Int32.ofNat n)), .val (.int (Int32.ofNat i)), .val (.int (own_at cs i))] [(.int ((own_at cs i).toInt8.toInt32)), (.int (Int32.ofNat i)), (.ref a3)])) rfl rfl (hb hby d13_31)
  have K109 : Keep h0 h108 [a3] := (Keep.refl h0 [a3]).wr W108 (Or.inl (List.mem_of_getElem? (i := 0) rfl))
  have N108 := Fr.snoc X108 N0 g3
  have V108 : Arv Z h108 a3 k3 .byte (Int32.ofNat n) ((own_ds cs n (i + 1)).map Value.int) (.int (0 : Int32)) := by
   have z := Arv.set Ar108 q108 S108 Ng108 H108 G108 (fits_nar_byte _) W108 i (own_cl32 (by omega)) (by rw [List.length_map, own_ds_len]; omega)
   rw [← List.map_set] at z; exact z
  have p110 : Go p.tables e below _ (T108.setTop (mkF m 3 #[.val (.ref a1), .val (.int ((Int32.ofNat i) + (1 : Int32))), .val (.ref a3), .val (.int ((Int32.ofNat i) + (1 : Int32))), .val (.int (Int32.ofNat n)), .val (.int ((Int32.ofNat i) + (1 : Int32))), .val (.int (own_at cs i))] [])) := fun t_ k_ => (gc p107 st108) t_ (by
   refine XS.iinc X108.here hx rfl (hb hby d13_32) rfl (l' := #[.val (.ref a1), .val (.int ((Int32.ofNat i) + (1 : Int32))), .val (.ref a3), .val (.int (Int32.ofNat i)), .val (.int (Int32.ofNat n)), .val (.int (Int32.ofNat i)), .val (.int (own_at cs i))]) rfl ?_
   refine XS.iinc X108.here hx rfl (hb hby d13_35) rfl (l' := #[.val (.ref a1), .val (.int ((Int32.ofNat i) + (1 : Int32))), .val (.ref a3), .val (.int ((Int32.ofNat i) + (1 : Int32))), .val (.int (Int32.ofNat n)), .val (.int (Int32.ofNat i)), .val (.int (own_at cs i))]) rfl ?_
   refine XS.iinc X108.here hx rfl (hb hby d13_38) rfl (l' := #[.val (.ref a1), .val (.int ((Int32.ofNat i) + (1 : Int32))), .val (.ref a3), .val (.int ((Int32.ofNat i) + (1 : Int32))), .val (.int (Int32.ofNat n)), .val (.int ((Int32.ofNat i) + (1 : Int32))), .val (.int (own_at cs i))]) rfl ?_
   refine XS.goto X108.here hx rfl (pc0 := 41) (pc' := 3) rfl (hb hby d13_41) (by decide) (by decide) ?_
   exact k_)
  have f111 := (V1.other W108 ne)
  obtain ⟨T', h', lc', s6', X', e', N', K', V3', g'⟩ := ih (i + 1) (.val (.int (own_at cs i))) T108 h108 _ (by omega) (One.val rfl) X108 e108 (Nat.le_trans Z0 K109.1) N108 f111 V108
  refine ⟨T', h', lc', s6', X', e', N', K109.trans K' (allS (Or.inl (List.mem_of_getElem? (i := 0) rfl)) all0), V3', fun t_ k_ => p110 t_ ?_⟩
  have z := g' t_ k_
  rw [own_up1 i] at z
  exact z
theorem d13_23 : decode jdk_52_method_21_code 23 = .ok (.iload 5, 2) := by decide +kernel
theorem d13_25 : decode jdk_52_method_21_code 25 = .ok (.ireturn, 1) := by decide +kernel
theorem ef_rm13_U (m : MethodId) (a1 : Addr) (a3 : Addr) (k1 : ClassId) (k3 : ClassId) (cs : List Int32) (n : Nat) (kk : Nat) : entryFrame m #[(.ref a1), (.int (0 : Int32)), (.ref a3), (.int (0 : Int32)), (.int (Int32.ofNat n))] 7 = mkF m 0 #[.val (.ref a1), .val (.int (0 : Int32)), .val (.ref a3), .val (.int (0 : Int32)), .val (.int (Int32.ofNat n)), .unset, .unset] [] := by first | (simp [entryFrame, mkF, argsToLocals, Value.category]; done) | rfl
def Q13_U (Z : State) (a1 : Addr) (a3 : Addr) (k1 : ClassId) (k3 : ClassId) (cs : List Int32) (n : Nat) (kk : Nat) (h0 : Heap) (n0 : Nat) (v : Option Value) (h : Heap) (L : List Loc) : Prop := v = some (.int (Int32.ofNat kk)) ∧ Fr n0 L ∧ (Keep h0 h [a3]) ∧ (Arv Z h a3 k3 .byte (Int32.ofNat n) ((own_ds cs n kk).map Value.int) (.int (0 : Int32)))
set_option maxRecDepth 65536 in
set_option maxHeartbeats 40000000 in
theorem rm13_U (l : Launch) (Z : State) (a0 : Array Value) (hw : ∀ d ∈ tables_1, d.before a0 Z = true) (ws : List Jvm.Cond) (a1 : Addr) (a3 : Addr) (k1 : ClassId) (k3 : ClassId) (cs : List Int32) (n : Nat) (kk : Nat) (h0 : Heap) (n0 : Nat) (Z0 : n0 ≤ h0.size) (V1 : Arv Z h0 a1 k1 .char (Int32.ofNat n) (cs.map Value.int) (.int (0 : Int32))) (V3 : Arv Z h0 a3 k3 .byte (Int32.ofNat n) ((own_ds cs n 0).map Value.int) (.int (0 : Int32))) (hn : n ≤ 8) (hk : kk < n) (HL : ∀ j, j < kk → ¬ ((255 : Int32) < own_at cs j)) (hm : (255 : Int32) < own_at cs kk) (ne : a1 ≠ a3) (g3 : n0 ≤ a3) :
  MetFree l (⟨"java/lang/StringUTF16", "compress", "([CI[BII)I"⟩ : MethodName) (head1 (Jvm.Cond.code (⟨"java/lang/StringUTF16", "compress", "([CI[BII)I"⟩ : MethodName) jdk_52_method_21_code 7 (some .int) :: ws) ({ frames := 0, cells := 0, slots := 0, locals := 0 } : Room)) (fun a U => a = #[(.ref a1), (.int (0 : Int32)), (.ref a3), (.int (0 : Int32)), (.int (Int32.ofNat n))] ∧ Z.Warmed39 U.vm ∧ U.heap = h0) (fun _ _ _ _ _ => True) (fun _ U o U' => ∃ v L, o = .returned v ∧ Q13_U Z a1 a3 k1 k3 cs n kk h0 n0 v U'.heap L ∧ FrameEnd U o U' L ({ frames := 0, cells := 0, slots := 0, locals := 0 } : Room).cells ({ frames := 0, cells := 0, slots := 0, locals := 0 } : Room).slots) := by
 refine MetFree.of_bodySF pn13 hisR ?_
 intro p e s m args below meth c s₁ Bd hml0 hP hK
 obtain ⟨rfl, hZ, hh⟩ := hP
 have hx := Bd.exec
 have hby := Bd.bytes
 have hml : c.maxLocals = 7 := hml0
 have hown : s.vm.findClass "java/lang/StringUTF16" = some m.cls := findClass_of_methodNamed Bd.named
 have hnm := (name_of_methodNamed Bd.named Bd.method).1
 have X0 : Stand p l e ({ frames := 0, cells := 0, slots := 0, locals := 0 } : Room) s m #[(.ref a1), (.int (0 : Int32)), (.ref a3), (.int (0 : Int32)), (.int (Int32.ofNat n))] below meth c s₁ [] 0 0 := Stand.of_body Bd
 have e0 : s₁.heap = h0 := by rw [← hh, Bd.state]; rfl
 have N0 := Fr.nil n0
 have p0 : Go p.tables e below (s₁.setTop (entryFrame m #[(.ref a1), (.int (0 : Int32)), (.ref a3), (.int (0 : Int32)), (.int (Int32.ofNat n))] 7)) (s₁.setTop (mkF m 0 #[.val (.ref a1), .val (.int (0 : Int32)), .val (.ref a3), .val (.int (0 : Int32)), .val (.int (Int32.ofNat n)), .unset, .unset] [])) := fun t_ k_ => castTop (ef_rm13_U m a1 a3 k1 k3 cs n kk) k_
 have p101 : Go p.tables e below _ (s₁.setTop (mkF m 3 #[.val (.ref a1), .val (.int (0 : Int32)), .val (.ref a3), .val (.int (0 : Int32)), .val (.int (Int32.ofNat n)), .val (.int (0 : Int32)), .unset] [])) := fun t_ k_ => p0 t_ (by
  refine XS.iconst X0.here hx rfl (hb hby d13_0) ?_
  refine XS.istore X0.here hx rfl (hb hby d13_1) rfl (l' := #[.val (.ref a1), .val (.int (0 : Int32)), .val (.ref a3), .val (.int (0 : Int32)), .val (.int (Int32.ofNat n)), .val (.int (0 : Int32)), .unset]) rfl ?_
  exact k_)
 have p103 : Go p.tables e below _ (s₁.setTop (mkF m 3 #[.val (.ref a1), .val (.int (Int32.ofNat 0)), .val (.ref a3), .val (.int (Int32.ofNat 0)), .val (.int (Int32.ofNat n)), .val (.int (Int32.ofNat 0)), .unset] [])) := p101
 obtain ⟨T102, h102, lc102, s6102, X102, e102, N102, K102, V3102, g102⟩ := lpCU Z a0 hx hZ hw hby hml hown a1 a3 k1 k3 cs n kk n0 hn hk HL hm ne g3 kk 0 .unset s₁ h0 _ (by omega) One.u X0 e0 Z0 N0 V1 V3
 have p104 : Go p.tables e below _ (T102.setTop (mkF m 23 #[.val (.ref a1), .val (.int (Int32.ofNat kk)), .val (.ref a3), .val (.int (Int32.ofNat kk)), .val (.int (Int32.ofNat n)), .val (.int (Int32.ofNat kk)), s6102] [])) := fun t_ k_ => p103 t_ (g102 t_ k_)
 have p105 : Go p.tables e below _ (T102.setTop (mkF m 25 #[.val (.ref a1), .val (.int (Int32.ofNat kk)), .val (.ref a3), .val (.int (Int32.ofNat kk)), .val (.int (Int32.ofNat n)), .val (.int (Int32.ofNat kk)), s6102] [(.int (Int32.ofNat kk))])) := fun t_ k_ => p104 t_ (by
  refine XS.iload X102.here hx rfl (hb hby d13_23) rfl ?_
  exact k_)
 obtain ⟨fs, hr, hrun, hended, hW, hsame⟩ := X102.leave (v := some (.int (Int32.ofNat kk))) (fun h => by rw [Bd.returns] at h; cases h)
 refine ⟨_, _, p105 _ (retI X102 hx Bd.returns (hb hby d13_25) hr), hrun, hended, _, _, rfl, ?_, ⟨_, rfl⟩, hW, hsame.mono (by decide) (by decide)⟩
 show Q13_U Z a1 a3 k1 k3 cs n kk h0 n0 _ T102.heap _
 rw [e102]
 exact ⟨rfl, N102, K102, V3102⟩
theorem d3_0 : decode jdk_42_method_149_code 0 = .ok (.aload_n 0, 1) := by decide +kernel
theorem d3_1 : decode jdk_42_method_149_code 1 = .ok (.invokespecial 1, 3) := by decide +kernel
theorem d3_4 : decode jdk_42_method_149_code 4 = .ok (.iload_n 3, 1) := by decide +kernel
theorem d3_5 : decode jdk_42_method_149_code 5 = .ok (.ifCond .ne 22, 3) := by decide +kernel
theorem d3_8 : decode jdk_42_method_149_code 8 = .ok (.aload_n 0, 1) := by decide +kernel
theorem d3_9 : decode jdk_42_method_149_code 9 = .ok (.ldc 7, 2) := by decide +kernel
theorem d3_11 : decode jdk_42_method_149_code 11 = .ok (.getfield 9, 3) := by decide +kernel
theorem d3_14 : decode jdk_42_method_149_code 14 = .ok (.putfield 9, 3) := by decide +kernel
theorem d3_17 : decode jdk_42_method_149_code 17 = .ok (.aload_n 0, 1) := by decide +kernel
theorem d3_18 : decode jdk_42_method_149_code 18 = .ok (.ldc 7, 2) := by decide +kernel
theorem d3_20 : decode jdk_42_method_149_code 20 = .ok (.getfield 15, 3) := by decide +kernel
theorem d3_23 : decode jdk_42_method_149_code 23 = .ok (.putfield 15, 3) := by decide +kernel
theorem d3_26 : decode jdk_42_method_149_code 26 = .ok (.return_, 1) := by decide +kernel
theorem pn3 : plainFor (⟨"java/lang/String", "<init>", "([CIILjava/lang/Void;)V"⟩ : MethodName) = true := plainFor_of_name (by first | (simp [plainName, overriddenIn]; done) | decide +kernel)
theorem ef_rm3_E (m : MethodId) (a1 : Addr) (a2 : Addr) (cs1 : Int32) (fm : Value) : entryFrame m #[(.ref a1), (.ref a2), (.int (0 : Int32)), (.int (0 : Int32)), .null] 6 = mkF m 0 #[.val (.ref a1), .val (.ref a2), .val (.int (0 : Int32)), .val (.int (0 : Int32)), .val .null, .unset] [] := by first | (simp [entryFrame, mkF, argsToLocals, Value.category]; done) | rfl
def Q3_E (Z : State) (a1 : Addr) (a2 : Addr) (cs1 : Int32) (fm : Value) (h0 : Heap) (n0 : Nat) (v : Option Value) (h : Heap) (L : List Loc) : Prop := ∃ (b : Addr) (kb : ClassId), v = none ∧ Fr n0 L ∧ (Keep h0 h [a1]) ∧ (Exa Z h a1 "java/lang/String") ∧ (Fld Z h a1 "java/lang/String" "coder" "B" (.int (0 : Int32))) ∧ (Fld Z h a1 "java/lang/String" "value" "[B" (.ref b)) ∧ (Arv Z h b kb .byte (0 : Int32) [] (.int (0 : Int32)))
set_option maxRecDepth 65536 in
set_option maxHeartbeats 40000000 in
theorem rm3_E (l : Launch) (Z : State) (a0 : Array Value) (hw : ∀ d ∈ tables_1, d.before a0 Z = true) (ws : List Jvm.Cond) (a1 : Addr) (a2 : Addr) (cs1 : Int32) (fm : Value) (h0 : Heap) (n0 : Nat) (Z0 : n0 ≤ h0.size) (O1 : Old Z n0 h0) (G : own_G Z cs1 fm) (hcw : Jvm.Lit.compactW.before a0 Z = true) (hheld : Jvm.Lit.constHeld Z "java/lang/String" 7) (F1 : Fld Z h0 a1 "java/lang/String" "coder" "B" (.int (0 : Int32))) (F2 : Fld Z h0 a1 "java/lang/String" "value" "[B" .null) (E1 : Exa Z h0 a1 "java/lang/String") (g1 : n0 ≤ a1) :
  MetFree l (⟨"java/lang/String", "<init>", "([CIILjava/lang/Void;)V"⟩ : MethodName) (head1 (Jvm.Cond.code (⟨"java/lang/String", "<init>", "([CIILjava/lang/Void;)V"⟩ : MethodName) jdk_42_method_149_code 6 none :: ws) ({ frames := 1, cells := 2, slots := 4, locals := 12 } : Room)) (fun a U => a = #[(.ref a1), (.ref a2), (.int (0 : Int32)), (.int (0 : Int32)), .null] ∧ Z.Warmed39 U.vm ∧ U.heap = h0 ∧ IB Z U.vm []) (fun _ _ _ _ _ => True) (fun _ U o U' => ∃ v L, o = .returned v ∧ Q3_E Z a1 a2 cs1 fm h0 n0 v U'.heap L ∧ ReturnedEndW U o U' L ({ frames := 1, cells := 2, slots := 4, locals := 12 } : Room).cells ({ frames := 1, cells := 2, slots := 4, locals := 12 } : Room).slots) := by
 refine MetFree.of_bodySF pn3 hisR ?_
 intro p e s m args below meth c s₁ Bd hml0 hP hK
 obtain ⟨rfl, hZ, hh, I0⟩ := hP
 have hx := Bd.exec
 have hby := Bd.bytes
 have hml : c.maxLocals = 6 := hml0
 have hown : s.vm.findClass "java/lang/String" = some m.cls := findClass_of_methodNamed Bd.named
 have hnm := (name_of_methodNamed Bd.named Bd.method).1
 have X0 : Stand p l e ({ frames := 1, cells := 2, slots := 4, locals := 12 } : Room) s m #[(.ref a1), (.ref a2), (.int (0 : Int32)), (.int (0 : Int32)), .null] below meth c s₁ [] 0 0 := Stand.of_body Bd
 have e0 : s₁.heap = h0 := by rw [← hh, Bd.state]; rfl
 have N0 := Fr.nil n0
 have p0 : Go p.tables e below (s₁.setTop (entryFrame m #[(.ref a1), (.ref a2), (.int (0 : Int32)), (.int (0 : Int32)), .null] 6)) (s₁.setTop (mkF m 0 #[.val (.ref a1), .val (.ref a2), .val (.int (0 : Int32)), .val (.int (0 : Int32)), .val .null, .unset] [])) := fun t_ k_ => castTop (ef_rm3_E m a1 a2 cs1 fm) k_
 have hkp : ∀ (b : Addr) (cl : Cell), Z.heap[b]? = some cl → s.heap[b]? = some cl := fun b cl q => by rw [hh]; exact O1.2.2 b cl q
 have p101 : Go p.tables e below _ (s₁.setTop (mkF m 1 #[.val (.ref a1), .val (.ref a2), .val (.int (0 : Int32)), .val (.int (0 : Int32)), .val .null, .unset] [(.ref a1)])) := fun t_ k_ => p0 t_ (by
  refine XS.aloadN X0.here hx rfl (hb hby d3_0) rfl rfl ?_
  exact k_)
 obtain ⟨T102, X102, e102, st102⟩ := initO X0 hx hZ hown (own_w hw 17 rfl) (own_w hw 18 rfl) (own_w hw 19 rfl) e0 (g := (mkF m 1 #[.val (.ref a1), .val (.ref a2), .val (.int (0 : Int32)), .val (.int (0 : Int32)), .val .null, .unset] [(.ref a1)])) rfl (by rw [hml]; rfl) rfl (hb hby d3_1) (by decide) (W := 0) (by show 2 * 0 + _ ≤ _; exact Nat.le_of_eq rfl) (by decide)
 have p103 : Go p.tables e below _ (T102.setTop (mkF m 9 #[.val (.ref a1), .val (.ref a2), .val (.int (0 : Int32)), .val (.int (0 : Int32)), .val .null, .unset] [(.ref a1)])) := fun t_ k_ => (gc p101 st102) t_ (by
  refine XS.iloadN X102.here hx rfl (hb hby d3_4) rfl ?_
  refine XS.ifNo X102.here hx rfl (hb hby d3_5) rfl ((if0 _ _).trans (teq (by decide : ((0 : Int32) = (0 : Int32)))).2) ?_
  refine XS.aloadN X102.here hx rfl (hb hby d3_8) rfl rfl ?_
  exact k_)
 obtain ⟨b104, T104, h104, k104, v104, c104, X104, e104, E104, S104, kb104, hZ104, hown104, A104, C104, F104, V104, -, -, I104, L104, st104⟩ := ldcSVL (s := s) (vm0 := s.vm) X102 hx hZ hown (own_w hw 20 rfl) (own_sA hw) e102 ((State.WarmedH.refl s).since 0) (Nat.zero_le _) (Fr.nil _) hkp I0 (by decide) hheld hcw (z := (0 : Int32)) (vs := []) ⟨by decide, by decide⟩ (by decide) (by decide) (g := (mkF m 9 #[.val (.ref a1), .val (.ref a2), .val (.int (0 : Int32)), .val (.int (0 : Int32)), .val .null, .unset] [(.ref a1)])) rfl (hb hby d3_9) (n := 0) (by decide) (by decide) (by decide) (by decide)
 have K105 : Keep h0 h104 [a1] := (Keep.refl h0 [a1]).ext E104
 have f107 := (F2.ext E104)
 have ne106 := neFF f107 F104
 have f109 := (E1.ext E104)
 have ne108 := neAV (own_w hw 8 rfl) f109 V104
 obtain ⟨T110, X110, e110, st110⟩ := getF X104 hx hZ104 hown104 (host := "") (Or.inl (own_w hw 26 rfl)) Via.refl e104 F104 (g := (mkF m 11 #[.val (.ref a1), .val (.ref a2), .val (.int (0 : Int32)), .val (.int (0 : Int32)), .val .null, .unset] [(.ref b104), (.ref a1)])) rfl rfl (hb hby d3_11)
 obtain ⟨T111, h111, X111, e111, W111, st111⟩ := putF X110 hx hZ104 hown104 (host := "") (Or.inl (own_w hw 26 rfl)) Via.refl e110 f107 f109 (Or.inr ⟨(own_w hw 22 rfl), rfl, hnm⟩) (own_w hw 8 rfl) (ty := (.array .byte)) (by decide) rfl rfl (g := (mkF m 14 #[.val (.ref a1), .val (.ref a2), .val (.int (0 : Int32)), .val (.int (0 : Int32)), .val .null, .unset] [(.ref v104), (.ref a1)])) rfl rfl (hb hby d3_14)
 have K112 : Keep h0 h111 [a1] := K105.wr W111 (Or.inl (List.mem_of_getElem? (i := 0) rfl))
 have N111 := Fr.snoc X111 N0 g1
 have F111 : Fld Z h111 a1 "java/lang/String" "value" "[B" (.ref v104) := f107.same W111
 have p113 : Go p.tables e below _ (T111.setTop (mkF m 18 #[.val (.ref a1), .val (.ref a2), .val (.int (0 : Int32)), .val (.int (0 : Int32)), .val .null, .unset] [(.ref a1)])) := fun t_ k_ => (gc (gc (gc p103 st104) st110) st111) t_ (by
  refine XS.aloadN X111.here hx rfl (hb hby d3_17) rfl rfl ?_
  exact k_)
 have p114 : Go p.tables e below _ (T111.setTop (mkF m 20 #[.val (.ref a1), .val (.ref a2), .val (.int (0 : Int32)), .val (.int (0 : Int32)), .val .null, .unset] [(.ref b104), (.ref a1)])) := fun t_ k_ => p113 t_ (by
  refine ldcAgain (s := s) (vm0 := T104.vm) X111 hx hZ104 hown104 (own_w hw 20 rfl) L104 (g := (mkF m 18 #[.val (.ref a1), .val (.ref a2), .val (.int (0 : Int32)), .val (.int (0 : Int32)), .val .null, .unset] [(.ref a1)])) rfl (hb hby d3_18) _ ?_
  exact k_)
 have f115 := (C104.other W111 (Or.inl (Ne.symm ne106)))
 obtain ⟨T116, X116, e116, st116⟩ := getF X111 hx hZ104 hown104 (host := "") (Or.inl (own_w hw 27 rfl)) Via.refl e111 f115 (g := (mkF m 20 #[.val (.ref a1), .val (.ref a2), .val (.int (0 : Int32)), .val (.int (0 : Int32)), .val .null, .unset] [(.ref b104), (.ref a1)])) rfl rfl (hb hby d3_20)
 have f117 := ((F1.ext E104).other W111 (Or.inr (slot_ne (Or.inr (own_w hw 23 rfl)) (Or.inr (own_w hw 22 rfl)) (by decide) (t := .byte) (t' := (.array .byte)) (by decide) (by decide))))
 have f118 := (f109.wr W111)
 obtain ⟨T119, h119, X119, e119, W119, st119⟩ := putFN X116 hx hZ104 hown104 (own_w hw 27 rfl) Via.refl e116 f117 f118 (Or.inr ⟨(own_w hw 23 rfl), rfl, hnm⟩) (own_w hw 8 rfl) (ty := .byte) (v' := (.int (0 : Int32))) (by decide) rfl (by decide) (g := (mkF m 23 #[.val (.ref a1), .val (.ref a2), .val (.int (0 : Int32)), .val (.int (0 : Int32)), .val .null, .unset] [(.int (0 : Int32)), (.ref a1)])) rfl rfl (hb hby d3_23)
 have K120 : Keep h0 h119 [a1] := K112.wr W119 (Or.inl (List.mem_of_getElem? (i := 0) rfl))
 have N119 := Fr.snoc X119 N111 g1
 have F119 : Fld Z h119 a1 "java/lang/String" "coder" "B" (.int (0 : Int32)) := f117.same W119
 have f121 := (f118.wr W119)
 have f122 := (F111.other W119 (Or.inr (slot_ne (Or.inr (own_w hw 22 rfl)) (Or.inr (own_w hw 23 rfl)) (by decide) (t := (.array .byte)) (t' := .byte) (by decide) (by decide))))
 have f123 := ((V104.other W111 (Ne.symm ne108)).other W119 (Ne.symm ne108))
 have f124 := (Nat.le_trans (Nat.le_trans kb104 (Keep.of_wr W111).1) (Keep.of_wr W119).1)
 obtain ⟨fs, hr, hrun, hended, hRW⟩ := X119.leaveW (s := s) S104 (by rw [e119]; exact f124) (v := none) (fun _ => rfl)
 refine ⟨_, _, (gc (gc p114 st116) st119) _ (X119.returnOut hx Bd.returns (hb hby d3_26) hr), hrun, hended, _, _, rfl, ?_, hRW.1, hRW.2.1, hRW.2.2.1, hRW.2.2.2.mono (by decide) (by decide)⟩
 show Q3_E Z a1 a2 cs1 fm h0 n0 _ T119.heap _
 rw [e119]
 exact ⟨v104, c104, rfl, N119, K120, f121, F119, f122, f123⟩
theorem d2_0 : decode jdk_42_method_3_code 0 = .ok (.aload_n 0, 1) := by decide +kernel
theorem d2_1 : decode jdk_42_method_3_code 1 = .ok (.aload_n 1, 1) := by decide +kernel
theorem d2_2 : decode jdk_42_method_3_code 2 = .ok (.iconst 0, 1) := by decide +kernel
theorem d2_3 : decode jdk_42_method_3_code 3 = .ok (.aload_n 1, 1) := by decide +kernel
theorem d2_4 : decode jdk_42_method_3_code 4 = .ok (.arraylength, 1) := by decide +kernel
theorem d2_5 : decode jdk_42_method_3_code 5 = .ok (.aconst_null, 1) := by decide +kernel
theorem d2_6 : decode jdk_42_method_3_code 6 = .ok (.invokespecial 27, 3) := by decide +kernel
theorem d2_9 : decode jdk_42_method_3_code 9 = .ok (.return_, 1) := by decide +kernel
theorem pd5 : parseMethodDescriptor "([CIILjava/lang/Void;)V" = some ⟨[(.array .char), .int, .int, (.object "java/lang/Void")], none⟩ := by decide +kernel
theorem pn2 : plainFor (⟨"java/lang/String", "<init>", "([C)V"⟩ : MethodName) = true := plainFor_of_name (by first | (simp [plainName, overriddenIn]; done) | decide +kernel)
theorem ef_rm2_E (m : MethodId) (a1 : Addr) (a2 : Addr) (k2 : ClassId) (cs1 : Int32) (fm : Value) : entryFrame m #[(.ref a1), (.ref a2)] 2 = mkF m 0 #[.val (.ref a1), .val (.ref a2)] [] := by first | (simp [entryFrame, mkF, argsToLocals, Value.category]; done) | rfl
def Q2_E (Z : State) (a1 : Addr) (a2 : Addr) (k2 : ClassId) (cs1 : Int32) (fm : Value) (h0 : Heap) (n0 : Nat) (v : Option Value) (h : Heap) (L : List Loc) : Prop := ∃ (b : Addr) (kb : ClassId), v = none ∧ Fr n0 L ∧ (Keep h0 h [a1]) ∧ (Exa Z h a1 "java/lang/String") ∧ (Fld Z h a1 "java/lang/String" "coder" "B" (.int (0 : Int32))) ∧ (Fld Z h a1 "java/lang/String" "value" "[B" (.ref b)) ∧ (Arv Z h b kb .byte (0 : Int32) [] (.int (0 : Int32)))
set_option maxRecDepth 65536 in
set_option maxHeartbeats 40000000 in
theorem rm2_E (l : Launch) (Z : State) (a0 : Array Value) (hw : ∀ d ∈ tables_1, d.before a0 Z = true) (ws : List Jvm.Cond) (a1 : Addr) (a2 : Addr) (k2 : ClassId) (cs1 : Int32) (fm : Value) (h0 : Heap) (n0 : Nat) (Z0 : n0 ≤ h0.size) (O1 : Old Z n0 h0) (G : own_G Z cs1 fm) (hcw : Jvm.Lit.compactW.before a0 Z = true) (hheld : Jvm.Lit.constHeld Z "java/lang/String" 7) (F1 : Fld Z h0 a1 "java/lang/String" "coder" "B" (.int (0 : Int32))) (F2 : Fld Z h0 a1 "java/lang/String" "value" "[B" .null) (E1 : Exa Z h0 a1 "java/lang/String") (g1 : n0 ≤ a1) (V2 : Arv Z h0 a2 k2 .char (0 : Int32) [] (.int (0 : Int32))) :
  MetFree l (⟨"java/lang/String", "<init>", "([C)V"⟩ : MethodName) (head1 (Jvm.Cond.code (⟨"java/lang/String", "<init>", "([C)V"⟩ : MethodName) jdk_42_method_3_code 2 none :: ws) ({ frames := 2, cells := 2, slots := 4, locals := 29 } : Room)) (fun a U => a = #[(.ref a1), (.ref a2)] ∧ Z.Warmed39 U.vm ∧ U.heap = h0 ∧ IB Z U.vm []) (fun _ _ _ _ _ => True) (fun _ U o U' => ∃ v L, o = .returned v ∧ Q2_E Z a1 a2 k2 cs1 fm h0 n0 v U'.heap L ∧ ReturnedEndW U o U' L ({ frames := 2, cells := 2, slots := 4, locals := 29 } : Room).cells ({ frames := 2, cells := 2, slots := 4, locals := 29 } : Room).slots) := by
 refine MetFree.of_bodySF pn2 hisR ?_
 intro p e s m args below meth c s₁ Bd hml0 hP hK
 obtain ⟨rfl, hZ, hh, I0⟩ := hP
 have hx := Bd.exec
 have hby := Bd.bytes
 have hml : c.maxLocals = 2 := hml0
 have hown : s.vm.findClass "java/lang/String" = some m.cls := findClass_of_methodNamed Bd.named
 have hnm := (name_of_methodNamed Bd.named Bd.method).1
 have X0 : Stand p l e ({ frames := 2, cells := 2, slots := 4, locals := 29 } : Room) s m #[(.ref a1), (.ref a2)] below meth c s₁ [] 0 0 := Stand.of_body Bd
 have e0 : s₁.heap = h0 := by rw [← hh, Bd.state]; rfl
 have N0 := Fr.nil n0
 have p0 : Go p.tables e below (s₁.setTop (entryFrame m #[(.ref a1), (.ref a2)] 2)) (s₁.setTop (mkF m 0 #[.val (.ref a1), .val (.ref a2)] [])) := fun t_ k_ => castTop (ef_rm2_E m a1 a2 k2 cs1 fm) k_
 have hkp : ∀ (b : Addr) (cl : Cell), Z.heap[b]? = some cl → s.heap[b]? = some cl := fun b cl q => by rw [hh]; exact O1.2.2 b cl q
 have p101 : Go p.tables e below _ (s₁.setTop (mkF m 4 #[.val (.ref a1), .val (.ref a2)] [(.ref a2), (.int (0 : Int32)), (.ref a2), (.ref a1)])) := fun t_ k_ => p0 t_ (by
  refine XS.aloadN X0.here hx rfl (hb hby d2_0) rfl rfl ?_
  refine XS.aloadN X0.here hx rfl (hb hby d2_1) rfl rfl ?_
  refine XS.iconst X0.here hx rfl (hb hby d2_2) ?_
  refine XS.aloadN X0.here hx rfl (hb hby d2_3) rfl rfl ?_
  exact k_)
 obtain ⟨cl102, Ar102, -, S102, Ng102, -, -⟩ := id V2
 have p103 : Go p.tables e below _ (s₁.setTop (mkF m 6 #[.val (.ref a1), .val (.ref a2)] [.null, (.int (0 : Int32)), (.int (0 : Int32)), (.ref a2), (.ref a1)])) := fun t_ k_ => p101 t_ (by
  refine X0.arraylength hx (by rw [e0]; exact Ar102.1) (State.isArrayOf_alike hZ.alike Ar102.2.1) (g := (mkF m 4 #[.val (.ref a1), .val (.ref a2)] [(.ref a2), (.int (0 : Int32)), (.ref a2), (.ref a1)])) rfl rfl (hb hby d2_4) _ ?_
  rw [len_of S102 Ng102]
  show Steps p.tables e below (s₁.setTop (mkF m 5 #[.val (.ref a1), .val (.ref a2)] [(.int (0 : Int32)), (.int (0 : Int32)), (.ref a2), (.ref a1)])) _
  refine XS.aconstNull X0.here hx rfl (hb hby d2_5) ?_
  exact k_)
 obtain ⟨_, _, ⟨T104, L104, k104, n104⟩, -, X104, S104, -, ⟨Lc104, hQ104, l104, y104, z104⟩, st104⟩ := X0.specialBackS hx (y := (⟨"java/lang/String", "<init>", "([CIILjava/lang/Void;)V"⟩ : MethodName)) rfl hown (mvT hZ (own_w hw 13 rfl)) (mvT hZ (own_w hw 14 rfl)) (mvT hZ (own_w hw 16 rfl)) (by decide) (backOfI (W := 0) (rm3_E l Z a0 hw [] a1 a2 cs1 fm h0 n0 (Nat.le_trans Z0 (Keep.refl h0 [a1]).1) O1 G hcw hheld F1 F2 E1 g1) hZ I0 (own_w hw 16 rfl) (own_w hw 9 rfl) (by decide) (by decide)) (g := (mkF m 6 #[.val (.ref a1), .val (.ref a2)] [.null, (.int (0 : Int32)), (.int (0 : Int32)), (.ref a2), (.ref a1)])) rfl (by rw [hml]; rfl) (Steps.refl _) (a := a1) (argsL := [(.ref a2), (.int (0 : Int32)), (.int (0 : Int32)), .null]) (rest := []) (lenOf pd5 rfl) rfl (by show 2 * 0 + _ ≤ _; exact Nat.le_of_eq rfl) (hb hby d2_6) (fun _ _ => ⟨rfl, e0, (by decide : 0 + 2 ≤ _), (by decide : 0 + 4 ≤ _)⟩)
 dsimp only [Pt.U, Pt.locs, Pt.cells, Pt.slots] at X104 l104 y104 z104 st104 hQ104 S104
 subst l104 y104 z104
 have hZ104 : Z.Warmed39 (s.setVm T104.vm).vm := State.Warmed39.trans (t := s) hZ S104.1
 have hown104 : (s.setVm T104.vm).vm.findClass "java/lang/String" = some m.cls := by rw [show (s.setVm T104.vm).vm = T104.vm from rfl, S104.1.alike.findClass]; exact hown
 have kb104 := Nat.le_refl T104.heap.size
 obtain ⟨x105, x106, rfl, N104q, q104_K, q104_E, q104_c, q104_v, q104_V⟩ := hQ104
 have N104 := Fr.app N0 N104q
 have K107 : Keep h0 T104.heap [a1] := (Keep.refl h0 [a1]).trans q104_K (allS (Or.inl (List.mem_of_getElem? (i := 0) rfl)) all0)
 obtain ⟨fs, hr, hrun, hended, hRW⟩ := X104.leaveW (s := s) S104 kb104 (v := none) (fun _ => rfl)
 refine ⟨_, _, (gcT p103 st104) _ (X104.returnOut hx Bd.returns (hb hby d2_9) hr), hrun, hended, _, _, rfl, ?_, hRW.1, hRW.2.1, hRW.2.2.1, hRW.2.2.2.mono (by decide) (by decide)⟩
 show Q2_E Z a1 a2 k2 cs1 fm h0 n0 _ T104.heap _
 exact ⟨x105, x106, rfl, N104, K107, q104_E, q104_c, q104_v, q104_V⟩
theorem d12_0 : decode jdk_52_method_16_code 0 = .ok (.iload_n 2, 1) := by decide +kernel
theorem d12_1 : decode jdk_52_method_16_code 1 = .ok (.newarray .byte, 2) := by decide +kernel
theorem d12_3 : decode jdk_52_method_16_code 3 = .ok (.astore_n 3, 1) := by decide +kernel
theorem d12_4 : decode jdk_52_method_16_code 4 = .ok (.aload_n 0, 1) := by decide +kernel
theorem d12_5 : decode jdk_52_method_16_code 5 = .ok (.iload_n 1, 1) := by decide +kernel
theorem d12_6 : decode jdk_52_method_16_code 6 = .ok (.aload_n 3, 1) := by decide +kernel
theorem d12_7 : decode jdk_52_method_16_code 7 = .ok (.iconst 0, 1) := by decide +kernel
theorem d12_8 : decode jdk_52_method_16_code 8 = .ok (.iload_n 2, 1) := by decide +kernel
theorem d12_9 : decode jdk_52_method_16_code 9 = .ok (.invokestatic 115, 3) := by decide +kernel
theorem d12_12 : decode jdk_52_method_16_code 12 = .ok (.istore 4, 2) := by decide +kernel
theorem d12_14 : decode jdk_52_method_16_code 14 = .ok (.iload 4, 2) := by decide +kernel
theorem d12_16 : decode jdk_52_method_16_code 16 = .ok (.iload_n 2, 1) := by decide +kernel
theorem d12_17 : decode jdk_52_method_16_code 17 = .ok (.if_icmp .eq 40, 3) := by decide +kernel
theorem d12_57 : decode jdk_52_method_16_code 57 = .ok (.aload_n 3, 1) := by decide +kernel
theorem d12_58 : decode jdk_52_method_16_code 58 = .ok (.areturn, 1) := by decide +kernel
theorem pd6 : parseMethodDescriptor "([CI[BII)I" = some ⟨[(.array .char), .int, (.array .byte), .int, .int], some .int⟩ := by decide +kernel
theorem pn12 : plainFor (⟨"java/lang/StringUTF16", "compress", "([CII)[B"⟩ : MethodName) = true := plainFor_of_name (by first | (simp [plainName, overriddenIn]; done) | decide +kernel)
theorem ef_rm12_L1 (m : MethodId) (a1 : Addr) (k1 : ClassId) (c0 : Int32) : entryFrame m #[(.ref a1), (.int (0 : Int32)), (.int (1 : Int32))] 6 = mkF m 0 #[.val (.ref a1), .val (.int (0 : Int32)), .val (.int (1 : Int32)), .unset, .unset, .unset] [] := by first | (simp [entryFrame, mkF, argsToLocals, Value.category]; done) | rfl
def Q12_L1 (Z : State) (a1 : Addr) (k1 : ClassId) (c0 : Int32) (h0 : Heap) (n0 : Nat) (v : Option Value) (h : Heap) (L : List Loc) : Prop := ∃ (b : Addr) (kb : ClassId), v = some (.ref b) ∧ Fr n0 L ∧ (Keep h0 h []) ∧ (n0 ≤ b) ∧ (h0.size ≤ b) ∧ (Arv Z h b kb .byte (1 : Int32) [(.int (own_xl c0))] (.int (0 : Int32)))
set_option maxRecDepth 65536 in
set_option maxHeartbeats 40000000 in
theorem rm12_L1 (l : Launch) (Z : State) (a0 : Array Value) (hw : ∀ d ∈ tables_1, d.before a0 Z = true) (ws : List Jvm.Cond) (a1 : Addr) (k1 : ClassId) (c0 : Int32) (h0 : Heap) (n0 : Nat) (Z0 : n0 ≤ h0.size) (V1 : Arv Z h0 a1 k1 .char (1 : Int32) [(.int c0)] (.int (0 : Int32))) (l0 : ¬ ((255 : Int32) < c0)) :
  MetFree l (⟨"java/lang/StringUTF16", "compress", "([CII)[B"⟩ : MethodName) (head1 (Jvm.Cond.code (⟨"java/lang/StringUTF16", "compress", "([CII)[B"⟩ : MethodName) jdk_52_method_16_code 6 (some (.array .byte)) :: ws) ({ frames := 1, cells := 1, slots := 1, locals := 18 } : Room)) (fun a U => a = #[(.ref a1), (.int (0 : Int32)), (.int (1 : Int32))] ∧ Z.Warmed39 U.vm ∧ U.heap = h0) (fun _ _ _ _ _ => True) (fun _ U o U' => ∃ v L, o = .returned v ∧ Q12_L1 Z a1 k1 c0 h0 n0 v U'.heap L ∧ FrameEnd U o U' L ({ frames := 1, cells := 1, slots := 1, locals := 18 } : Room).cells ({ frames := 1, cells := 1, slots := 1, locals := 18 } : Room).slots) := by
 refine MetFree.of_bodySF pn12 hisR ?_
 intro p e s m args below meth c s₁ Bd hml0 hP hK
 obtain ⟨rfl, hZ, hh⟩ := hP
 have hx := Bd.exec
 have hby := Bd.bytes
 have hml : c.maxLocals = 6 := hml0
 have hown : s.vm.findClass "java/lang/StringUTF16" = some m.cls := findClass_of_methodNamed Bd.named
 have hnm := (name_of_methodNamed Bd.named Bd.method).1
 have X0 : Stand p l e ({ frames := 1, cells := 1, slots := 1, locals := 18 } : Room) s m #[(.ref a1), (.int (0 : Int32)), (.int (1 : Int32))] below meth c s₁ [] 0 0 := Stand.of_body Bd
 have e0 : s₁.heap = h0 := by rw [← hh, Bd.state]; rfl
 have N0 := Fr.nil n0
 have p0 : Go p.tables e below (s₁.setTop (entryFrame m #[(.ref a1), (.int (0 : Int32)), (.int (1 : Int32))] 6)) (s₁.setTop (mkF m 0 #[.val (.ref a1), .val (.int (0 : Int32)), .val (.int (1 : Int32)), .unset, .unset, .unset] [])) := fun t_ k_ => castTop (ef_rm12_L1 m a1 k1 c0) k_
 have p101 : Go p.tables e below _ (s₁.setTop (mkF m 1 #[.val (.ref a1), .val (.int (0 : Int32)), .val (.int (1 : Int32)), .unset, .unset, .unset] [(.int (1 : Int32))])) := fun t_ k_ => p0 t_ (by
  refine XS.iloadN X0.here hx rfl (hb hby d12_0) rfl ?_
  exact k_)
 obtain ⟨T102, h102, k102, X102, e102, E102, A102, st102⟩ := newP X0 hx hZ (own_w hw 21 rfl) e0 (g := (mkF m 1 #[.val (.ref a1), .val (.int (0 : Int32)), .val (.int (1 : Int32)), .unset, .unset, .unset] [(.int (1 : Int32))])) rfl (hb hby d12_1) rfl (by decide) (cap := 1) (by decide) (by decide) (by decide) (by decide)
 obtain ⟨b102, g102⟩ : ∃ z, z = h0.size := ⟨_, rfl⟩
 rw [← g102] at A102 st102
 have ne_a1_b102 : a1 ≠ b102 := Nat.ne_of_lt (Nat.lt_of_lt_of_le V1.lt (Nat.le_of_eq g102.symm))
 have ge_b102 : n0 ≤ b102 := Nat.le_trans (Nat.le_trans Z0 (Keep.refl h0 []).1) (Nat.le_of_eq g102.symm)
 have sz_b102 : h0.size ≤ b102 := Nat.le_trans (Keep.refl h0 []).1 (Nat.le_of_eq g102.symm)
 have K103 : Keep h0 h102 [] := (Keep.refl h0 []).ext E102
 have V102 : Arv Z h102 b102 k102 .byte (1 : Int32) [(.int (0 : Int32))] (.int (0 : Int32)) := (Arv.new A102 (by decide)).pad (pad_rep [] (.int (0 : Int32)) 1)
 have p104 : Go p.tables e below _ (T102.setTop (mkF m 9 #[.val (.ref a1), .val (.int (0 : Int32)), .val (.int (1 : Int32)), .val (.ref b102), .unset, .unset] [(.int (1 : Int32)), (.int (0 : Int32)), (.ref b102), (.int (0 : Int32)), (.ref a1)])) := fun t_ k_ => (gc p101 st102) t_ (by
  refine XS.astoreN X102.here hx rfl (hb hby d12_3) rfl rfl (l' := #[.val (.ref a1), .val (.int (0 : Int32)), .val (.int (1 : Int32)), .val (.ref b102), .unset, .unset]) rfl ?_
  refine XS.aloadN X102.here hx rfl (hb hby d12_4) rfl rfl ?_
  refine XS.iloadN X102.here hx rfl (hb hby d12_5) rfl ?_
  refine XS.aloadN X102.here hx rfl (hb hby d12_6) rfl rfl ?_
  refine XS.iconst X102.here hx rfl (hb hby d12_7) ?_
  refine XS.iloadN X102.here hx rfl (hb hby d12_8) rfl ?_
  exact k_)
 have hl105 : ∀ j, j < 1 → ¬ ((255 : Int32) < own_at [c0] j) := by
  intro j hj
  rcases (by omega : j = 0) with rfl
  ·exact l0
 have f106 := (V1.ext E102)
 obtain ⟨_, _, ⟨T107, L107, k107, n107⟩, -, X107, ⟨Lc107, hQ107, l107, y107, z107⟩, st107⟩ := Jvm.LawKit.callS X102 hx (y := (⟨"java/lang/StringUTF16", "compress", "([CI[BII)I"⟩ : MethodName)) hown (mvT hZ (own_w hw 70 rfl)) (mvT hZ (own_w hw 71 rfl)) (mvT hZ (own_w hw 68 rfl)) (mvT hZ (own_w hw 72 rfl)) (by decide) (backOf (W := 0) (rm13_L l Z a0 hw [] a1 b102 k1 k102 [c0] 1 1 h102 n0 (Nat.le_trans Z0 K103.1) f106 V102 (by decide) rfl hl105 ne_a1_b102 ge_b102) hZ (own_w hw 72 rfl) (own_w hw 68 rfl) (by decide) (by decide)) (g := (mkF m 9 #[.val (.ref a1), .val (.int (0 : Int32)), .val (.int (1 : Int32)), .val (.ref b102), .unset, .unset] [(.int (1 : Int32)), (.int (0 : Int32)), (.ref b102), (.int (0 : Int32)), (.ref a1)])) rfl (by rw [hml]; rfl) (argsL := [(.ref a1), (.int (0 : Int32)), (.ref b102), (.int (0 : Int32)), (.int (1 : Int32))]) (rest := []) (lenOf pd6 rfl) rfl (by show 2 * 0 + _ ≤ _; exact Nat.le_of_eq rfl) (hb hby d12_9) (fun _ _ => ⟨rfl, e102, (by decide : 1 + 0 ≤ _), (by decide : 1 + 0 ≤ _)⟩)
 dsimp only [Pt.U, Pt.locs, Pt.cells, Pt.slots] at X107 l107 y107 z107 st107 hQ107
 subst l107 y107 z107
 obtain ⟨rfl, N107q, q107_K, q107_V⟩ := hQ107
 have N107 := Fr.app N0 N107q
 have K108 : Keep h0 T107.heap [] := K103.trans q107_K (allS (Or.inr sz_b102) all0)
 have f109 : Arv Z T107.heap b102 k102 .byte (1 : Int32) [(.int (own_xl c0))] (.int (0 : Int32)) := q107_V
 have p110 : Go p.tables e below _ (T107.setTop (mkF m 12 #[.val (.ref a1), .val (.int (0 : Int32)), .val (.int (1 : Int32)), .val (.ref b102), .unset, .unset] [(.int (1 : Int32))])) := (gc p104 st107)
 have p111 : Go p.tables e below _ (T107.setTop (mkF m 58 #[.val (.ref a1), .val (.int (0 : Int32)), .val (.int (1 : Int32)), .val (.ref b102), .val (.int (1 : Int32)), .unset] [(.ref b102)])) := fun t_ k_ => p110 t_ (by
  refine XS.istore X107.here hx rfl (hb hby d12_12) rfl (l' := #[.val (.ref a1), .val (.int (0 : Int32)), .val (.int (1 : Int32)), .val (.ref b102), .val (.int (1 : Int32)), .unset]) rfl ?_
  refine XS.iload X107.here hx rfl (hb hby d12_14) rfl ?_
  refine XS.iloadN X107.here hx rfl (hb hby d12_16) rfl ?_
  refine XS.icmpYes X107.here hx rfl (pc0 := 17) (pc' := 57) rfl (hb hby d12_17) rfl (teq (by decide : ((1 : Int32) = (1 : Int32)))).1 (by decide) (by decide) ?_
  refine XS.aloadN X107.here hx rfl (hb hby d12_57) rfl rfl ?_
  exact k_)
 obtain ⟨fs, hr, hrun, hended, hW, hsame⟩ := X107.leave (v := some (.ref b102)) (fun h => by rw [Bd.returns] at h; cases h)
 refine ⟨_, _, p111 _ (retOut X107 hx (w := (.ref b102)) (i := .areturn) Bd.returns rfl (Or.inr (Or.inr (Or.inr (Or.inr ⟨rfl, rfl, rfl⟩)))) (hb hby d12_58) hr), hrun, hended, _, _, rfl, ?_, ⟨_, rfl⟩, hW, hsame.mono (by decide) (by decide)⟩
 show Q12_L1 Z a1 k1 c0 h0 n0 _ T107.heap _
 exact ⟨b102, k102, rfl, N107, K108, ge_b102, sz_b102, f109⟩
theorem d14_0 : decode jdk_52_method_15_code 0 = .ok (.iload_n 1, 1) := by decide +kernel
theorem d14_1 : decode jdk_52_method_15_code 1 = .ok (.aload_n 0, 1) := by decide +kernel
theorem d14_2 : decode jdk_52_method_15_code 2 = .ok (.arraylength, 1) := by decide +kernel
theorem d14_3 : decode jdk_52_method_15_code 3 = .ok (.isub, 1) := by decide +kernel
theorem d14_4 : decode jdk_52_method_15_code 4 = .ok (.bipush 31, 2) := by decide +kernel
theorem d14_6 : decode jdk_52_method_15_code 6 = .ok (.iushr, 1) := by decide +kernel
theorem d14_7 : decode jdk_52_method_15_code 7 = .ok (.i2b, 1) := by decide +kernel
theorem d14_8 : decode jdk_52_method_15_code 8 = .ok (.ireturn, 1) := by decide +kernel
theorem pn14 : plainFor (⟨"java/lang/StringUTF16", "coderFromArrayLen", "([BI)B"⟩ : MethodName) = true := plainFor_of_name (by first | (simp [plainName, overriddenIn]; done) | decide +kernel)
theorem ef_rm14_L1 (m : MethodId) (a1 : Addr) (k1 : ClassId) (vs : List Value) : entryFrame m #[(.ref a1), (.int (1 : Int32))] 2 = mkF m 0 #[.val (.ref a1), .val (.int (1 : Int32))] [] := by first | (simp [entryFrame, mkF, argsToLocals, Value.category]; done) | rfl
def Q14_L1 (Z : State) (a1 : Addr) (k1 : ClassId) (vs : List Value) (h0 : Heap) (n0 : Nat) (v : Option Value) (h : Heap) (L : List Loc) : Prop := v = some (.int (0 : Int32)) ∧ Fr n0 L ∧ (h = h0)
set_option maxRecDepth 65536 in
set_option maxHeartbeats 40000000 in
theorem rm14_L1 (l : Launch) (Z : State) (a0 : Array Value) (hw : ∀ d ∈ tables_1, d.before a0 Z = true) (ws : List Jvm.Cond) (a1 : Addr) (k1 : ClassId) (vs : List Value) (h0 : Heap) (n0 : Nat) (Z0 : n0 ≤ h0.size) (V1 : Arv Z h0 a1 k1 .byte (1 : Int32) vs (.int (0 : Int32))) :
  MetFree l (⟨"java/lang/StringUTF16", "coderFromArrayLen", "([BI)B"⟩ : MethodName) (head1 (Jvm.Cond.code (⟨"java/lang/StringUTF16", "coderFromArrayLen", "([BI)B"⟩ : MethodName) jdk_52_method_15_code 2 (some .byte) :: ws) ({ frames := 0, cells := 0, slots := 0, locals := 0 } : Room)) (fun a U => a = #[(.ref a1), (.int (1 : Int32))] ∧ Z.Warmed39 U.vm ∧ U.heap = h0) (fun _ _ _ _ _ => True) (fun _ U o U' => ∃ v L, o = .returned v ∧ Q14_L1 Z a1 k1 vs h0 n0 v U'.heap L ∧ FrameEnd U o U' L ({ frames := 0, cells := 0, slots := 0, locals := 0 } : Room).cells ({ frames := 0, cells := 0, slots := 0, locals := 0 } : Room).slots) := by
 refine MetFree.of_bodySF pn14 hisR ?_
 intro p e s m args below meth c s₁ Bd hml0 hP hK
 obtain ⟨rfl, hZ, hh⟩ := hP
 have hx := Bd.exec
 have hby := Bd.bytes
 have hml : c.maxLocals = 2 := hml0
 have hown : s.vm.findClass "java/lang/StringUTF16" = some m.cls := findClass_of_methodNamed Bd.named
 have hnm := (name_of_methodNamed Bd.named Bd.method).1
 have X0 : Stand p l e ({ frames := 0, cells := 0, slots := 0, locals := 0 } : Room) s m #[(.ref a1), (.int (1 : Int32))] below meth c s₁ [] 0 0 := Stand.of_body Bd
 have e0 : s₁.heap = h0 := by rw [← hh, Bd.state]; rfl
 have N0 := Fr.nil n0
 have p0 : Go p.tables e below (s₁.setTop (entryFrame m #[(.ref a1), (.int (1 : Int32))] 2)) (s₁.setTop (mkF m 0 #[.val (.ref a1), .val (.int (1 : Int32))] [])) := fun t_ k_ => castTop (ef_rm14_L1 m a1 k1 vs) k_
 have p101 : Go p.tables e below _ (s₁.setTop (mkF m 2 #[.val (.ref a1), .val (.int (1 : Int32))] [(.ref a1), (.int (1 : Int32))])) := fun t_ k_ => p0 t_ (by
  refine XS.iloadN X0.here hx rfl (hb hby d14_0) rfl ?_
  refine XS.aloadN X0.here hx rfl (hb hby d14_1) rfl rfl ?_
  exact k_)
 obtain ⟨cl102, Ar102, -, S102, Ng102, -, -⟩ := id V1
 have p103 : Go p.tables e below _ (s₁.setTop (mkF m 8 #[.val (.ref a1), .val (.int (1 : Int32))] [(.int (0 : Int32))])) := fun t_ k_ => p101 t_ (by
  refine X0.arraylength hx (by rw [e0]; exact Ar102.1) (State.isArrayOf_alike hZ.alike Ar102.2.1) (g := (mkF m 2 #[.val (.ref a1), .val (.int (1 : Int32))] [(.ref a1), (.int (1 : Int32))])) rfl rfl (hb hby d14_2) _ ?_
  rw [len_of S102 Ng102]
  show Steps p.tables e below (s₁.setTop (mkF m 3 #[.val (.ref a1), .val (.int (1 : Int32))] [(.int (1 : Int32)), (.int (1 : Int32))])) _
  refine XS.isub X0.here hx rfl (hb hby d14_3) rfl ?_
  refine XS.bipush X0.here hx rfl (hb hby d14_4) ?_
  refine XS.iushr X0.here hx rfl (hb hby d14_6) rfl ?_
  refine XS.i2b X0.here hx rfl (hb hby d14_7) rfl ?_
  exact k_)
 obtain ⟨fs, hr, hrun, hended, hW, hsame⟩ := X0.leave (v := some (.int (0 : Int32))) (fun h => by rw [Bd.returns] at h; cases h)
 refine ⟨_, _, p103 _ (retN X0 hx (t := .byte) Bd.returns (by simp) (hb hby d14_8) hr), hrun, hended, _, _, rfl, ?_, ⟨_, rfl⟩, hW, hsame.mono (by decide) (by decide)⟩
 show Q14_L1 Z a1 k1 vs h0 n0 _ s₁.heap _
 rw [e0]
 exact ⟨rfl, N0, rfl⟩
theorem d3_27 : decode jdk_42_method_149_code 27 = .ok (.getstatic 38, 3) := by decide +kernel
theorem d3_30 : decode jdk_42_method_149_code 30 = .ok (.ifCond .eq 28, 3) := by decide +kernel
theorem d3_33 : decode jdk_42_method_149_code 33 = .ok (.aload_n 1, 1) := by decide +kernel
theorem d3_34 : decode jdk_42_method_149_code 34 = .ok (.iload_n 2, 1) := by decide +kernel
theorem d3_35 : decode jdk_42_method_149_code 35 = .ok (.iload_n 3, 1) := by decide +kernel
theorem d3_36 : decode jdk_42_method_149_code 36 = .ok (.invokestatic 177, 3) := by decide +kernel
theorem d3_39 : decode jdk_42_method_149_code 39 = .ok (.astore 5, 2) := by decide +kernel
theorem d3_41 : decode jdk_42_method_149_code 41 = .ok (.aload_n 0, 1) := by decide +kernel
theorem d3_42 : decode jdk_42_method_149_code 42 = .ok (.aload 5, 2) := by decide +kernel
theorem d3_44 : decode jdk_42_method_149_code 44 = .ok (.iload_n 3, 1) := by decide +kernel
theorem d3_45 : decode jdk_42_method_149_code 45 = .ok (.invokestatic 47, 3) := by decide +kernel
theorem d3_48 : decode jdk_42_method_149_code 48 = .ok (.putfield 15, 3) := by decide +kernel
theorem d3_51 : decode jdk_42_method_149_code 51 = .ok (.aload_n 0, 1) := by decide +kernel
theorem d3_52 : decode jdk_42_method_149_code 52 = .ok (.aload 5, 2) := by decide +kernel
theorem d3_54 : decode jdk_42_method_149_code 54 = .ok (.putfield 9, 3) := by decide +kernel
theorem d3_57 : decode jdk_42_method_149_code 57 = .ok (.return_, 1) := by decide +kernel
theorem pd7 : parseMethodDescriptor "([CII)[B" = some ⟨[(.array .char), .int, .int], some (.array .byte)⟩ := by decide +kernel
theorem pd8 : parseMethodDescriptor "([BI)B" = some ⟨[(.array .byte), .int], some .byte⟩ := by decide +kernel
theorem ef_rm3_L1 (m : MethodId) (a1 : Addr) (a2 : Addr) (k1 : ClassId) (c0 : Int32) (cs1 : Int32) (fm : Value) : entryFrame m #[(.ref a1), (.ref a2), (.int (0 : Int32)), (.int (1 : Int32)), .null] 6 = mkF m 0 #[.val (.ref a1), .val (.ref a2), .val (.int (0 : Int32)), .val (.int (1 : Int32)), .val .null, .unset] [] := by first | (simp [entryFrame, mkF, argsToLocals, Value.category]; done) | rfl
def Q3_L1 (Z : State) (a1 : Addr) (a2 : Addr) (k1 : ClassId) (c0 : Int32) (cs1 : Int32) (fm : Value) (h0 : Heap) (n0 : Nat) (v : Option Value) (h : Heap) (L : List Loc) : Prop := ∃ (b : Addr) (kb : ClassId), v = none ∧ Fr n0 L ∧ (Keep h0 h [a1]) ∧ (Exa Z h a1 "java/lang/String") ∧ (Fld Z h a1 "java/lang/String" "coder" "B" (.int (0 : Int32))) ∧ (Fld Z h a1 "java/lang/String" "value" "[B" (.ref b)) ∧ (n0 ≤ b) ∧ (h0.size ≤ b) ∧ (Arv Z h b kb .byte (1 : Int32) [(.int (own_xl c0))] (.int (0 : Int32))) ∧ (a1 ≠ b)
set_option maxRecDepth 65536 in
set_option maxHeartbeats 40000000 in
theorem rm3_L1 (l : Launch) (Z : State) (a0 : Array Value) (hw : ∀ d ∈ tables_1, d.before a0 Z = true) (ws : List Jvm.Cond) (a1 : Addr) (a2 : Addr) (k1 : ClassId) (c0 : Int32) (cs1 : Int32) (fm : Value) (h0 : Heap) (n0 : Nat) (Z0 : n0 ≤ h0.size) (O1 : Old Z n0 h0) (G : own_G Z cs1 fm) (F1 : Fld Z h0 a1 "java/lang/String" "coder" "B" (.int (0 : Int32))) (F2 : Fld Z h0 a1 "java/lang/String" "value" "[B" .null) (E1 : Exa Z h0 a1 "java/lang/String") (V1 : Arv Z h0 a2 k1 .char (1 : Int32) [(.int c0)] (.int (0 : Int32))) (ne : a1 ≠ a2) (g1 : n0 ≤ a1) (l0 : ¬ ((255 : Int32) < c0)) :
  MetFree l (⟨"java/lang/String", "<init>", "([CIILjava/lang/Void;)V"⟩ : MethodName) (head1 (Jvm.Cond.code (⟨"java/lang/String", "<init>", "([CIILjava/lang/Void;)V"⟩ : MethodName) jdk_42_method_149_code 6 none :: ws) ({ frames := 2, cells := 1, slots := 1, locals := 35 } : Room)) (fun a U => a = #[(.ref a1), (.ref a2), (.int (0 : Int32)), (.int (1 : Int32)), .null] ∧ Z.Warmed39 U.vm ∧ U.heap = h0) (fun _ _ _ _ _ => True) (fun _ U o U' => ∃ v L, o = .returned v ∧ Q3_L1 Z a1 a2 k1 c0 cs1 fm h0 n0 v U'.heap L ∧ FrameEnd U o U' L ({ frames := 2, cells := 1, slots := 1, locals := 35 } : Room).cells ({ frames := 2, cells := 1, slots := 1, locals := 35 } : Room).slots) := by
 refine MetFree.of_bodySF pn3 hisR ?_
 intro p e s m args below meth c s₁ Bd hml0 hP hK
 obtain ⟨rfl, hZ, hh⟩ := hP
 have hx := Bd.exec
 have hby := Bd.bytes
 have hml : c.maxLocals = 6 := hml0
 have hown : s.vm.findClass "java/lang/String" = some m.cls := findClass_of_methodNamed Bd.named
 have hnm := (name_of_methodNamed Bd.named Bd.method).1
 have X0 : Stand p l e ({ frames := 2, cells := 1, slots := 1, locals := 35 } : Room) s m #[(.ref a1), (.ref a2), (.int (0 : Int32)), (.int (1 : Int32)), .null] below meth c s₁ [] 0 0 := Stand.of_body Bd
 have e0 : s₁.heap = h0 := by rw [← hh, Bd.state]; rfl
 have N0 := Fr.nil n0
 have p0 : Go p.tables e below (s₁.setTop (entryFrame m #[(.ref a1), (.ref a2), (.int (0 : Int32)), (.int (1 : Int32)), .null] 6)) (s₁.setTop (mkF m 0 #[.val (.ref a1), .val (.ref a2), .val (.int (0 : Int32)), .val (.int (1 : Int32)), .val .null, .unset] [])) := fun t_ k_ => castTop (ef_rm3_L1 m a1 a2 k1 c0 cs1 fm) k_
 have p101 : Go p.tables e below _ (s₁.setTop (mkF m 1 #[.val (.ref a1), .val (.ref a2), .val (.int (0 : Int32)), .val (.int (1 : Int32)), .val .null, .unset] [(.ref a1)])) := fun t_ k_ => p0 t_ (by
  refine XS.aloadN X0.here hx rfl (hb hby d3_0) rfl rfl ?_
  exact k_)
 obtain ⟨T102, X102, e102, st102⟩ := initO X0 hx hZ hown (own_w hw 17 rfl) (own_w hw 18 rfl) (own_w hw 19 rfl) e0 (g := (mkF m 1 #[.val (.ref a1), .val (.ref a2), .val (.int (0 : Int32)), .val (.int (1 : Int32)), .val .null, .unset] [(.ref a1)])) rfl (by rw [hml]; rfl) rfl (hb hby d3_1) (by decide) (W := 0) (by show 2 * 0 + _ ≤ _; exact Nat.le_of_eq rfl) (by decide)
 have p103 : Go p.tables e below _ (T102.setTop (mkF m 27 #[.val (.ref a1), .val (.ref a2), .val (.int (0 : Int32)), .val (.int (1 : Int32)), .val .null, .unset] [])) := fun t_ k_ => (gc p101 st102) t_ (by
  refine XS.iloadN X102.here hx rfl (hb hby d3_4) rfl ?_
  refine XS.ifYes X102.here hx rfl (pc0 := 5) (pc' := 27) rfl (hb hby d3_5) rfl ((if0 _ _).trans (feq (by decide : ¬ ((1 : Int32) = (0 : Int32)))).2) (by decide) (by decide) ?_
  exact k_)
 obtain ⟨T104, X104, e104, st104⟩ := getS2 X102 hx hZ hown (host := "") (Or.inl (own_w hw 47 rfl)) Via.refl e102 (G.1.ext O1.2) (g := (mkF m 27 #[.val (.ref a1), .val (.ref a2), .val (.int (0 : Int32)), .val (.int (1 : Int32)), .val .null, .unset] [])) rfl (hb hby d3_27)
 have c105 : ¬ (cs1 = (0 : Int32)) := G.2.1
 have p106 : Go p.tables e below _ (T104.setTop (mkF m 36 #[.val (.ref a1), .val (.ref a2), .val (.int (0 : Int32)), .val (.int (1 : Int32)), .val .null, .unset] [(.int (1 : Int32)), (.int (0 : Int32)), (.ref a2)])) := fun t_ k_ => (gc p103 st104) t_ (by
  refine XS.ifNo X104.here hx rfl (hb hby d3_30) rfl ((if0 _ _).trans (feq c105).1) ?_
  refine XS.aloadN X104.here hx rfl (hb hby d3_33) rfl rfl ?_
  refine XS.iloadN X104.here hx rfl (hb hby d3_34) rfl ?_
  refine XS.iloadN X104.here hx rfl (hb hby d3_35) rfl ?_
  exact k_)
 obtain ⟨_, _, ⟨T107, L107, k107, n107⟩, -, X107, ⟨Lc107, hQ107, l107, y107, z107⟩, st107⟩ := Jvm.LawKit.callS X104 hx (y := (⟨"java/lang/StringUTF16", "compress", "([CII)[B"⟩ : MethodName)) hown (mvT hZ (own_w hw 66 rfl)) (mvT hZ (own_w hw 67 rfl)) (mvT hZ (own_w hw 68 rfl)) (mvT hZ (own_w hw 69 rfl)) (by decide) (backOf (W := 0) (rm12_L1 l Z a0 hw [] a2 k1 c0 h0 n0 (Nat.le_trans Z0 (Keep.refl h0 [a1]).1) V1 l0) hZ (own_w hw 69 rfl) (own_w hw 68 rfl) (by decide) (by decide)) (g := (mkF m 36 #[.val (.ref a1), .val (.ref a2), .val (.int (0 : Int32)), .val (.int (1 : Int32)), .val .null, .unset] [(.int (1 : Int32)), (.int (0 : Int32)), (.ref a2)])) rfl (by rw [hml]; rfl) (argsL := [(.ref a2), (.int (0 : Int32)), (.int (1 : Int32))]) (rest := []) (lenOf pd7 rfl) rfl (by show 2 * 0 + _ ≤ _; exact Nat.le_of_eq rfl) (hb hby d3_36) (fun _ _ => ⟨rfl, e104, (by decide : 0 + 1 ≤ _), (by decide : 0 + 1 ≤ _)⟩)
 dsimp only [Pt.U, Pt.locs, Pt.cells, Pt.slots] at X107 l107 y107 z107 st107 hQ107
 subst l107 y107 z107
 obtain ⟨x108, x109, rfl, N107q, q107_K, q107_g, q107_z, q107_V⟩ := hQ107
 have N107 := Fr.app N0 N107q
 have K110 : Keep h0 T107.heap [a1] := (Keep.refl h0 [a1]).trans q107_K all0
 have ne_a1_x108 : a1 ≠ x108 := Nat.ne_of_lt (Nat.lt_of_lt_of_le E1.lt q107_z)
 have ne_a2_x108 : a2 ≠ x108 := Nat.ne_of_lt (Nat.lt_of_lt_of_le V1.lt q107_z)
 have p111 : Go p.tables e below _ (T107.setTop (mkF m 45 #[.val (.ref a1), .val (.ref a2), .val (.int (0 : Int32)), .val (.int (1 : Int32)), .val .null, .val (.ref x108)] [(.int (1 : Int32)), (.ref x108), (.ref a1)])) := fun t_ k_ => (gc p106 st107) t_ (by
  refine XS.astore X107.here hx rfl (hb hby d3_39) rfl rfl (l' := #[.val (.ref a1), .val (.ref a2), .val (.int (0 : Int32)), .val (.int (1 : Int32)), .val .null, .val (.ref x108)]) rfl ?_
  refine XS.aloadN X107.here hx rfl (hb hby d3_41) rfl rfl ?_
  refine XS.aload X107.here hx rfl (hb hby d3_42) rfl rfl ?_
  refine XS.iloadN X107.here hx rfl (hb hby d3_44) rfl ?_
  exact k_)
 obtain ⟨_, _, ⟨T112, L112, k112, n112⟩, -, X112, ⟨Lc112, hQ112, l112, y112, z112⟩, st112⟩ := Jvm.LawKit.callS X107 hx (y := (⟨"java/lang/StringUTF16", "coderFromArrayLen", "([BI)B"⟩ : MethodName)) hown (mvT hZ (own_w hw 73 rfl)) (mvT hZ (own_w hw 74 rfl)) (mvT hZ (own_w hw 68 rfl)) (mvT hZ (own_w hw 75 rfl)) (by decide) (backOf (W := 1) (rm14_L1 l Z a0 hw [] x108 x109 [(.int (own_xl c0))] T107.heap n0 (Nat.le_trans Z0 K110.1) q107_V) hZ (own_w hw 75 rfl) (own_w hw 68 rfl) (by decide) (by decide)) (g := (mkF m 45 #[.val (.ref a1), .val (.ref a2), .val (.int (0 : Int32)), .val (.int (1 : Int32)), .val .null, .val (.ref x108)] [(.int (1 : Int32)), (.ref x108), (.ref a1)])) rfl (by rw [hml]; rfl) (argsL := [(.ref x108), (.int (1 : Int32))]) (rest := [(.ref a1)]) (lenOf pd8 rfl) rfl (by show 2 * 0 + _ ≤ _; exact Nat.le_of_eq rfl) (hb hby d3_45) (fun _ _ => ⟨rfl, rfl, (by decide : 1 + 0 ≤ _), (by decide : 1 + 0 ≤ _)⟩)
 dsimp only [Pt.U, Pt.locs, Pt.cells, Pt.slots] at X112 l112 y112 z112 st112 hQ112
 subst l112 y112 z112
 obtain ⟨rfl, N112q, q112_hh⟩ := hQ112
 have N112 := Fr.app N107 N112q
 have f113 := (F1.keep q107_K nin0)
 have f114 := (E1.keep q107_K)
 obtain ⟨T115, h115, X115, e115, W115, st115⟩ := putFN X112 hx hZ hown (own_w hw 27 rfl) Via.refl q112_hh f113 f114 (Or.inr ⟨(own_w hw 23 rfl), rfl, hnm⟩) (own_w hw 8 rfl) (ty := .byte) (v' := (.int (0 : Int32))) (by decide) rfl (by decide) (g := (mkF m 48 #[.val (.ref a1), .val (.ref a2), .val (.int (0 : Int32)), .val (.int (1 : Int32)), .val .null, .val (.ref x108)] [(.int (0 : Int32)), (.ref a1)])) rfl rfl (hb hby d3_48)
 have K116 : Keep h0 h115 [a1] := K110.wr W115 (Or.inl (List.mem_of_getElem? (i := 0) rfl))
 have N115 := Fr.snoc X115 N112 g1
 have F115 : Fld Z h115 a1 "java/lang/String" "coder" "B" (.int (0 : Int32)) := f113.same W115
 have p117 : Go p.tables e below _ (T115.setTop (mkF m 54 #[.val (.ref a1), .val (.ref a2), .val (.int (0 : Int32)), .val (.int (1 : Int32)), .val .null, .val (.ref x108)] [(.ref x108), (.ref a1)])) := fun t_ k_ => (gc (gc p111 st112) st115) t_ (by
  refine XS.aloadN X115.here hx rfl (hb hby d3_51) rfl rfl ?_
  refine XS.aload X115.here hx rfl (hb hby d3_52) rfl rfl ?_
  exact k_)
 have f118 := ((F2.keep q107_K nin0).other W115 (Or.inr (slot_ne (Or.inr (own_w hw 22 rfl)) (Or.inr (own_w hw 23 rfl)) (by decide) (t := (.array .byte)) (t' := .byte) (by decide) (by decide))))
 have f119 := (f114.wr W115)
 obtain ⟨T120, h120, X120, e120, W120, st120⟩ := putF X115 hx hZ hown (host := "") (Or.inl (own_w hw 26 rfl)) Via.refl e115 f118 f119 (Or.inr ⟨(own_w hw 22 rfl), rfl, hnm⟩) (own_w hw 8 rfl) (ty := (.array .byte)) (by decide) rfl rfl (g := (mkF m 54 #[.val (.ref a1), .val (.ref a2), .val (.int (0 : Int32)), .val (.int (1 : Int32)), .val .null, .val (.ref x108)] [(.ref x108), (.ref a1)])) rfl rfl (hb hby d3_54)
 have K121 : Keep h0 h120 [a1] := K116.wr W120 (Or.inl (List.mem_of_getElem? (i := 0) rfl))
 have N120 := Fr.snoc X120 N115 g1
 have F120 : Fld Z h120 a1 "java/lang/String" "value" "[B" (.ref x108) := f118.same W120
 have f122 := (f119.wr W120)
 have f123 := (F115.other W120 (Or.inr (slot_ne (Or.inr (own_w hw 23 rfl)) (Or.inr (own_w hw 22 rfl)) (by decide) (t := .byte) (t' := (.array .byte)) (by decide) (by decide))))
 have f124 := ((q107_V.other W115 (Ne.symm ne_a1_x108)).other W120 (Ne.symm ne_a1_x108))
 obtain ⟨fs, hr, hrun, hended, hW, hsame⟩ := X120.leave (v := none) (fun _ => rfl)
 refine ⟨_, _, (gc p117 st120) _ (X120.returnOut hx Bd.returns (hb hby d3_57) hr), hrun, hended, _, _, rfl, ?_, ⟨_, rfl⟩, hW, hsame.mono (by decide) (by decide)⟩
 show Q3_L1 Z a1 a2 k1 c0 cs1 fm h0 n0 _ T120.heap _
 rw [e120]
 exact ⟨x108, x109, rfl, N120, K121, f122, f123, F120, q107_g, (Nat.le_trans (Keep.refl h0 [a1]).1 q107_z), f124, ne_a1_x108⟩
theorem ef_rm2_L1 (m : MethodId) (a1 : Addr) (a2 : Addr) (k1 : ClassId) (c0 : Int32) (cs1 : Int32) (fm : Value) : entryFrame m #[(.ref a1), (.ref a2)] 2 = mkF m 0 #[.val (.ref a1), .val (.ref a2)] [] := by first | (simp [entryFrame, mkF, argsToLocals, Value.category]; done) | rfl
def Q2_L1 (Z : State) (a1 : Addr) (a2 : Addr) (k1 : ClassId) (c0 : Int32) (cs1 : Int32) (fm : Value) (h0 : Heap) (n0 : Nat) (v : Option Value) (h : Heap) (L : List Loc) : Prop := ∃ (b : Addr) (kb : ClassId), v = none ∧ Fr n0 L ∧ (Keep h0 h [a1]) ∧ (Exa Z h a1 "java/lang/String") ∧ (Fld Z h a1 "java/lang/String" "coder" "B" (.int (0 : Int32))) ∧ (Fld Z h a1 "java/lang/String" "value" "[B" (.ref b)) ∧ (n0 ≤ b) ∧ (h0.size ≤ b) ∧ (Arv Z h b kb .byte (1 : Int32) [(.int (own_xl c0))] (.int (0 : Int32))) ∧ (a1 ≠ b)
set_option maxRecDepth 65536 in
set_option maxHeartbeats 40000000 in
theorem rm2_L1 (l : Launch) (Z : State) (a0 : Array Value) (hw : ∀ d ∈ tables_1, d.before a0 Z = true) (ws : List Jvm.Cond) (a1 : Addr) (a2 : Addr) (k1 : ClassId) (c0 : Int32) (cs1 : Int32) (fm : Value) (h0 : Heap) (n0 : Nat) (Z0 : n0 ≤ h0.size) (O1 : Old Z n0 h0) (G : own_G Z cs1 fm) (F1 : Fld Z h0 a1 "java/lang/String" "coder" "B" (.int (0 : Int32))) (F2 : Fld Z h0 a1 "java/lang/String" "value" "[B" .null) (E1 : Exa Z h0 a1 "java/lang/String") (V1 : Arv Z h0 a2 k1 .char (1 : Int32) [(.int c0)] (.int (0 : Int32))) (ne : a1 ≠ a2) (g1 : n0 ≤ a1) (l0 : ¬ ((255 : Int32) < c0)) :
  MetFree l (⟨"java/lang/String", "<init>", "([C)V"⟩ : MethodName) (head1 (Jvm.Cond.code (⟨"java/lang/String", "<init>", "([C)V"⟩ : MethodName) jdk_42_method_3_code 2 none :: ws) ({ frames := 3, cells := 1, slots := 1, locals := 52 } : Room)) (fun a U => a = #[(.ref a1), (.ref a2)] ∧ Z.Warmed39 U.vm ∧ U.heap = h0) (fun _ _ _ _ _ => True) (fun _ U o U' => ∃ v L, o = .returned v ∧ Q2_L1 Z a1 a2 k1 c0 cs1 fm h0 n0 v U'.heap L ∧ FrameEnd U o U' L ({ frames := 3, cells := 1, slots := 1, locals := 52 } : Room).cells ({ frames := 3, cells := 1, slots := 1, locals := 52 } : Room).slots) := by
 refine MetFree.of_bodySF pn2 hisR ?_
 intro p e s m args below meth c s₁ Bd hml0 hP hK
 obtain ⟨rfl, hZ, hh⟩ := hP
 have hx := Bd.exec
 have hby := Bd.bytes
 have hml : c.maxLocals = 2 := hml0
 have hown : s.vm.findClass "java/lang/String" = some m.cls := findClass_of_methodNamed Bd.named
 have hnm := (name_of_methodNamed Bd.named Bd.method).1
 have X0 : Stand p l e ({ frames := 3, cells := 1, slots := 1, locals := 52 } : Room) s m #[(.ref a1), (.ref a2)] below meth c s₁ [] 0 0 := Stand.of_body Bd
 have e0 : s₁.heap = h0 := by rw [← hh, Bd.state]; rfl
 have N0 := Fr.nil n0
 have p0 : Go p.tables e below (s₁.setTop (entryFrame m #[(.ref a1), (.ref a2)] 2)) (s₁.setTop (mkF m 0 #[.val (.ref a1), .val (.ref a2)] [])) := fun t_ k_ => castTop (ef_rm2_L1 m a1 a2 k1 c0 cs1 fm) k_
 have p101 : Go p.tables e below _ (s₁.setTop (mkF m 4 #[.val (.ref a1), .val (.ref a2)] [(.ref a2), (.int (0 : Int32)), (.ref a2), (.ref a1)])) := fun t_ k_ => p0 t_ (by
  refine XS.aloadN X0.here hx rfl (hb hby d2_0) rfl rfl ?_
  refine XS.aloadN X0.here hx rfl (hb hby d2_1) rfl rfl ?_
  refine XS.iconst X0.here hx rfl (hb hby d2_2) ?_
  refine XS.aloadN X0.here hx rfl (hb hby d2_3) rfl rfl ?_
  exact k_)
 obtain ⟨cl102, Ar102, -, S102, Ng102, -, -⟩ := id V1
 have p103 : Go p.tables e below _ (s₁.setTop (mkF m 6 #[.val (.ref a1), .val (.ref a2)] [.null, (.int (1 : Int32)), (.int (0 : Int32)), (.ref a2), (.ref a1)])) := fun t_ k_ => p101 t_ (by
  refine X0.arraylength hx (by rw [e0]; exact Ar102.1) (State.isArrayOf_alike hZ.alike Ar102.2.1) (g := (mkF m 4 #[.val (.ref a1), .val (.ref a2)] [(.ref a2), (.int (0 : Int32)), (.ref a2), (.ref a1)])) rfl rfl (hb hby d2_4) _ ?_
  rw [len_of S102 Ng102]
  show Steps p.tables e below (s₁.setTop (mkF m 5 #[.val (.ref a1), .val (.ref a2)] [(.int (1 : Int32)), (.int (0 : Int32)), (.ref a2), (.ref a1)])) _
  refine XS.aconstNull X0.here hx rfl (hb hby d2_5) ?_
  exact k_)
 obtain ⟨_, _, ⟨T104, L104, k104, n104⟩, -, X104, ⟨Lc104, hQ104, l104, y104, z104⟩, st104⟩ := X0.specialBack hx (y := (⟨"java/lang/String", "<init>", "([CIILjava/lang/Void;)V"⟩ : MethodName)) rfl hown (mvT hZ (own_w hw 13 rfl)) (mvT hZ (own_w hw 14 rfl)) (mvT hZ (own_w hw 16 rfl)) (by decide) (backOf (W := 0) (rm3_L1 l Z a0 hw [] a1 a2 k1 c0 cs1 fm h0 n0 (Nat.le_trans Z0 (Keep.refl h0 [a1]).1) O1 G F1 F2 E1 V1 ne g1 l0) hZ (own_w hw 16 rfl) (own_w hw 9 rfl) (by decide) (by decide)) (g := (mkF m 6 #[.val (.ref a1), .val (.ref a2)] [.null, (.int (1 : Int32)), (.int (0 : Int32)), (.ref a2), (.ref a1)])) rfl (by rw [hml]; rfl) (Steps.refl _) (a := a1) (argsL := [(.ref a2), (.int (0 : Int32)), (.int (1 : Int32)), .null]) (rest := []) (lenOf pd5 rfl) rfl (by show 2 * 0 + _ ≤ _; exact Nat.le_of_eq rfl) (hb hby d2_6) (fun _ _ => ⟨rfl, e0, (by decide : 0 + 1 ≤ _), (by decide : 0 + 1 ≤ _)⟩)
 dsimp only [Pt.U, Pt.locs, Pt.cells, Pt.slots] at X104 l104 y104 z104 st104 hQ104
 subst l104 y104 z104
 obtain ⟨x105, x106, rfl, N104q, q104_K, q104_E, q104_c, q104_v, q104_g, q104_z, q104_V, q104_n⟩ := hQ104
 have N104 := Fr.app N0 N104q
 have K107 : Keep h0 T104.heap [a1] := (Keep.refl h0 [a1]).trans q104_K (allS (Or.inl (List.mem_of_getElem? (i := 0) rfl)) all0)
 have ne_a1_x105 : a1 ≠ x105 := Nat.ne_of_lt (Nat.lt_of_lt_of_le E1.lt q104_z)
 have ne_a2_x105 : a2 ≠ x105 := Nat.ne_of_lt (Nat.lt_of_lt_of_le V1.lt q104_z)
 obtain ⟨fs, hr, hrun, hended, hW, hsame⟩ := X104.leave (v := none) (fun _ => rfl)
 refine ⟨_, _, (gcT p103 st104) _ (X104.returnOut hx Bd.returns (hb hby d2_9) hr), hrun, hended, _, _, rfl, ?_, ⟨_, rfl⟩, hW, hsame.mono (by decide) (by decide)⟩
 show Q2_L1 Z a1 a2 k1 c0 cs1 fm h0 n0 _ T104.heap _
 exact ⟨x105, x106, rfl, N104, K107, q104_E, q104_c, q104_v, q104_g, (Nat.le_trans (Keep.refl h0 [a1]).1 q104_z), q104_V, q104_n⟩
theorem ef_rm12_L2 (m : MethodId) (a1 : Addr) (k1 : ClassId) (c0 : Int32) (c1 : Int32) : entryFrame m #[(.ref a1), (.int (0 : Int32)), (.int (2 : Int32))] 6 = mkF m 0 #[.val (.ref a1), .val (.int (0 : Int32)), .val (.int (2 : Int32)), .unset, .unset, .unset] [] := by first | (simp [entryFrame, mkF, argsToLocals, Value.category]; done) | rfl
def Q12_L2 (Z : State) (a1 : Addr) (k1 : ClassId) (c0 : Int32) (c1 : Int32) (h0 : Heap) (n0 : Nat) (v : Option Value) (h : Heap) (L : List Loc) : Prop := ∃ (b : Addr) (kb : ClassId), v = some (.ref b) ∧ Fr n0 L ∧ (Keep h0 h []) ∧ (n0 ≤ b) ∧ (h0.size ≤ b) ∧ (Arv Z h b kb .byte (2 : Int32) [(.int (own_xl c0)), (.int (own_xl c1))] (.int (0 : Int32)))
set_option maxRecDepth 65536 in
set_option maxHeartbeats 40000000 in
theorem rm12_L2 (l : Launch) (Z : State) (a0 : Array Value) (hw : ∀ d ∈ tables_1, d.before a0 Z = true) (ws : List Jvm.Cond) (a1 : Addr) (k1 : ClassId) (c0 : Int32) (c1 : Int32) (h0 : Heap) (n0 : Nat) (Z0 : n0 ≤ h0.size) (V1 : Arv Z h0 a1 k1 .char (2 : Int32) [(.int c0), (.int c1)] (.int (0 : Int32))) (l0 : ¬ ((255 : Int32) < c0)) (l1 : ¬ ((255 : Int32) < c1)) :
  MetFree l (⟨"java/lang/StringUTF16", "compress", "([CII)[B"⟩ : MethodName) (head1 (Jvm.Cond.code (⟨"java/lang/StringUTF16", "compress", "([CII)[B"⟩ : MethodName) jdk_52_method_16_code 6 (some (.array .byte)) :: ws) ({ frames := 1, cells := 1, slots := 2, locals := 18 } : Room)) (fun a U => a = #[(.ref a1), (.int (0 : Int32)), (.int (2 : Int32))] ∧ Z.Warmed39 U.vm ∧ U.heap = h0) (fun _ _ _ _ _ => True) (fun _ U o U' => ∃ v L, o = .returned v ∧ Q12_L2 Z a1 k1 c0 c1 h0 n0 v U'.heap L ∧ FrameEnd U o U' L ({ frames := 1, cells := 1, slots := 2, locals := 18 } : Room).cells ({ frames := 1, cells := 1, slots := 2, locals := 18 } : Room).slots) := by
 refine MetFree.of_bodySF pn12 hisR ?_
 intro p e s m args below meth c s₁ Bd hml0 hP hK
 obtain ⟨rfl, hZ, hh⟩ := hP
 have hx := Bd.exec
 have hby := Bd.bytes
 have hml : c.maxLocals = 6 := hml0
 have hown : s.vm.findClass "java/lang/StringUTF16" = some m.cls := findClass_of_methodNamed Bd.named
 have hnm := (name_of_methodNamed Bd.named Bd.method).1
 have X0 : Stand p l e ({ frames := 1, cells := 1, slots := 2, locals := 18 } : Room) s m #[(.ref a1), (.int (0 : Int32)), (.int (2 : Int32))] below meth c s₁ [] 0 0 := Stand.of_body Bd
 have e0 : s₁.heap = h0 := by rw [← hh, Bd.state]; rfl
 have N0 := Fr.nil n0
 have p0 : Go p.tables e below (s₁.setTop (entryFrame m #[(.ref a1), (.int (0 : Int32)), (.int (2 : Int32))] 6)) (s₁.setTop (mkF m 0 #[.val (.ref a1), .val (.int (0 : Int32)), .val (.int (2 : Int32)), .unset, .unset, .unset] [])) := fun t_ k_ => castTop (ef_rm12_L2 m a1 k1 c0 c1) k_
 have p101 : Go p.tables e below _ (s₁.setTop (mkF m 1 #[.val (.ref a1), .val (.int (0 : Int32)), .val (.int (2 : Int32)), .unset, .unset, .unset] [(.int (2 : Int32))])) := fun t_ k_ => p0 t_ (by
  refine XS.iloadN X0.here hx rfl (hb hby d12_0) rfl ?_
  exact k_)
 obtain ⟨T102, h102, k102, X102, e102, E102, A102, st102⟩ := newP X0 hx hZ (own_w hw 21 rfl) e0 (g := (mkF m 1 #[.val (.ref a1), .val (.int (0 : Int32)), .val (.int (2 : Int32)), .unset, .unset, .unset] [(.int (2 : Int32))])) rfl (hb hby d12_1) rfl (by decide) (cap := 2) (by decide) (by decide) (by decide) (by decide)
 obtain ⟨b102, g102⟩ : ∃ z, z = h0.size := ⟨_, rfl⟩
 rw [← g102] at A102 st102
 have ne_a1_b102 : a1 ≠ b102 := Nat.ne_of_lt (Nat.lt_of_lt_of_le V1.lt (Nat.le_of_eq g102.symm))
 have ge_b102 : n0 ≤ b102 := Nat.le_trans (Nat.le_trans Z0 (Keep.refl h0 []).1) (Nat.le_of_eq g102.symm)
 have sz_b102 : h0.size ≤ b102 := Nat.le_trans (Keep.refl h0 []).1 (Nat.le_of_eq g102.symm)
 have K103 : Keep h0 h102 [] := (Keep.refl h0 []).ext E102
 have V102 : Arv Z h102 b102 k102 .byte (2 : Int32) [(.int (0 : Int32)), (.int (0 : Int32))] (.int (0 : Int32)) := (Arv.new A102 (by decide)).pad (pad_rep [] (.int (0 : Int32)) 2)
 have p104 : Go p.tables e below _ (T102.setTop (mkF m 9 #[.val (.ref a1), .val (.int (0 : Int32)), .val (.int (2 : Int32)), .val (.ref b102), .unset, .unset] [(.int (2 : Int32)), (.int (0 : Int32)), (.ref b102), (.int (0 : Int32)), (.ref a1)])) := fun t_ k_ => (gc p101 st102) t_ (by
  refine XS.astoreN X102.here hx rfl (hb hby d12_3) rfl rfl (l' := #[.val (.ref a1), .val (.int (0 : Int32)), .val (.int (2 : Int32)), .val (.ref b102), .unset, .unset]) rfl ?_
  refine XS.aloadN X102.here hx rfl (hb hby d12_4) rfl rfl ?_
  refine XS.iloadN X102.here hx rfl (hb hby d12_5) rfl ?_
  refine XS.aloadN X102.here hx rfl (hb hby d12_6) rfl rfl ?_
  refine XS.iconst X102.here hx rfl (hb hby d12_7) ?_
  refine XS.iloadN X102.here hx rfl (hb hby d12_8) rfl ?_
  exact k_)
 have hl105 : ∀ j, j < 2 → ¬ ((255 : Int32) < own_at [c0, c1] j) := by
  intro j hj
  rcases (by omega : j = 0 ∨ j = 1) with rfl | rfl
  ·exact l0
  ·exact l1
 have f106 := (V1.ext E102)
 obtain ⟨_, _, ⟨T107, L107, k107, n107⟩, -, X107, ⟨Lc107, hQ107, l107, y107, z107⟩, st107⟩ := Jvm.LawKit.callS X102 hx (y := (⟨"java/lang/StringUTF16", "compress", "([CI[BII)I"⟩ : MethodName)) hown (mvT hZ (own_w hw 70 rfl)) (mvT hZ (own_w hw 71 rfl)) (mvT hZ (own_w hw 68 rfl)) (mvT hZ (own_w hw 72 rfl)) (by decide) (backOf (W := 0) (rm13_L l Z a0 hw [] a1 b102 k1 k102 [c0, c1] 2 2 h102 n0 (Nat.le_trans Z0 K103.1) f106 V102 (by decide) rfl hl105 ne_a1_b102 ge_b102) hZ (own_w hw 72 rfl) (own_w hw 68 rfl) (by decide) (by decide)) (g := (mkF m 9 #[.val (.ref a1), .val (.int (0 : Int32)), .val (.int (2 : Int32)), .val (.ref b102), .unset, .unset] [(.int (2 : Int32)), (.int (0 : Int32)), (.ref b102), (.int (0 : Int32)), (.ref a1)])) rfl (by rw [hml]; rfl) (argsL := [(.ref a1), (.int (0 : Int32)), (.ref b102), (.int (0 : Int32)), (.int (2 : Int32))]) (rest := []) (lenOf pd6 rfl) rfl (by show 2 * 0 + _ ≤ _; exact Nat.le_of_eq rfl) (hb hby d12_9) (fun _ _ => ⟨rfl, e102, (by decide : 1 + 0 ≤ _), (by decide : 2 + 0 ≤ _)⟩)
 dsimp only [Pt.U, Pt.locs, Pt.cells, Pt.slots] at X107 l107 y107 z107 st107 hQ107
 subst l107 y107 z107
 obtain ⟨rfl, N107q, q107_K, q107_V⟩ := hQ107
 have N107 := Fr.app N0 N107q
 have K108 : Keep h0 T107.heap [] := K103.trans q107_K (allS (Or.inr sz_b102) all0)
 have f109 : Arv Z T107.heap b102 k102 .byte (2 : Int32) [(.int (own_xl c0)), (.int (own_xl c1))] (.int (0 : Int32)) := q107_V
 have p110 : Go p.tables e below _ (T107.setTop (mkF m 12 #[.val (.ref a1), .val (.int (0 : Int32)), .val (.int (2 : Int32)), .val (.ref b102), .unset, .unset] [(.int (2 : Int32))])) := (gc p104 st107)
 have p111 : Go p.tables e below _ (T107.setTop (mkF m 58 #[.val (.ref a1), .val (.int (0 : Int32)), .val (.int (2 : Int32)), .val (.ref b102), .val (.int (2 : Int32)), .unset] [(.ref b102)])) := fun t_ k_ => p110 t_ (by
  refine XS.istore X107.here hx rfl (hb hby d12_12) rfl (l' := #[.val (.ref a1), .val (.int (0 : Int32)), .val (.int (2 : Int32)), .val (.ref b102), .val (.int (2 : Int32)), .unset]) rfl ?_
  refine XS.iload X107.here hx rfl (hb hby d12_14) rfl ?_
  refine XS.iloadN X107.here hx rfl (hb hby d12_16) rfl ?_
  refine XS.icmpYes X107.here hx rfl (pc0 := 17) (pc' := 57) rfl (hb hby d12_17) rfl (teq (by decide : ((2 : Int32) = (2 : Int32)))).1 (by decide) (by decide) ?_
  refine XS.aloadN X107.here hx rfl (hb hby d12_57) rfl rfl ?_
  exact k_)
 obtain ⟨fs, hr, hrun, hended, hW, hsame⟩ := X107.leave (v := some (.ref b102)) (fun h => by rw [Bd.returns] at h; cases h)
 refine ⟨_, _, p111 _ (retOut X107 hx (w := (.ref b102)) (i := .areturn) Bd.returns rfl (Or.inr (Or.inr (Or.inr (Or.inr ⟨rfl, rfl, rfl⟩)))) (hb hby d12_58) hr), hrun, hended, _, _, rfl, ?_, ⟨_, rfl⟩, hW, hsame.mono (by decide) (by decide)⟩
 show Q12_L2 Z a1 k1 c0 c1 h0 n0 _ T107.heap _
 exact ⟨b102, k102, rfl, N107, K108, ge_b102, sz_b102, f109⟩
theorem ef_rm14_L2 (m : MethodId) (a1 : Addr) (k1 : ClassId) (vs : List Value) : entryFrame m #[(.ref a1), (.int (2 : Int32))] 2 = mkF m 0 #[.val (.ref a1), .val (.int (2 : Int32))] [] := by first | (simp [entryFrame, mkF, argsToLocals, Value.category]; done) | rfl
def Q14_L2 (Z : State) (a1 : Addr) (k1 : ClassId) (vs : List Value) (h0 : Heap) (n0 : Nat) (v : Option Value) (h : Heap) (L : List Loc) : Prop := v = some (.int (0 : Int32)) ∧ Fr n0 L ∧ (h = h0)
set_option maxRecDepth 65536 in
set_option maxHeartbeats 40000000 in
theorem rm14_L2 (l : Launch) (Z : State) (a0 : Array Value) (hw : ∀ d ∈ tables_1, d.before a0 Z = true) (ws : List Jvm.Cond) (a1 : Addr) (k1 : ClassId) (vs : List Value) (h0 : Heap) (n0 : Nat) (Z0 : n0 ≤ h0.size) (V1 : Arv Z h0 a1 k1 .byte (2 : Int32) vs (.int (0 : Int32))) :
  MetFree l (⟨"java/lang/StringUTF16", "coderFromArrayLen", "([BI)B"⟩ : MethodName) (head1 (Jvm.Cond.code (⟨"java/lang/StringUTF16", "coderFromArrayLen", "([BI)B"⟩ : MethodName) jdk_52_method_15_code 2 (some .byte) :: ws) ({ frames := 0, cells := 0, slots := 0, locals := 0 } : Room)) (fun a U => a = #[(.ref a1), (.int (2 : Int32))] ∧ Z.Warmed39 U.vm ∧ U.heap = h0) (fun _ _ _ _ _ => True) (fun _ U o U' => ∃ v L, o = .returned v ∧ Q14_L2 Z a1 k1 vs h0 n0 v U'.heap L ∧ FrameEnd U o U' L ({ frames := 0, cells := 0, slots := 0, locals := 0 } : Room).cells ({ frames := 0, cells := 0, slots := 0, locals := 0 } : Room).slots) := by
 refine MetFree.of_bodySF pn14 hisR ?_
 intro p e s m args below meth c s₁ Bd hml0 hP hK
 obtain ⟨rfl, hZ, hh⟩ := hP
 have hx := Bd.exec
 have hby := Bd.bytes
 have hml : c.maxLocals = 2 := hml0
 have hown : s.vm.findClass "java/lang/StringUTF16" = some m.cls := findClass_of_methodNamed Bd.named
 have hnm := (name_of_methodNamed Bd.named Bd.method).1
 have X0 : Stand p l e ({ frames := 0, cells := 0, slots := 0, locals := 0 } : Room) s m #[(.ref a1), (.int (2 : Int32))] below meth c s₁ [] 0 0 := Stand.of_body Bd
 have e0 : s₁.heap = h0 := by rw [← hh, Bd.state]; rfl
 have N0 := Fr.nil n0
 have p0 : Go p.tables e below (s₁.setTop (entryFrame m #[(.ref a1), (.int (2 : Int32))] 2)) (s₁.setTop (mkF m 0 #[.val (.ref a1), .val (.int (2 : Int32))] [])) := fun t_ k_ => castTop (ef_rm14_L2 m a1 k1 vs) k_
 have p101 : Go p.tables e below _ (s₁.setTop (mkF m 2 #[.val (.ref a1), .val (.int (2 : Int32))] [(.ref a1), (.int (2 : Int32))])) := fun t_ k_ => p0 t_ (by
  refine XS.iloadN X0.here hx rfl (hb hby d14_0) rfl ?_
  refine XS.aloadN X0.here hx rfl (hb hby d14_1) rfl rfl ?_
  exact k_)
 obtain ⟨cl102, Ar102, -, S102, Ng102, -, -⟩ := id V1
 have p103 : Go p.tables e below _ (s₁.setTop (mkF m 8 #[.val (.ref a1), .val (.int (2 : Int32))] [(.int (0 : Int32))])) := fun t_ k_ => p101 t_ (by
  refine X0.arraylength hx (by rw [e0]; exact Ar102.1) (State.isArrayOf_alike hZ.alike Ar102.2.1) (g := (mkF m 2 #[.val (.ref a1), .val (.int (2 : Int32))] [(.ref a1), (.int (2 : Int32))])) rfl rfl (hb hby d14_2) _ ?_
  rw [len_of S102 Ng102]
  show Steps p.tables e below (s₁.setTop (mkF m 3 #[.val (.ref a1), .val (.int (2 : Int32))] [(.int (2 : Int32)), (.int (2 : Int32))])) _
  refine XS.isub X0.here hx rfl (hb hby d14_3) rfl ?_
  refine XS.bipush X0.here hx rfl (hb hby d14_4) ?_
  refine XS.iushr X0.here hx rfl (hb hby d14_6) rfl ?_
  refine XS.i2b X0.here hx rfl (hb hby d14_7) rfl ?_
  exact k_)
 obtain ⟨fs, hr, hrun, hended, hW, hsame⟩ := X0.leave (v := some (.int (0 : Int32))) (fun h => by rw [Bd.returns] at h; cases h)
 refine ⟨_, _, p103 _ (retN X0 hx (t := .byte) Bd.returns (by simp) (hb hby d14_8) hr), hrun, hended, _, _, rfl, ?_, ⟨_, rfl⟩, hW, hsame.mono (by decide) (by decide)⟩
 show Q14_L2 Z a1 k1 vs h0 n0 _ s₁.heap _
 rw [e0]
 exact ⟨rfl, N0, rfl⟩
theorem ef_rm3_L2 (m : MethodId) (a1 : Addr) (a2 : Addr) (k1 : ClassId) (c0 : Int32) (c1 : Int32) (cs1 : Int32) (fm : Value) : entryFrame m #[(.ref a1), (.ref a2), (.int (0 : Int32)), (.int (2 : Int32)), .null] 6 = mkF m 0 #[.val (.ref a1), .val (.ref a2), .val (.int (0 : Int32)), .val (.int (2 : Int32)), .val .null, .unset] [] := by first | (simp [entryFrame, mkF, argsToLocals, Value.category]; done) | rfl
def Q3_L2 (Z : State) (a1 : Addr) (a2 : Addr) (k1 : ClassId) (c0 : Int32) (c1 : Int32) (cs1 : Int32) (fm : Value) (h0 : Heap) (n0 : Nat) (v : Option Value) (h : Heap) (L : List Loc) : Prop := ∃ (b : Addr) (kb : ClassId), v = none ∧ Fr n0 L ∧ (Keep h0 h [a1]) ∧ (Exa Z h a1 "java/lang/String") ∧ (Fld Z h a1 "java/lang/String" "coder" "B" (.int (0 : Int32))) ∧ (Fld Z h a1 "java/lang/String" "value" "[B" (.ref b)) ∧ (n0 ≤ b) ∧ (h0.size ≤ b) ∧ (Arv Z h b kb .byte (2 : Int32) [(.int (own_xl c0)), (.int (own_xl c1))] (.int (0 : Int32))) ∧ (a1 ≠ b)
set_option maxRecDepth 65536 in
set_option maxHeartbeats 40000000 in
theorem rm3_L2 (l : Launch) (Z : State) (a0 : Array Value) (hw : ∀ d ∈ tables_1, d.before a0 Z = true) (ws : List Jvm.Cond) (a1 : Addr) (a2 : Addr) (k1 : ClassId) (c0 : Int32) (c1 : Int32) (cs1 : Int32) (fm : Value) (h0 : Heap) (n0 : Nat) (Z0 : n0 ≤ h0.size) (O1 : Old Z n0 h0) (G : own_G Z cs1 fm) (F1 : Fld Z h0 a1 "java/lang/String" "coder" "B" (.int (0 : Int32))) (F2 : Fld Z h0 a1 "java/lang/String" "value" "[B" .null) (E1 : Exa Z h0 a1 "java/lang/String") (V1 : Arv Z h0 a2 k1 .char (2 : Int32) [(.int c0), (.int c1)] (.int (0 : Int32))) (ne : a1 ≠ a2) (g1 : n0 ≤ a1) (l0 : ¬ ((255 : Int32) < c0)) (l1 : ¬ ((255 : Int32) < c1)) :
  MetFree l (⟨"java/lang/String", "<init>", "([CIILjava/lang/Void;)V"⟩ : MethodName) (head1 (Jvm.Cond.code (⟨"java/lang/String", "<init>", "([CIILjava/lang/Void;)V"⟩ : MethodName) jdk_42_method_149_code 6 none :: ws) ({ frames := 2, cells := 1, slots := 2, locals := 35 } : Room)) (fun a U => a = #[(.ref a1), (.ref a2), (.int (0 : Int32)), (.int (2 : Int32)), .null] ∧ Z.Warmed39 U.vm ∧ U.heap = h0) (fun _ _ _ _ _ => True) (fun _ U o U' => ∃ v L, o = .returned v ∧ Q3_L2 Z a1 a2 k1 c0 c1 cs1 fm h0 n0 v U'.heap L ∧ FrameEnd U o U' L ({ frames := 2, cells := 1, slots := 2, locals := 35 } : Room).cells ({ frames := 2, cells := 1, slots := 2, locals := 35 } : Room).slots) := by
 refine MetFree.of_bodySF pn3 hisR ?_
 intro p e s m args below meth c s₁ Bd hml0 hP hK
 obtain ⟨rfl, hZ, hh⟩ := hP
 have hx := Bd.exec
 have hby := Bd.bytes
 have hml : c.maxLocals = 6 := hml0
 have hown : s.vm.findClass "java/lang/String" = some m.cls := findClass_of_methodNamed Bd.named
 have hnm := (name_of_methodNamed Bd.named Bd.method).1
 have X0 : Stand p l e ({ frames := 2, cells := 1, slots := 2, locals := 35 } : Room) s m #[(.ref a1), (.ref a2), (.int (0 : Int32)), (.int (2 : Int32)), .null] below meth c s₁ [] 0 0 := Stand.of_body Bd
 have e0 : s₁.heap = h0 := by rw [← hh, Bd.state]; rfl
 have N0 := Fr.nil n0
 have p0 : Go p.tables e below (s₁.setTop (entryFrame m #[(.ref a1), (.ref a2), (.int (0 : Int32)), (.int (2 : Int32)), .null] 6)) (s₁.setTop (mkF m 0 #[.val (.ref a1), .val (.ref a2), .val (.int (0 : Int32)), .val (.int (2 : Int32)), .val .null, .unset] [])) := fun t_ k_ => castTop (ef_rm3_L2 m a1 a2 k1 c0 c1 cs1 fm) k_
 have p101 : Go p.tables e below _ (s₁.setTop (mkF m 1 #[.val (.ref a1), .val (.ref a2), .val (.int (0 : Int32)), .val (.int (2 : Int32)), .val .null, .unset] [(.ref a1)])) := fun t_ k_ => p0 t_ (by
  refine XS.aloadN X0.here hx rfl (hb hby d3_0) rfl rfl ?_
  exact k_)
 obtain ⟨T102, X102, e102, st102⟩ := initO X0 hx hZ hown (own_w hw 17 rfl) (own_w hw 18 rfl) (own_w hw 19 rfl) e0 (g := (mkF m 1 #[.val (.ref a1), .val (.ref a2), .val (.int (0 : Int32)), .val (.int (2 : Int32)), .val .null, .unset] [(.ref a1)])) rfl (by rw [hml]; rfl) rfl (hb hby d3_1) (by decide) (W := 0) (by show 2 * 0 + _ ≤ _; exact Nat.le_of_eq rfl) (by decide)
 have p103 : Go p.tables e below _ (T102.setTop (mkF m 27 #[.val (.ref a1), .val (.ref a2), .val (.int (0 : Int32)), .val (.int (2 : Int32)), .val .null, .unset] [])) := fun t_ k_ => (gc p101 st102) t_ (by
  refine XS.iloadN X102.here hx rfl (hb hby d3_4) rfl ?_
  refine XS.ifYes X102.here hx rfl (pc0 := 5) (pc' := 27) rfl (hb hby d3_5) rfl ((if0 _ _).trans (feq (by decide : ¬ ((2 : Int32) = (0 : Int32)))).2) (by decide) (by decide) ?_
  exact k_)
 obtain ⟨T104, X104, e104, st104⟩ := getS2 X102 hx hZ hown (host := "") (Or.inl (own_w hw 47 rfl)) Via.refl e102 (G.1.ext O1.2) (g := (mkF m 27 #[.val (.ref a1), .val (.ref a2), .val (.int (0 : Int32)), .val (.int (2 : Int32)), .val .null, .unset] [])) rfl (hb hby d3_27)
 have c105 : ¬ (cs1 = (0 : Int32)) := G.2.1
 have p106 : Go p.tables e below _ (T104.setTop (mkF m 36 #[.val (.ref a1), .val (.ref a2), .val (.int (0 : Int32)), .val (.int (2 : Int32)), .val .null, .unset] [(.int (2 : Int32)), (.int (0 : Int32)), (.ref a2)])) := fun t_ k_ => (gc p103 st104) t_ (by
  refine XS.ifNo X104.here hx rfl (hb hby d3_30) rfl ((if0 _ _).trans (feq c105).1) ?_
  refine XS.aloadN X104.here hx rfl (hb hby d3_33) rfl rfl ?_
  refine XS.iloadN X104.here hx rfl (hb hby d3_34) rfl ?_
  refine XS.iloadN X104.here hx rfl (hb hby d3_35) rfl ?_
  exact k_)
 obtain ⟨_, _, ⟨T107, L107, k107, n107⟩, -, X107, ⟨Lc107, hQ107, l107, y107, z107⟩, st107⟩ := Jvm.LawKit.callS X104 hx (y := (⟨"java/lang/StringUTF16", "compress", "([CII)[B"⟩ : MethodName)) hown (mvT hZ (own_w hw 66 rfl)) (mvT hZ (own_w hw 67 rfl)) (mvT hZ (own_w hw 68 rfl)) (mvT hZ (own_w hw 69 rfl)) (by decide) (backOf (W := 0) (rm12_L2 l Z a0 hw [] a2 k1 c0 c1 h0 n0 (Nat.le_trans Z0 (Keep.refl h0 [a1]).1) V1 l0 l1) hZ (own_w hw 69 rfl) (own_w hw 68 rfl) (by decide) (by decide)) (g := (mkF m 36 #[.val (.ref a1), .val (.ref a2), .val (.int (0 : Int32)), .val (.int (2 : Int32)), .val .null, .unset] [(.int (2 : Int32)), (.int (0 : Int32)), (.ref a2)])) rfl (by rw [hml]; rfl) (argsL := [(.ref a2), (.int (0 : Int32)), (.int (2 : Int32))]) (rest := []) (lenOf pd7 rfl) rfl (by show 2 * 0 + _ ≤ _; exact Nat.le_of_eq rfl) (hb hby d3_36) (fun _ _ => ⟨rfl, e104, (by decide : 0 + 1 ≤ _), (by decide : 0 + 2 ≤ _)⟩)
 dsimp only [Pt.U, Pt.locs, Pt.cells, Pt.slots] at X107 l107 y107 z107 st107 hQ107
 subst l107 y107 z107
 obtain ⟨x108, x109, rfl, N107q, q107_K, q107_g, q107_z, q107_V⟩ := hQ107
 have N107 := Fr.app N0 N107q
 have K110 : Keep h0 T107.heap [a1] := (Keep.refl h0 [a1]).trans q107_K all0
 have ne_a1_x108 : a1 ≠ x108 := Nat.ne_of_lt (Nat.lt_of_lt_of_le E1.lt q107_z)
 have ne_a2_x108 : a2 ≠ x108 := Nat.ne_of_lt (Nat.lt_of_lt_of_le V1.lt q107_z)
 have p111 : Go p.tables e below _ (T107.setTop (mkF m 45 #[.val (.ref a1), .val (.ref a2), .val (.int (0 : Int32)), .val (.int (2 : Int32)), .val .null, .val (.ref x108)] [(.int (2 : Int32)), (.ref x108), (.ref a1)])) := fun t_ k_ => (gc p106 st107) t_ (by
  refine XS.astore X107.here hx rfl (hb hby d3_39) rfl rfl (l' := #[.val (.ref a1), .val (.ref a2), .val (.int (0 : Int32)), .val (.int (2 : Int32)), .val .null, .val (.ref x108)]) rfl ?_
  refine XS.aloadN X107.here hx rfl (hb hby d3_41) rfl rfl ?_
  refine XS.aload X107.here hx rfl (hb hby d3_42) rfl rfl ?_
  refine XS.iloadN X107.here hx rfl (hb hby d3_44) rfl ?_
  exact k_)
 obtain ⟨_, _, ⟨T112, L112, k112, n112⟩, -, X112, ⟨Lc112, hQ112, l112, y112, z112⟩, st112⟩ := Jvm.LawKit.callS X107 hx (y := (⟨"java/lang/StringUTF16", "coderFromArrayLen", "([BI)B"⟩ : MethodName)) hown (mvT hZ (own_w hw 73 rfl)) (mvT hZ (own_w hw 74 rfl)) (mvT hZ (own_w hw 68 rfl)) (mvT hZ (own_w hw 75 rfl)) (by decide) (backOf (W := 1) (rm14_L2 l Z a0 hw [] x108 x109 [(.int (own_xl c0)), (.int (own_xl c1))] T107.heap n0 (Nat.le_trans Z0 K110.1) q107_V) hZ (own_w hw 75 rfl) (own_w hw 68 rfl) (by decide) (by decide)) (g := (mkF m 45 #[.val (.ref a1), .val (.ref a2), .val (.int (0 : Int32)), .val (.int (2 : Int32)), .val .null, .val (.ref x108)] [(.int (2 : Int32)), (.ref x108), (.ref a1)])) rfl (by rw [hml]; rfl) (argsL := [(.ref x108), (.int (2 : Int32))]) (rest := [(.ref a1)]) (lenOf pd8 rfl) rfl (by show 2 * 0 + _ ≤ _; exact Nat.le_of_eq rfl) (hb hby d3_45) (fun _ _ => ⟨rfl, rfl, (by decide : 1 + 0 ≤ _), (by decide : 2 + 0 ≤ _)⟩)
 dsimp only [Pt.U, Pt.locs, Pt.cells, Pt.slots] at X112 l112 y112 z112 st112 hQ112
 subst l112 y112 z112
 obtain ⟨rfl, N112q, q112_hh⟩ := hQ112
 have N112 := Fr.app N107 N112q
 have f113 := (F1.keep q107_K nin0)
 have f114 := (E1.keep q107_K)
 obtain ⟨T115, h115, X115, e115, W115, st115⟩ := putFN X112 hx hZ hown (own_w hw 27 rfl) Via.refl q112_hh f113 f114 (Or.inr ⟨(own_w hw 23 rfl), rfl, hnm⟩) (own_w hw 8 rfl) (ty := .byte) (v' := (.int (0 : Int32))) (by decide) rfl (by decide) (g := (mkF m 48 #[.val (.ref a1), .val (.ref a2), .val (.int (0 : Int32)), .val (.int (2 : Int32)), .val .null, .val (.ref x108)] [(.int (0 : Int32)), (.ref a1)])) rfl rfl (hb hby d3_48)
 have K116 : Keep h0 h115 [a1] := K110.wr W115 (Or.inl (List.mem_of_getElem? (i := 0) rfl))
 have N115 := Fr.snoc X115 N112 g1
 have F115 : Fld Z h115 a1 "java/lang/String" "coder" "B" (.int (0 : Int32)) := f113.same W115
 have p117 : Go p.tables e below _ (T115.setTop (mkF m 54 #[.val (.ref a1), .val (.ref a2), .val (.int (0 : Int32)), .val (.int (2 : Int32)), .val .null, .val (.ref x108)] [(.ref x108), (.ref a1)])) := fun t_ k_ => (gc (gc p111 st112) st115) t_ (by
  refine XS.aloadN X115.here hx rfl (hb hby d3_51) rfl rfl ?_
  refine XS.aload X115.here hx rfl (hb hby d3_52) rfl rfl ?_
  exact k_)
 have f118 := ((F2.keep q107_K nin0).other W115 (Or.inr (slot_ne (Or.inr (own_w hw 22 rfl)) (Or.inr (own_w hw 23 rfl)) (by decide) (t := (.array .byte)) (t' := .byte) (by decide) (by decide))))
 have f119 := (f114.wr W115)
 obtain ⟨T120, h120, X120, e120, W120, st120⟩ := putF X115 hx hZ hown (host := "") (Or.inl (own_w hw 26 rfl)) Via.refl e115 f118 f119 (Or.inr ⟨(own_w hw 22 rfl), rfl, hnm⟩) (own_w hw 8 rfl) (ty := (.array .byte)) (by decide) rfl rfl (g := (mkF m 54 #[.val (.ref a1), .val (.ref a2), .val (.int (0 : Int32)), .val (.int (2 : Int32)), .val .null, .val (.ref x108)] [(.ref x108), (.ref a1)])) rfl rfl (hb hby d3_54)
 have K121 : Keep h0 h120 [a1] := K116.wr W120 (Or.inl (List.mem_of_getElem? (i := 0) rfl))
 have N120 := Fr.snoc X120 N115 g1
 have F120 : Fld Z h120 a1 "java/lang/String" "value" "[B" (.ref x108) := f118.same W120
 have f122 := (f119.wr W120)
 have f123 := (F115.other W120 (Or.inr (slot_ne (Or.inr (own_w hw 23 rfl)) (Or.inr (own_w hw 22 rfl)) (by decide) (t := .byte) (t' := (.array .byte)) (by decide) (by decide))))
 have f124 := ((q107_V.other W115 (Ne.symm ne_a1_x108)).other W120 (Ne.symm ne_a1_x108))
 obtain ⟨fs, hr, hrun, hended, hW, hsame⟩ := X120.leave (v := none) (fun _ => rfl)
 refine ⟨_, _, (gc p117 st120) _ (X120.returnOut hx Bd.returns (hb hby d3_57) hr), hrun, hended, _, _, rfl, ?_, ⟨_, rfl⟩, hW, hsame.mono (by decide) (by decide)⟩
 show Q3_L2 Z a1 a2 k1 c0 c1 cs1 fm h0 n0 _ T120.heap _
 rw [e120]
 exact ⟨x108, x109, rfl, N120, K121, f122, f123, F120, q107_g, (Nat.le_trans (Keep.refl h0 [a1]).1 q107_z), f124, ne_a1_x108⟩
theorem ef_rm2_L2 (m : MethodId) (a1 : Addr) (a2 : Addr) (k1 : ClassId) (c0 : Int32) (c1 : Int32) (cs1 : Int32) (fm : Value) : entryFrame m #[(.ref a1), (.ref a2)] 2 = mkF m 0 #[.val (.ref a1), .val (.ref a2)] [] := by first | (simp [entryFrame, mkF, argsToLocals, Value.category]; done) | rfl
def Q2_L2 (Z : State) (a1 : Addr) (a2 : Addr) (k1 : ClassId) (c0 : Int32) (c1 : Int32) (cs1 : Int32) (fm : Value) (h0 : Heap) (n0 : Nat) (v : Option Value) (h : Heap) (L : List Loc) : Prop := ∃ (b : Addr) (kb : ClassId), v = none ∧ Fr n0 L ∧ (Keep h0 h [a1]) ∧ (Exa Z h a1 "java/lang/String") ∧ (Fld Z h a1 "java/lang/String" "coder" "B" (.int (0 : Int32))) ∧ (Fld Z h a1 "java/lang/String" "value" "[B" (.ref b)) ∧ (n0 ≤ b) ∧ (h0.size ≤ b) ∧ (Arv Z h b kb .byte (2 : Int32) [(.int (own_xl c0)), (.int (own_xl c1))] (.int (0 : Int32))) ∧ (a1 ≠ b)
set_option maxRecDepth 65536 in
set_option maxHeartbeats 40000000 in
theorem rm2_L2 (l : Launch) (Z : State) (a0 : Array Value) (hw : ∀ d ∈ tables_1, d.before a0 Z = true) (ws : List Jvm.Cond) (a1 : Addr) (a2 : Addr) (k1 : ClassId) (c0 : Int32) (c1 : Int32) (cs1 : Int32) (fm : Value) (h0 : Heap) (n0 : Nat) (Z0 : n0 ≤ h0.size) (O1 : Old Z n0 h0) (G : own_G Z cs1 fm) (F1 : Fld Z h0 a1 "java/lang/String" "coder" "B" (.int (0 : Int32))) (F2 : Fld Z h0 a1 "java/lang/String" "value" "[B" .null) (E1 : Exa Z h0 a1 "java/lang/String") (V1 : Arv Z h0 a2 k1 .char (2 : Int32) [(.int c0), (.int c1)] (.int (0 : Int32))) (ne : a1 ≠ a2) (g1 : n0 ≤ a1) (l0 : ¬ ((255 : Int32) < c0)) (l1 : ¬ ((255 : Int32) < c1)) :
  MetFree l (⟨"java/lang/String", "<init>", "([C)V"⟩ : MethodName) (head1 (Jvm.Cond.code (⟨"java/lang/String", "<init>", "([C)V"⟩ : MethodName) jdk_42_method_3_code 2 none :: ws) ({ frames := 3, cells := 1, slots := 2, locals := 52 } : Room)) (fun a U => a = #[(.ref a1), (.ref a2)] ∧ Z.Warmed39 U.vm ∧ U.heap = h0) (fun _ _ _ _ _ => True) (fun _ U o U' => ∃ v L, o = .returned v ∧ Q2_L2 Z a1 a2 k1 c0 c1 cs1 fm h0 n0 v U'.heap L ∧ FrameEnd U o U' L ({ frames := 3, cells := 1, slots := 2, locals := 52 } : Room).cells ({ frames := 3, cells := 1, slots := 2, locals := 52 } : Room).slots) := by
 refine MetFree.of_bodySF pn2 hisR ?_
 intro p e s m args below meth c s₁ Bd hml0 hP hK
 obtain ⟨rfl, hZ, hh⟩ := hP
 have hx := Bd.exec
 have hby := Bd.bytes
 have hml : c.maxLocals = 2 := hml0
 have hown : s.vm.findClass "java/lang/String" = some m.cls := findClass_of_methodNamed Bd.named
 have hnm := (name_of_methodNamed Bd.named Bd.method).1
 have X0 : Stand p l e ({ frames := 3, cells := 1, slots := 2, locals := 52 } : Room) s m #[(.ref a1), (.ref a2)] below meth c s₁ [] 0 0 := Stand.of_body Bd
 have e0 : s₁.heap = h0 := by rw [← hh, Bd.state]; rfl
 have N0 := Fr.nil n0
 have p0 : Go p.tables e below (s₁.setTop (entryFrame m #[(.ref a1), (.ref a2)] 2)) (s₁.setTop (mkF m 0 #[.val (.ref a1), .val (.ref a2)] [])) := fun t_ k_ => castTop (ef_rm2_L2 m a1 a2 k1 c0 c1 cs1 fm) k_
 have p101 : Go p.tables e below _ (s₁.setTop (mkF m 4 #[.val (.ref a1), .val (.ref a2)] [(.ref a2), (.int (0 : Int32)), (.ref a2), (.ref a1)])) := fun t_ k_ => p0 t_ (by
  refine XS.aloadN X0.here hx rfl (hb hby d2_0) rfl rfl ?_
  refine XS.aloadN X0.here hx rfl (hb hby d2_1) rfl rfl ?_
  refine XS.iconst X0.here hx rfl (hb hby d2_2) ?_
  refine XS.aloadN X0.here hx rfl (hb hby d2_3) rfl rfl ?_
  exact k_)
 obtain ⟨cl102, Ar102, -, S102, Ng102, -, -⟩ := id V1
 have p103 : Go p.tables e below _ (s₁.setTop (mkF m 6 #[.val (.ref a1), .val (.ref a2)] [.null, (.int (2 : Int32)), (.int (0 : Int32)), (.ref a2), (.ref a1)])) := fun t_ k_ => p101 t_ (by
  refine X0.arraylength hx (by rw [e0]; exact Ar102.1) (State.isArrayOf_alike hZ.alike Ar102.2.1) (g := (mkF m 4 #[.val (.ref a1), .val (.ref a2)] [(.ref a2), (.int (0 : Int32)), (.ref a2), (.ref a1)])) rfl rfl (hb hby d2_4) _ ?_
  rw [len_of S102 Ng102]
  show Steps p.tables e below (s₁.setTop (mkF m 5 #[.val (.ref a1), .val (.ref a2)] [(.int (2 : Int32)), (.int (0 : Int32)), (.ref a2), (.ref a1)])) _
  refine XS.aconstNull X0.here hx rfl (hb hby d2_5) ?_
  exact k_)
 obtain ⟨_, _, ⟨T104, L104, k104, n104⟩, -, X104, ⟨Lc104, hQ104, l104, y104, z104⟩, st104⟩ := X0.specialBack hx (y := (⟨"java/lang/String", "<init>", "([CIILjava/lang/Void;)V"⟩ : MethodName)) rfl hown (mvT hZ (own_w hw 13 rfl)) (mvT hZ (own_w hw 14 rfl)) (mvT hZ (own_w hw 16 rfl)) (by decide) (backOf (W := 0) (rm3_L2 l Z a0 hw [] a1 a2 k1 c0 c1 cs1 fm h0 n0 (Nat.le_trans Z0 (Keep.refl h0 [a1]).1) O1 G F1 F2 E1 V1 ne g1 l0 l1) hZ (own_w hw 16 rfl) (own_w hw 9 rfl) (by decide) (by decide)) (g := (mkF m 6 #[.val (.ref a1), .val (.ref a2)] [.null, (.int (2 : Int32)), (.int (0 : Int32)), (.ref a2), (.ref a1)])) rfl (by rw [hml]; rfl) (Steps.refl _) (a := a1) (argsL := [(.ref a2), (.int (0 : Int32)), (.int (2 : Int32)), .null]) (rest := []) (lenOf pd5 rfl) rfl (by show 2 * 0 + _ ≤ _; exact Nat.le_of_eq rfl) (hb hby d2_6) (fun _ _ => ⟨rfl, e0, (by decide : 0 + 1 ≤ _), (by decide : 0 + 2 ≤ _)⟩)
 dsimp only [Pt.U, Pt.locs, Pt.cells, Pt.slots] at X104 l104 y104 z104 st104 hQ104
 subst l104 y104 z104
 obtain ⟨x105, x106, rfl, N104q, q104_K, q104_E, q104_c, q104_v, q104_g, q104_z, q104_V, q104_n⟩ := hQ104
 have N104 := Fr.app N0 N104q
 have K107 : Keep h0 T104.heap [a1] := (Keep.refl h0 [a1]).trans q104_K (allS (Or.inl (List.mem_of_getElem? (i := 0) rfl)) all0)
 have ne_a1_x105 : a1 ≠ x105 := Nat.ne_of_lt (Nat.lt_of_lt_of_le E1.lt q104_z)
 have ne_a2_x105 : a2 ≠ x105 := Nat.ne_of_lt (Nat.lt_of_lt_of_le V1.lt q104_z)
 obtain ⟨fs, hr, hrun, hended, hW, hsame⟩ := X104.leave (v := none) (fun _ => rfl)
 refine ⟨_, _, (gcT p103 st104) _ (X104.returnOut hx Bd.returns (hb hby d2_9) hr), hrun, hended, _, _, rfl, ?_, ⟨_, rfl⟩, hW, hsame.mono (by decide) (by decide)⟩
 show Q2_L2 Z a1 a2 k1 c0 c1 cs1 fm h0 n0 _ T104.heap _
 exact ⟨x105, x106, rfl, N104, K107, q104_E, q104_c, q104_v, q104_g, (Nat.le_trans (Keep.refl h0 [a1]).1 q104_z), q104_V, q104_n⟩
theorem ef_rm12_L3 (m : MethodId) (a1 : Addr) (k1 : ClassId) (c0 : Int32) (c1 : Int32) (c2 : Int32) : entryFrame m #[(.ref a1), (.int (0 : Int32)), (.int (3 : Int32))] 6 = mkF m 0 #[.val (.ref a1), .val (.int (0 : Int32)), .val (.int (3 : Int32)), .unset, .unset, .unset] [] := by first | (simp [entryFrame, mkF, argsToLocals, Value.category]; done) | rfl
def Q12_L3 (Z : State) (a1 : Addr) (k1 : ClassId) (c0 : Int32) (c1 : Int32) (c2 : Int32) (h0 : Heap) (n0 : Nat) (v : Option Value) (h : Heap) (L : List Loc) : Prop := ∃ (b : Addr) (kb : ClassId), v = some (.ref b) ∧ Fr n0 L ∧ (Keep h0 h []) ∧ (n0 ≤ b) ∧ (h0.size ≤ b) ∧ (Arv Z h b kb .byte (3 : Int32) [(.int (own_xl c0)), (.int (own_xl c1)), (.int (own_xl c2))] (.int (0 : Int32)))
set_option maxRecDepth 65536 in
set_option maxHeartbeats 40000000 in
theorem rm12_L3 (l : Launch) (Z : State) (a0 : Array Value) (hw : ∀ d ∈ tables_1, d.before a0 Z = true) (ws : List Jvm.Cond) (a1 : Addr) (k1 : ClassId) (c0 : Int32) (c1 : Int32) (c2 : Int32) (h0 : Heap) (n0 : Nat) (Z0 : n0 ≤ h0.size) (V1 : Arv Z h0 a1 k1 .char (3 : Int32) [(.int c0), (.int c1), (.int c2)] (.int (0 : Int32))) (l0 : ¬ ((255 : Int32) < c0)) (l1 : ¬ ((255 : Int32) < c1)) (l2 : ¬ ((255 : Int32) < c2)) :
  MetFree l (⟨"java/lang/StringUTF16", "compress", "([CII)[B"⟩ : MethodName) (head1 (Jvm.Cond.code (⟨"java/lang/StringUTF16", "compress", "([CII)[B"⟩ : MethodName) jdk_52_method_16_code 6 (some (.array .byte)) :: ws) ({ frames := 1, cells := 1, slots := 3, locals := 18 } : Room)) (fun a U => a = #[(.ref a1), (.int (0 : Int32)), (.int (3 : Int32))] ∧ Z.Warmed39 U.vm ∧ U.heap = h0) (fun _ _ _ _ _ => True) (fun _ U o U' => ∃ v L, o = .returned v ∧ Q12_L3 Z a1 k1 c0 c1 c2 h0 n0 v U'.heap L ∧ FrameEnd U o U' L ({ frames := 1, cells := 1, slots := 3, locals := 18 } : Room).cells ({ frames := 1, cells := 1, slots := 3, locals := 18 } : Room).slots) := by
 refine MetFree.of_bodySF pn12 hisR ?_
 intro p e s m args below meth c s₁ Bd hml0 hP hK
 obtain ⟨rfl, hZ, hh⟩ := hP
 have hx := Bd.exec
 have hby := Bd.bytes
 have hml : c.maxLocals = 6 := hml0
 have hown : s.vm.findClass "java/lang/StringUTF16" = some m.cls := findClass_of_methodNamed Bd.named
 have hnm := (name_of_methodNamed Bd.named Bd.method).1
 have X0 : Stand p l e ({ frames := 1, cells := 1, slots := 3, locals := 18 } : Room) s m #[(.ref a1), (.int (0 : Int32)), (.int (3 : Int32))] below meth c s₁ [] 0 0 := Stand.of_body Bd
 have e0 : s₁.heap = h0 := by rw [← hh, Bd.state]; rfl
 have N0 := Fr.nil n0
 have p0 : Go p.tables e below (s₁.setTop (entryFrame m #[(.ref a1), (.int (0 : Int32)), (.int (3 : Int32))] 6)) (s₁.setTop (mkF m 0 #[.val (.ref a1), .val (.int (0 : Int32)), .val (.int (3 : Int32)), .unset, .unset, .unset] [])) := fun t_ k_ => castTop (ef_rm12_L3 m a1 k1 c0 c1 c2) k_
 have p101 : Go p.tables e below _ (s₁.setTop (mkF m 1 #[.val (.ref a1), .val (.int (0 : Int32)), .val (.int (3 : Int32)), .unset, .unset, .unset] [(.int (3 : Int32))])) := fun t_ k_ => p0 t_ (by
  refine XS.iloadN X0.here hx rfl (hb hby d12_0) rfl ?_
  exact k_)
 obtain ⟨T102, h102, k102, X102, e102, E102, A102, st102⟩ := newP X0 hx hZ (own_w hw 21 rfl) e0 (g := (mkF m 1 #[.val (.ref a1), .val (.int (0 : Int32)), .val (.int (3 : Int32)), .unset, .unset, .unset] [(.int (3 : Int32))])) rfl (hb hby d12_1) rfl (by decide) (cap := 3) (by decide) (by decide) (by decide) (by decide)
 obtain ⟨b102, g102⟩ : ∃ z, z = h0.size := ⟨_, rfl⟩
 rw [← g102] at A102 st102
 have ne_a1_b102 : a1 ≠ b102 := Nat.ne_of_lt (Nat.lt_of_lt_of_le V1.lt (Nat.le_of_eq g102.symm))
 have ge_b102 : n0 ≤ b102 := Nat.le_trans (Nat.le_trans Z0 (Keep.refl h0 []).1) (Nat.le_of_eq g102.symm)
 have sz_b102 : h0.size ≤ b102 := Nat.le_trans (Keep.refl h0 []).1 (Nat.le_of_eq g102.symm)
 have K103 : Keep h0 h102 [] := (Keep.refl h0 []).ext E102
 have V102 : Arv Z h102 b102 k102 .byte (3 : Int32) [(.int (0 : Int32)), (.int (0 : Int32)), (.int (0 : Int32))] (.int (0 : Int32)) := (Arv.new A102 (by decide)).pad (pad_rep [] (.int (0 : Int32)) 3)
 have p104 : Go p.tables e below _ (T102.setTop (mkF m 9 #[.val (.ref a1), .val (.int (0 : Int32)), .val (.int (3 : Int32)), .val (.ref b102), .unset, .unset] [(.int (3 : Int32)), (.int (0 : Int32)), (.ref b102), (.int (0 : Int32)), (.ref a1)])) := fun t_ k_ => (gc p101 st102) t_ (by
  refine XS.astoreN X102.here hx rfl (hb hby d12_3) rfl rfl (l' := #[.val (.ref a1), .val (.int (0 : Int32)), .val (.int (3 : Int32)), .val (.ref b102), .unset, .unset]) rfl ?_
  refine XS.aloadN X102.here hx rfl (hb hby d12_4) rfl rfl ?_
  refine XS.iloadN X102.here hx rfl (hb hby d12_5) rfl ?_
  refine XS.aloadN X102.here hx rfl (hb hby d12_6) rfl rfl ?_
  refine XS.iconst X102.here hx rfl (hb hby d12_7) ?_
  refine XS.iloadN X102.here hx rfl (hb hby d12_8) rfl ?_
  exact k_)
 have hl105 : ∀ j, j < 3 → ¬ ((255 : Int32) < own_at [c0, c1, c2] j) := by
  intro j hj
  rcases (by omega : j = 0 ∨ j = 1 ∨ j = 2) with rfl | rfl | rfl
  ·exact l0
  ·exact l1
  ·exact l2
 have f106 := (V1.ext E102)
 obtain ⟨_, _, ⟨T107, L107, k107, n107⟩, -, X107, ⟨Lc107, hQ107, l107, y107, z107⟩, st107⟩ := Jvm.LawKit.callS X102 hx (y := (⟨"java/lang/StringUTF16", "compress", "([CI[BII)I"⟩ : MethodName)) hown (mvT hZ (own_w hw 70 rfl)) (mvT hZ (own_w hw 71 rfl)) (mvT hZ (own_w hw 68 rfl)) (mvT hZ (own_w hw 72 rfl)) (by decide) (backOf (W := 0) (rm13_L l Z a0 hw [] a1 b102 k1 k102 [c0, c1, c2] 3 3 h102 n0 (Nat.le_trans Z0 K103.1) f106 V102 (by decide) rfl hl105 ne_a1_b102 ge_b102) hZ (own_w hw 72 rfl) (own_w hw 68 rfl) (by decide) (by decide)) (g := (mkF m 9 #[.val (.ref a1), .val (.int (0 : Int32)), .val (.int (3 : Int32)), .val (.ref b102), .unset, .unset] [(.int (3 : Int32)), (.int (0 : Int32)), (.ref b102), (.int (0 : Int32)), (.ref a1)])) rfl (by rw [hml]; rfl) (argsL := [(.ref a1), (.int (0 : Int32)), (.ref b102), (.int (0 : Int32)), (.int (3 : Int32))]) (rest := []) (lenOf pd6 rfl) rfl (by show 2 * 0 + _ ≤ _; exact Nat.le_of_eq rfl) (hb hby d12_9) (fun _ _ => ⟨rfl, e102, (by decide : 1 + 0 ≤ _), (by decide : 3 + 0 ≤ _)⟩)
 dsimp only [Pt.U, Pt.locs, Pt.cells, Pt.slots] at X107 l107 y107 z107 st107 hQ107
 subst l107 y107 z107
 obtain ⟨rfl, N107q, q107_K, q107_V⟩ := hQ107
 have N107 := Fr.app N0 N107q
 have K108 : Keep h0 T107.heap [] := K103.trans q107_K (allS (Or.inr sz_b102) all0)
 have f109 : Arv Z T107.heap b102 k102 .byte (3 : Int32) [(.int (own_xl c0)), (.int (own_xl c1)), (.int (own_xl c2))] (.int (0 : Int32)) := q107_V
 have p110 : Go p.tables e below _ (T107.setTop (mkF m 12 #[.val (.ref a1), .val (.int (0 : Int32)), .val (.int (3 : Int32)), .val (.ref b102), .unset, .unset] [(.int (3 : Int32))])) := (gc p104 st107)
 have p111 : Go p.tables e below _ (T107.setTop (mkF m 58 #[.val (.ref a1), .val (.int (0 : Int32)), .val (.int (3 : Int32)), .val (.ref b102), .val (.int (3 : Int32)), .unset] [(.ref b102)])) := fun t_ k_ => p110 t_ (by
  refine XS.istore X107.here hx rfl (hb hby d12_12) rfl (l' := #[.val (.ref a1), .val (.int (0 : Int32)), .val (.int (3 : Int32)), .val (.ref b102), .val (.int (3 : Int32)), .unset]) rfl ?_
  refine XS.iload X107.here hx rfl (hb hby d12_14) rfl ?_
  refine XS.iloadN X107.here hx rfl (hb hby d12_16) rfl ?_
  refine XS.icmpYes X107.here hx rfl (pc0 := 17) (pc' := 57) rfl (hb hby d12_17) rfl (teq (by decide : ((3 : Int32) = (3 : Int32)))).1 (by decide) (by decide) ?_
  refine XS.aloadN X107.here hx rfl (hb hby d12_57) rfl rfl ?_
  exact k_)
 obtain ⟨fs, hr, hrun, hended, hW, hsame⟩ := X107.leave (v := some (.ref b102)) (fun h => by rw [Bd.returns] at h; cases h)
 refine ⟨_, _, p111 _ (retOut X107 hx (w := (.ref b102)) (i := .areturn) Bd.returns rfl (Or.inr (Or.inr (Or.inr (Or.inr ⟨rfl, rfl, rfl⟩)))) (hb hby d12_58) hr), hrun, hended, _, _, rfl, ?_, ⟨_, rfl⟩, hW, hsame.mono (by decide) (by decide)⟩
 show Q12_L3 Z a1 k1 c0 c1 c2 h0 n0 _ T107.heap _
 exact ⟨b102, k102, rfl, N107, K108, ge_b102, sz_b102, f109⟩
theorem ef_rm14_L3 (m : MethodId) (a1 : Addr) (k1 : ClassId) (vs : List Value) : entryFrame m #[(.ref a1), (.int (3 : Int32))] 2 = mkF m 0 #[.val (.ref a1), .val (.int (3 : Int32))] [] := by first | (simp [entryFrame, mkF, argsToLocals, Value.category]; done) | rfl
def Q14_L3 (Z : State) (a1 : Addr) (k1 : ClassId) (vs : List Value) (h0 : Heap) (n0 : Nat) (v : Option Value) (h : Heap) (L : List Loc) : Prop := v = some (.int (0 : Int32)) ∧ Fr n0 L ∧ (h = h0)
set_option maxRecDepth 65536 in
set_option maxHeartbeats 40000000 in
theorem rm14_L3 (l : Launch) (Z : State) (a0 : Array Value) (hw : ∀ d ∈ tables_1, d.before a0 Z = true) (ws : List Jvm.Cond) (a1 : Addr) (k1 : ClassId) (vs : List Value) (h0 : Heap) (n0 : Nat) (Z0 : n0 ≤ h0.size) (V1 : Arv Z h0 a1 k1 .byte (3 : Int32) vs (.int (0 : Int32))) :
  MetFree l (⟨"java/lang/StringUTF16", "coderFromArrayLen", "([BI)B"⟩ : MethodName) (head1 (Jvm.Cond.code (⟨"java/lang/StringUTF16", "coderFromArrayLen", "([BI)B"⟩ : MethodName) jdk_52_method_15_code 2 (some .byte) :: ws) ({ frames := 0, cells := 0, slots := 0, locals := 0 } : Room)) (fun a U => a = #[(.ref a1), (.int (3 : Int32))] ∧ Z.Warmed39 U.vm ∧ U.heap = h0) (fun _ _ _ _ _ => True) (fun _ U o U' => ∃ v L, o = .returned v ∧ Q14_L3 Z a1 k1 vs h0 n0 v U'.heap L ∧ FrameEnd U o U' L ({ frames := 0, cells := 0, slots := 0, locals := 0 } : Room).cells ({ frames := 0, cells := 0, slots := 0, locals := 0 } : Room).slots) := by
 refine MetFree.of_bodySF pn14 hisR ?_
 intro p e s m args below meth c s₁ Bd hml0 hP hK
 obtain ⟨rfl, hZ, hh⟩ := hP
 have hx := Bd.exec
 have hby := Bd.bytes
 have hml : c.maxLocals = 2 := hml0
 have hown : s.vm.findClass "java/lang/StringUTF16" = some m.cls := findClass_of_methodNamed Bd.named
 have hnm := (name_of_methodNamed Bd.named Bd.method).1
 have X0 : Stand p l e ({ frames := 0, cells := 0, slots := 0, locals := 0 } : Room) s m #[(.ref a1), (.int (3 : Int32))] below meth c s₁ [] 0 0 := Stand.of_body Bd
 have e0 : s₁.heap = h0 := by rw [← hh, Bd.state]; rfl
 have N0 := Fr.nil n0
 have p0 : Go p.tables e below (s₁.setTop (entryFrame m #[(.ref a1), (.int (3 : Int32))] 2)) (s₁.setTop (mkF m 0 #[.val (.ref a1), .val (.int (3 : Int32))] [])) := fun t_ k_ => castTop (ef_rm14_L3 m a1 k1 vs) k_
 have p101 : Go p.tables e below _ (s₁.setTop (mkF m 2 #[.val (.ref a1), .val (.int (3 : Int32))] [(.ref a1), (.int (3 : Int32))])) := fun t_ k_ => p0 t_ (by
  refine XS.iloadN X0.here hx rfl (hb hby d14_0) rfl ?_
  refine XS.aloadN X0.here hx rfl (hb hby d14_1) rfl rfl ?_
  exact k_)
 obtain ⟨cl102, Ar102, -, S102, Ng102, -, -⟩ := id V1
 have p103 : Go p.tables e below _ (s₁.setTop (mkF m 8 #[.val (.ref a1), .val (.int (3 : Int32))] [(.int (0 : Int32))])) := fun t_ k_ => p101 t_ (by
  refine X0.arraylength hx (by rw [e0]; exact Ar102.1) (State.isArrayOf_alike hZ.alike Ar102.2.1) (g := (mkF m 2 #[.val (.ref a1), .val (.int (3 : Int32))] [(.ref a1), (.int (3 : Int32))])) rfl rfl (hb hby d14_2) _ ?_
  rw [len_of S102 Ng102]
  show Steps p.tables e below (s₁.setTop (mkF m 3 #[.val (.ref a1), .val (.int (3 : Int32))] [(.int (3 : Int32)), (.int (3 : Int32))])) _
  refine XS.isub X0.here hx rfl (hb hby d14_3) rfl ?_
  refine XS.bipush X0.here hx rfl (hb hby d14_4) ?_
  refine XS.iushr X0.here hx rfl (hb hby d14_6) rfl ?_
  refine XS.i2b X0.here hx rfl (hb hby d14_7) rfl ?_
  exact k_)
 obtain ⟨fs, hr, hrun, hended, hW, hsame⟩ := X0.leave (v := some (.int (0 : Int32))) (fun h => by rw [Bd.returns] at h; cases h)
 refine ⟨_, _, p103 _ (retN X0 hx (t := .byte) Bd.returns (by simp) (hb hby d14_8) hr), hrun, hended, _, _, rfl, ?_, ⟨_, rfl⟩, hW, hsame.mono (by decide) (by decide)⟩
 show Q14_L3 Z a1 k1 vs h0 n0 _ s₁.heap _
 rw [e0]
 exact ⟨rfl, N0, rfl⟩
theorem ef_rm3_L3 (m : MethodId) (a1 : Addr) (a2 : Addr) (k1 : ClassId) (c0 : Int32) (c1 : Int32) (c2 : Int32) (cs1 : Int32) (fm : Value) : entryFrame m #[(.ref a1), (.ref a2), (.int (0 : Int32)), (.int (3 : Int32)), .null] 6 = mkF m 0 #[.val (.ref a1), .val (.ref a2), .val (.int (0 : Int32)), .val (.int (3 : Int32)), .val .null, .unset] [] := by first | (simp [entryFrame, mkF, argsToLocals, Value.category]; done) | rfl
def Q3_L3 (Z : State) (a1 : Addr) (a2 : Addr) (k1 : ClassId) (c0 : Int32) (c1 : Int32) (c2 : Int32) (cs1 : Int32) (fm : Value) (h0 : Heap) (n0 : Nat) (v : Option Value) (h : Heap) (L : List Loc) : Prop := ∃ (b : Addr) (kb : ClassId), v = none ∧ Fr n0 L ∧ (Keep h0 h [a1]) ∧ (Exa Z h a1 "java/lang/String") ∧ (Fld Z h a1 "java/lang/String" "coder" "B" (.int (0 : Int32))) ∧ (Fld Z h a1 "java/lang/String" "value" "[B" (.ref b)) ∧ (n0 ≤ b) ∧ (h0.size ≤ b) ∧ (Arv Z h b kb .byte (3 : Int32) [(.int (own_xl c0)), (.int (own_xl c1)), (.int (own_xl c2))] (.int (0 : Int32))) ∧ (a1 ≠ b)
set_option maxRecDepth 65536 in
set_option maxHeartbeats 40000000 in
theorem rm3_L3 (l : Launch) (Z : State) (a0 : Array Value) (hw : ∀ d ∈ tables_1, d.before a0 Z = true) (ws : List Jvm.Cond) (a1 : Addr) (a2 : Addr) (k1 : ClassId) (c0 : Int32) (c1 : Int32) (c2 : Int32) (cs1 : Int32) (fm : Value) (h0 : Heap) (n0 : Nat) (Z0 : n0 ≤ h0.size) (O1 : Old Z n0 h0) (G : own_G Z cs1 fm) (F1 : Fld Z h0 a1 "java/lang/String" "coder" "B" (.int (0 : Int32))) (F2 : Fld Z h0 a1 "java/lang/String" "value" "[B" .null) (E1 : Exa Z h0 a1 "java/lang/String") (V1 : Arv Z h0 a2 k1 .char (3 : Int32) [(.int c0), (.int c1), (.int c2)] (.int (0 : Int32))) (ne : a1 ≠ a2) (g1 : n0 ≤ a1) (l0 : ¬ ((255 : Int32) < c0)) (l1 : ¬ ((255 : Int32) < c1)) (l2 : ¬ ((255 : Int32) < c2)) :
  MetFree l (⟨"java/lang/String", "<init>", "([CIILjava/lang/Void;)V"⟩ : MethodName) (head1 (Jvm.Cond.code (⟨"java/lang/String", "<init>", "([CIILjava/lang/Void;)V"⟩ : MethodName) jdk_42_method_149_code 6 none :: ws) ({ frames := 2, cells := 1, slots := 3, locals := 35 } : Room)) (fun a U => a = #[(.ref a1), (.ref a2), (.int (0 : Int32)), (.int (3 : Int32)), .null] ∧ Z.Warmed39 U.vm ∧ U.heap = h0) (fun _ _ _ _ _ => True) (fun _ U o U' => ∃ v L, o = .returned v ∧ Q3_L3 Z a1 a2 k1 c0 c1 c2 cs1 fm h0 n0 v U'.heap L ∧ FrameEnd U o U' L ({ frames := 2, cells := 1, slots := 3, locals := 35 } : Room).cells ({ frames := 2, cells := 1, slots := 3, locals := 35 } : Room).slots) := by
 refine MetFree.of_bodySF pn3 hisR ?_
 intro p e s m args below meth c s₁ Bd hml0 hP hK
 obtain ⟨rfl, hZ, hh⟩ := hP
 have hx := Bd.exec
 have hby := Bd.bytes
 have hml : c.maxLocals = 6 := hml0
 have hown : s.vm.findClass "java/lang/String" = some m.cls := findClass_of_methodNamed Bd.named
 have hnm := (name_of_methodNamed Bd.named Bd.method).1
 have X0 : Stand p l e ({ frames := 2, cells := 1, slots := 3, locals := 35 } : Room) s m #[(.ref a1), (.ref a2), (.int (0 : Int32)), (.int (3 : Int32)), .null] below meth c s₁ [] 0 0 := Stand.of_body Bd
 have e0 : s₁.heap = h0 := by rw [← hh, Bd.state]; rfl
 have N0 := Fr.nil n0
 have p0 : Go p.tables e below (s₁.setTop (entryFrame m #[(.ref a1), (.ref a2), (.int (0 : Int32)), (.int (3 : Int32)), .null] 6)) (s₁.setTop (mkF m 0 #[.val (.ref a1), .val (.ref a2), .val (.int (0 : Int32)), .val (.int (3 : Int32)), .val .null, .unset] [])) := fun t_ k_ => castTop (ef_rm3_L3 m a1 a2 k1 c0 c1 c2 cs1 fm) k_
 have p101 : Go p.tables e below _ (s₁.setTop (mkF m 1 #[.val (.ref a1), .val (.ref a2), .val (.int (0 : Int32)), .val (.int (3 : Int32)), .val .null, .unset] [(.ref a1)])) := fun t_ k_ => p0 t_ (by
  refine XS.aloadN X0.here hx rfl (hb hby d3_0) rfl rfl ?_
  exact k_)
 obtain ⟨T102, X102, e102, st102⟩ := initO X0 hx hZ hown (own_w hw 17 rfl) (own_w hw 18 rfl) (own_w hw 19 rfl) e0 (g := (mkF m 1 #[.val (.ref a1), .val (.ref a2), .val (.int (0 : Int32)), .val (.int (3 : Int32)), .val .null, .unset] [(.ref a1)])) rfl (by rw [hml]; rfl) rfl (hb hby d3_1) (by decide) (W := 0) (by show 2 * 0 + _ ≤ _; exact Nat.le_of_eq rfl) (by decide)
 have p103 : Go p.tables e below _ (T102.setTop (mkF m 27 #[.val (.ref a1), .val (.ref a2), .val (.int (0 : Int32)), .val (.int (3 : Int32)), .val .null, .unset] [])) := fun t_ k_ => (gc p101 st102) t_ (by
  refine XS.iloadN X102.here hx rfl (hb hby d3_4) rfl ?_
  refine XS.ifYes X102.here hx rfl (pc0 := 5) (pc' := 27) rfl (hb hby d3_5) rfl ((if0 _ _).trans (feq (by decide : ¬ ((3 : Int32) = (0 : Int32)))).2) (by decide) (by decide) ?_
  exact k_)
 obtain ⟨T104, X104, e104, st104⟩ := getS2 X102 hx hZ hown (host := "") (Or.inl (own_w hw 47 rfl)) Via.refl e102 (G.1.ext O1.2) (g := (mkF m 27 #[.val (.ref a1), .val (.ref a2), .val (.int (0 : Int32)), .val (.int (3 : Int32)), .val .null, .unset] [])) rfl (hb hby d3_27)
 have c105 : ¬ (cs1 = (0 : Int32)) := G.2.1
 have p106 : Go p.tables e below _ (T104.setTop (mkF m 36 #[.val (.ref a1), .val (.ref a2), .val (.int (0 : Int32)), .val (.int (3 : Int32)), .val .null, .unset] [(.int (3 : Int32)), (.int (0 : Int32)), (.ref a2)])) := fun t_ k_ => (gc p103 st104) t_ (by
  refine XS.ifNo X104.here hx rfl (hb hby d3_30) rfl ((if0 _ _).trans (feq c105).1) ?_
  refine XS.aloadN X104.here hx rfl (hb hby d3_33) rfl rfl ?_
  refine XS.iloadN X104.here hx rfl (hb hby d3_34) rfl ?_
  refine XS.iloadN X104.here hx rfl (hb hby d3_35) rfl ?_
  exact k_)
 obtain ⟨_, _, ⟨T107, L107, k107, n107⟩, -, X107, ⟨Lc107, hQ107, l107, y107, z107⟩, st107⟩ := Jvm.LawKit.callS X104 hx (y := (⟨"java/lang/StringUTF16", "compress", "([CII)[B"⟩ : MethodName)) hown (mvT hZ (own_w hw 66 rfl)) (mvT hZ (own_w hw 67 rfl)) (mvT hZ (own_w hw 68 rfl)) (mvT hZ (own_w hw 69 rfl)) (by decide) (backOf (W := 0) (rm12_L3 l Z a0 hw [] a2 k1 c0 c1 c2 h0 n0 (Nat.le_trans Z0 (Keep.refl h0 [a1]).1) V1 l0 l1 l2) hZ (own_w hw 69 rfl) (own_w hw 68 rfl) (by decide) (by decide)) (g := (mkF m 36 #[.val (.ref a1), .val (.ref a2), .val (.int (0 : Int32)), .val (.int (3 : Int32)), .val .null, .unset] [(.int (3 : Int32)), (.int (0 : Int32)), (.ref a2)])) rfl (by rw [hml]; rfl) (argsL := [(.ref a2), (.int (0 : Int32)), (.int (3 : Int32))]) (rest := []) (lenOf pd7 rfl) rfl (by show 2 * 0 + _ ≤ _; exact Nat.le_of_eq rfl) (hb hby d3_36) (fun _ _ => ⟨rfl, e104, (by decide : 0 + 1 ≤ _), (by decide : 0 + 3 ≤ _)⟩)
 dsimp only [Pt.U, Pt.locs, Pt.cells, Pt.slots] at X107 l107 y107 z107 st107 hQ107
 subst l107 y107 z107
 obtain ⟨x108, x109, rfl, N107q, q107_K, q107_g, q107_z, q107_V⟩ := hQ107
 have N107 := Fr.app N0 N107q
 have K110 : Keep h0 T107.heap [a1] := (Keep.refl h0 [a1]).trans q107_K all0
 have ne_a1_x108 : a1 ≠ x108 := Nat.ne_of_lt (Nat.lt_of_lt_of_le E1.lt q107_z)
 have ne_a2_x108 : a2 ≠ x108 := Nat.ne_of_lt (Nat.lt_of_lt_of_le V1.lt q107_z)
 have p111 : Go p.tables e below _ (T107.setTop (mkF m 45 #[.val (.ref a1), .val (.ref a2), .val (.int (0 : Int32)), .val (.int (3 : Int32)), .val .null, .val (.ref x108)] [(.int (3 : Int32)), (.ref x108), (.ref a1)])) := fun t_ k_ => (gc p106 st107) t_ (by
  refine XS.astore X107.here hx rfl (hb hby d3_39) rfl rfl (l' := #[.val (.ref a1), .val (.ref a2), .val (.int (0 : Int32)), .val (.int (3 : Int32)), .val .null, .val (.ref x108)]) rfl ?_
  refine XS.aloadN X107.here hx rfl (hb hby d3_41) rfl rfl ?_
  refine XS.aload X107.here hx rfl (hb hby d3_42) rfl rfl ?_
  refine XS.iloadN X107.here hx rfl (hb hby d3_44) rfl ?_
  exact k_)
 obtain ⟨_, _, ⟨T112, L112, k112, n112⟩, -, X112, ⟨Lc112, hQ112, l112, y112, z112⟩, st112⟩ := Jvm.LawKit.callS X107 hx (y := (⟨"java/lang/StringUTF16", "coderFromArrayLen", "([BI)B"⟩ : MethodName)) hown (mvT hZ (own_w hw 73 rfl)) (mvT hZ (own_w hw 74 rfl)) (mvT hZ (own_w hw 68 rfl)) (mvT hZ (own_w hw 75 rfl)) (by decide) (backOf (W := 1) (rm14_L3 l Z a0 hw [] x108 x109 [(.int (own_xl c0)), (.int (own_xl c1)), (.int (own_xl c2))] T107.heap n0 (Nat.le_trans Z0 K110.1) q107_V) hZ (own_w hw 75 rfl) (own_w hw 68 rfl) (by decide) (by decide)) (g := (mkF m 45 #[.val (.ref a1), .val (.ref a2), .val (.int (0 : Int32)), .val (.int (3 : Int32)), .val .null, .val (.ref x108)] [(.int (3 : Int32)), (.ref x108), (.ref a1)])) rfl (by rw [hml]; rfl) (argsL := [(.ref x108), (.int (3 : Int32))]) (rest := [(.ref a1)]) (lenOf pd8 rfl) rfl (by show 2 * 0 + _ ≤ _; exact Nat.le_of_eq rfl) (hb hby d3_45) (fun _ _ => ⟨rfl, rfl, (by decide : 1 + 0 ≤ _), (by decide : 3 + 0 ≤ _)⟩)
 dsimp only [Pt.U, Pt.locs, Pt.cells, Pt.slots] at X112 l112 y112 z112 st112 hQ112
 subst l112 y112 z112
 obtain ⟨rfl, N112q, q112_hh⟩ := hQ112
 have N112 := Fr.app N107 N112q
 have f113 := (F1.keep q107_K nin0)
 have f114 := (E1.keep q107_K)
 obtain ⟨T115, h115, X115, e115, W115, st115⟩ := putFN X112 hx hZ hown (own_w hw 27 rfl) Via.refl q112_hh f113 f114 (Or.inr ⟨(own_w hw 23 rfl), rfl, hnm⟩) (own_w hw 8 rfl) (ty := .byte) (v' := (.int (0 : Int32))) (by decide) rfl (by decide) (g := (mkF m 48 #[.val (.ref a1), .val (.ref a2), .val (.int (0 : Int32)), .val (.int (3 : Int32)), .val .null, .val (.ref x108)] [(.int (0 : Int32)), (.ref a1)])) rfl rfl (hb hby d3_48)
 have K116 : Keep h0 h115 [a1] := K110.wr W115 (Or.inl (List.mem_of_getElem? (i := 0) rfl))
 have N115 := Fr.snoc X115 N112 g1
 have F115 : Fld Z h115 a1 "java/lang/String" "coder" "B" (.int (0 : Int32)) := f113.same W115
 have p117 : Go p.tables e below _ (T115.setTop (mkF m 54 #[.val (.ref a1), .val (.ref a2), .val (.int (0 : Int32)), .val (.int (3 : Int32)), .val .null, .val (.ref x108)] [(.ref x108), (.ref a1)])) := fun t_ k_ => (gc (gc p111 st112) st115) t_ (by
  refine XS.aloadN X115.here hx rfl (hb hby d3_51) rfl rfl ?_
  refine XS.aload X115.here hx rfl (hb hby d3_52) rfl rfl ?_
  exact k_)
 have f118 := ((F2.keep q107_K nin0).other W115 (Or.inr (slot_ne (Or.inr (own_w hw 22 rfl)) (Or.inr (own_w hw 23 rfl)) (by decide) (t := (.array .byte)) (t' := .byte) (by decide) (by decide))))
 have f119 := (f114.wr W115)
 obtain ⟨T120, h120, X120, e120, W120, st120⟩ := putF X115 hx hZ hown (host := "") (Or.inl (own_w hw 26 rfl)) Via.refl e115 f118 f119 (Or.inr ⟨(own_w hw 22 rfl), rfl, hnm⟩) (own_w hw 8 rfl) (ty := (.array .byte)) (by decide) rfl rfl (g := (mkF m 54 #[.val (.ref a1), .val (.ref a2), .val (.int (0 : Int32)), .val (.int (3 : Int32)), .val .null, .val (.ref x108)] [(.ref x108), (.ref a1)])) rfl rfl (hb hby d3_54)
 have K121 : Keep h0 h120 [a1] := K116.wr W120 (Or.inl (List.mem_of_getElem? (i := 0) rfl))
 have N120 := Fr.snoc X120 N115 g1
 have F120 : Fld Z h120 a1 "java/lang/String" "value" "[B" (.ref x108) := f118.same W120
 have f122 := (f119.wr W120)
 have f123 := (F115.other W120 (Or.inr (slot_ne (Or.inr (own_w hw 23 rfl)) (Or.inr (own_w hw 22 rfl)) (by decide) (t := .byte) (t' := (.array .byte)) (by decide) (by decide))))
 have f124 := ((q107_V.other W115 (Ne.symm ne_a1_x108)).other W120 (Ne.symm ne_a1_x108))
 obtain ⟨fs, hr, hrun, hended, hW, hsame⟩ := X120.leave (v := none) (fun _ => rfl)
 refine ⟨_, _, (gc p117 st120) _ (X120.returnOut hx Bd.returns (hb hby d3_57) hr), hrun, hended, _, _, rfl, ?_, ⟨_, rfl⟩, hW, hsame.mono (by decide) (by decide)⟩
 show Q3_L3 Z a1 a2 k1 c0 c1 c2 cs1 fm h0 n0 _ T120.heap _
 rw [e120]
 exact ⟨x108, x109, rfl, N120, K121, f122, f123, F120, q107_g, (Nat.le_trans (Keep.refl h0 [a1]).1 q107_z), f124, ne_a1_x108⟩
theorem ef_rm2_L3 (m : MethodId) (a1 : Addr) (a2 : Addr) (k1 : ClassId) (c0 : Int32) (c1 : Int32) (c2 : Int32) (cs1 : Int32) (fm : Value) : entryFrame m #[(.ref a1), (.ref a2)] 2 = mkF m 0 #[.val (.ref a1), .val (.ref a2)] [] := by first | (simp [entryFrame, mkF, argsToLocals, Value.category]; done) | rfl
def Q2_L3 (Z : State) (a1 : Addr) (a2 : Addr) (k1 : ClassId) (c0 : Int32) (c1 : Int32) (c2 : Int32) (cs1 : Int32) (fm : Value) (h0 : Heap) (n0 : Nat) (v : Option Value) (h : Heap) (L : List Loc) : Prop := ∃ (b : Addr) (kb : ClassId), v = none ∧ Fr n0 L ∧ (Keep h0 h [a1]) ∧ (Exa Z h a1 "java/lang/String") ∧ (Fld Z h a1 "java/lang/String" "coder" "B" (.int (0 : Int32))) ∧ (Fld Z h a1 "java/lang/String" "value" "[B" (.ref b)) ∧ (n0 ≤ b) ∧ (h0.size ≤ b) ∧ (Arv Z h b kb .byte (3 : Int32) [(.int (own_xl c0)), (.int (own_xl c1)), (.int (own_xl c2))] (.int (0 : Int32))) ∧ (a1 ≠ b)
set_option maxRecDepth 65536 in
set_option maxHeartbeats 40000000 in
theorem rm2_L3 (l : Launch) (Z : State) (a0 : Array Value) (hw : ∀ d ∈ tables_1, d.before a0 Z = true) (ws : List Jvm.Cond) (a1 : Addr) (a2 : Addr) (k1 : ClassId) (c0 : Int32) (c1 : Int32) (c2 : Int32) (cs1 : Int32) (fm : Value) (h0 : Heap) (n0 : Nat) (Z0 : n0 ≤ h0.size) (O1 : Old Z n0 h0) (G : own_G Z cs1 fm) (F1 : Fld Z h0 a1 "java/lang/String" "coder" "B" (.int (0 : Int32))) (F2 : Fld Z h0 a1 "java/lang/String" "value" "[B" .null) (E1 : Exa Z h0 a1 "java/lang/String") (V1 : Arv Z h0 a2 k1 .char (3 : Int32) [(.int c0), (.int c1), (.int c2)] (.int (0 : Int32))) (ne : a1 ≠ a2) (g1 : n0 ≤ a1) (l0 : ¬ ((255 : Int32) < c0)) (l1 : ¬ ((255 : Int32) < c1)) (l2 : ¬ ((255 : Int32) < c2)) :
  MetFree l (⟨"java/lang/String", "<init>", "([C)V"⟩ : MethodName) (head1 (Jvm.Cond.code (⟨"java/lang/String", "<init>", "([C)V"⟩ : MethodName) jdk_42_method_3_code 2 none :: ws) ({ frames := 3, cells := 1, slots := 3, locals := 52 } : Room)) (fun a U => a = #[(.ref a1), (.ref a2)] ∧ Z.Warmed39 U.vm ∧ U.heap = h0) (fun _ _ _ _ _ => True) (fun _ U o U' => ∃ v L, o = .returned v ∧ Q2_L3 Z a1 a2 k1 c0 c1 c2 cs1 fm h0 n0 v U'.heap L ∧ FrameEnd U o U' L ({ frames := 3, cells := 1, slots := 3, locals := 52 } : Room).cells ({ frames := 3, cells := 1, slots := 3, locals := 52 } : Room).slots) := by
 refine MetFree.of_bodySF pn2 hisR ?_
 intro p e s m args below meth c s₁ Bd hml0 hP hK
 obtain ⟨rfl, hZ, hh⟩ := hP
 have hx := Bd.exec
 have hby := Bd.bytes
 have hml : c.maxLocals = 2 := hml0
 have hown : s.vm.findClass "java/lang/String" = some m.cls := findClass_of_methodNamed Bd.named
 have hnm := (name_of_methodNamed Bd.named Bd.method).1
 have X0 : Stand p l e ({ frames := 3, cells := 1, slots := 3, locals := 52 } : Room) s m #[(.ref a1), (.ref a2)] below meth c s₁ [] 0 0 := Stand.of_body Bd
 have e0 : s₁.heap = h0 := by rw [← hh, Bd.state]; rfl
 have N0 := Fr.nil n0
 have p0 : Go p.tables e below (s₁.setTop (entryFrame m #[(.ref a1), (.ref a2)] 2)) (s₁.setTop (mkF m 0 #[.val (.ref a1), .val (.ref a2)] [])) := fun t_ k_ => castTop (ef_rm2_L3 m a1 a2 k1 c0 c1 c2 cs1 fm) k_
 have p101 : Go p.tables e below _ (s₁.setTop (mkF m 4 #[.val (.ref a1), .val (.ref a2)] [(.ref a2), (.int (0 : Int32)), (.ref a2), (.ref a1)])) := fun t_ k_ => p0 t_ (by
  refine XS.aloadN X0.here hx rfl (hb hby d2_0) rfl rfl ?_
  refine XS.aloadN X0.here hx rfl (hb hby d2_1) rfl rfl ?_
  refine XS.iconst X0.here hx rfl (hb hby d2_2) ?_
  refine XS.aloadN X0.here hx rfl (hb hby d2_3) rfl rfl ?_
  exact k_)
 obtain ⟨cl102, Ar102, -, S102, Ng102, -, -⟩ := id V1
 have p103 : Go p.tables e below _ (s₁.setTop (mkF m 6 #[.val (.ref a1), .val (.ref a2)] [.null, (.int (3 : Int32)), (.int (0 : Int32)), (.ref a2), (.ref a1)])) := fun t_ k_ => p101 t_ (by
  refine X0.arraylength hx (by rw [e0]; exact Ar102.1) (State.isArrayOf_alike hZ.alike Ar102.2.1) (g := (mkF m 4 #[.val (.ref a1), .val (.ref a2)] [(.ref a2), (.int (0 : Int32)), (.ref a2), (.ref a1)])) rfl rfl (hb hby d2_4) _ ?_
  rw [len_of S102 Ng102]
  show Steps p.tables e below (s₁.setTop (mkF m 5 #[.val (.ref a1), .val (.ref a2)] [(.int (3 : Int32)), (.int (0 : Int32)), (.ref a2), (.ref a1)])) _
  refine XS.aconstNull X0.here hx rfl (hb hby d2_5) ?_
  exact k_)
 obtain ⟨_, _, ⟨T104, L104, k104, n104⟩, -, X104, ⟨Lc104, hQ104, l104, y104, z104⟩, st104⟩ := X0.specialBack hx (y := (⟨"java/lang/String", "<init>", "([CIILjava/lang/Void;)V"⟩ : MethodName)) rfl hown (mvT hZ (own_w hw 13 rfl)) (mvT hZ (own_w hw 14 rfl)) (mvT hZ (own_w hw 16 rfl)) (by decide) (backOf (W := 0) (rm3_L3 l Z a0 hw [] a1 a2 k1 c0 c1 c2 cs1 fm h0 n0 (Nat.le_trans Z0 (Keep.refl h0 [a1]).1) O1 G F1 F2 E1 V1 ne g1 l0 l1 l2) hZ (own_w hw 16 rfl) (own_w hw 9 rfl) (by decide) (by decide)) (g := (mkF m 6 #[.val (.ref a1), .val (.ref a2)] [.null, (.int (3 : Int32)), (.int (0 : Int32)), (.ref a2), (.ref a1)])) rfl (by rw [hml]; rfl) (Steps.refl _) (a := a1) (argsL := [(.ref a2), (.int (0 : Int32)), (.int (3 : Int32)), .null]) (rest := []) (lenOf pd5 rfl) rfl (by show 2 * 0 + _ ≤ _; exact Nat.le_of_eq rfl) (hb hby d2_6) (fun _ _ => ⟨rfl, e0, (by decide : 0 + 1 ≤ _), (by decide : 0 + 3 ≤ _)⟩)
 dsimp only [Pt.U, Pt.locs, Pt.cells, Pt.slots] at X104 l104 y104 z104 st104 hQ104
 subst l104 y104 z104
 obtain ⟨x105, x106, rfl, N104q, q104_K, q104_E, q104_c, q104_v, q104_g, q104_z, q104_V, q104_n⟩ := hQ104
 have N104 := Fr.app N0 N104q
 have K107 : Keep h0 T104.heap [a1] := (Keep.refl h0 [a1]).trans q104_K (allS (Or.inl (List.mem_of_getElem? (i := 0) rfl)) all0)
 have ne_a1_x105 : a1 ≠ x105 := Nat.ne_of_lt (Nat.lt_of_lt_of_le E1.lt q104_z)
 have ne_a2_x105 : a2 ≠ x105 := Nat.ne_of_lt (Nat.lt_of_lt_of_le V1.lt q104_z)
 obtain ⟨fs, hr, hrun, hended, hW, hsame⟩ := X104.leave (v := none) (fun _ => rfl)
 refine ⟨_, _, (gcT p103 st104) _ (X104.returnOut hx Bd.returns (hb hby d2_9) hr), hrun, hended, _, _, rfl, ?_, ⟨_, rfl⟩, hW, hsame.mono (by decide) (by decide)⟩
 show Q2_L3 Z a1 a2 k1 c0 c1 c2 cs1 fm h0 n0 _ T104.heap _
 exact ⟨x105, x106, rfl, N104, K107, q104_E, q104_c, q104_v, q104_g, (Nat.le_trans (Keep.refl h0 [a1]).1 q104_z), q104_V, q104_n⟩
theorem ef_rm12_L4 (m : MethodId) (a1 : Addr) (k1 : ClassId) (c0 : Int32) (c1 : Int32) (c2 : Int32) (c3 : Int32) : entryFrame m #[(.ref a1), (.int (0 : Int32)), (.int (4 : Int32))] 6 = mkF m 0 #[.val (.ref a1), .val (.int (0 : Int32)), .val (.int (4 : Int32)), .unset, .unset, .unset] [] := by first | (simp [entryFrame, mkF, argsToLocals, Value.category]; done) | rfl
def Q12_L4 (Z : State) (a1 : Addr) (k1 : ClassId) (c0 : Int32) (c1 : Int32) (c2 : Int32) (c3 : Int32) (h0 : Heap) (n0 : Nat) (v : Option Value) (h : Heap) (L : List Loc) : Prop := ∃ (b : Addr) (kb : ClassId), v = some (.ref b) ∧ Fr n0 L ∧ (Keep h0 h []) ∧ (n0 ≤ b) ∧ (h0.size ≤ b) ∧ (Arv Z h b kb .byte (4 : Int32) [(.int (own_xl c0)), (.int (own_xl c1)), (.int (own_xl c2)), (.int (own_xl c3))] (.int (0 : Int32)))
set_option maxRecDepth 65536 in
set_option maxHeartbeats 40000000 in
theorem rm12_L4 (l : Launch) (Z : State) (a0 : Array Value) (hw : ∀ d ∈ tables_1, d.before a0 Z = true) (ws : List Jvm.Cond) (a1 : Addr) (k1 : ClassId) (c0 : Int32) (c1 : Int32) (c2 : Int32) (c3 : Int32) (h0 : Heap) (n0 : Nat) (Z0 : n0 ≤ h0.size) (V1 : Arv Z h0 a1 k1 .char (4 : Int32) [(.int c0), (.int c1), (.int c2), (.int c3)] (.int (0 : Int32))) (l0 : ¬ ((255 : Int32) < c0)) (l1 : ¬ ((255 : Int32) < c1)) (l2 : ¬ ((255 : Int32) < c2)) (l3 : ¬ ((255 : Int32) < c3)) :
  MetFree l (⟨"java/lang/StringUTF16", "compress", "([CII)[B"⟩ : MethodName) (head1 (Jvm.Cond.code (⟨"java/lang/StringUTF16", "compress", "([CII)[B"⟩ : MethodName) jdk_52_method_16_code 6 (some (.array .byte)) :: ws) ({ frames := 1, cells := 1, slots := 4, locals := 18 } : Room)) (fun a U => a = #[(.ref a1), (.int (0 : Int32)), (.int (4 : Int32))] ∧ Z.Warmed39 U.vm ∧ U.heap = h0) (fun _ _ _ _ _ => True) (fun _ U o U' => ∃ v L, o = .returned v ∧ Q12_L4 Z a1 k1 c0 c1 c2 c3 h0 n0 v U'.heap L ∧ FrameEnd U o U' L ({ frames := 1, cells := 1, slots := 4, locals := 18 } : Room).cells ({ frames := 1, cells := 1, slots := 4, locals := 18 } : Room).slots) := by
 refine MetFree.of_bodySF pn12 hisR ?_
 intro p e s m args below meth c s₁ Bd hml0 hP hK
 obtain ⟨rfl, hZ, hh⟩ := hP
 have hx := Bd.exec
 have hby := Bd.bytes
 have hml : c.maxLocals = 6 := hml0
 have hown : s.vm.findClass "java/lang/StringUTF16" = some m.cls := findClass_of_methodNamed Bd.named
 have hnm := (name_of_methodNamed Bd.named Bd.method).1
 have X0 : Stand p l e ({ frames := 1, cells := 1, slots := 4, locals := 18 } : Room) s m #[(.ref a1), (.int (0 : Int32)), (.int (4 : Int32))] below meth c s₁ [] 0 0 := Stand.of_body Bd
 have e0 : s₁.heap = h0 := by rw [← hh, Bd.state]; rfl
 have N0 := Fr.nil n0
 have p0 : Go p.tables e below (s₁.setTop (entryFrame m #[(.ref a1), (.int (0 : Int32)), (.int (4 : Int32))] 6)) (s₁.setTop (mkF m 0 #[.val (.ref a1), .val (.int (0 : Int32)), .val (.int (4 : Int32)), .unset, .unset, .unset] [])) := fun t_ k_ => castTop (ef_rm12_L4 m a1 k1 c0 c1 c2 c3) k_
 have p101 : Go p.tables e below _ (s₁.setTop (mkF m 1 #[.val (.ref a1), .val (.int (0 : Int32)), .val (.int (4 : Int32)), .unset, .unset, .unset] [(.int (4 : Int32))])) := fun t_ k_ => p0 t_ (by
  refine XS.iloadN X0.here hx rfl (hb hby d12_0) rfl ?_
  exact k_)
 obtain ⟨T102, h102, k102, X102, e102, E102, A102, st102⟩ := newP X0 hx hZ (own_w hw 21 rfl) e0 (g := (mkF m 1 #[.val (.ref a1), .val (.int (0 : Int32)), .val (.int (4 : Int32)), .unset, .unset, .unset] [(.int (4 : Int32))])) rfl (hb hby d12_1) rfl (by decide) (cap := 4) (by decide) (by decide) (by decide) (by decide)
 obtain ⟨b102, g102⟩ : ∃ z, z = h0.size := ⟨_, rfl⟩
 rw [← g102] at A102 st102
 have ne_a1_b102 : a1 ≠ b102 := Nat.ne_of_lt (Nat.lt_of_lt_of_le V1.lt (Nat.le_of_eq g102.symm))
 have ge_b102 : n0 ≤ b102 := Nat.le_trans (Nat.le_trans Z0 (Keep.refl h0 []).1) (Nat.le_of_eq g102.symm)
 have sz_b102 : h0.size ≤ b102 := Nat.le_trans (Keep.refl h0 []).1 (Nat.le_of_eq g102.symm)
 have K103 : Keep h0 h102 [] := (Keep.refl h0 []).ext E102
 have V102 : Arv Z h102 b102 k102 .byte (4 : Int32) [(.int (0 : Int32)), (.int (0 : Int32)), (.int (0 : Int32)), (.int (0 : Int32))] (.int (0 : Int32)) := (Arv.new A102 (by decide)).pad (pad_rep [] (.int (0 : Int32)) 4)
 have p104 : Go p.tables e below _ (T102.setTop (mkF m 9 #[.val (.ref a1), .val (.int (0 : Int32)), .val (.int (4 : Int32)), .val (.ref b102), .unset, .unset] [(.int (4 : Int32)), (.int (0 : Int32)), (.ref b102), (.int (0 : Int32)), (.ref a1)])) := fun t_ k_ => (gc p101 st102) t_ (by
  refine XS.astoreN X102.here hx rfl (hb hby d12_3) rfl rfl (l' := #[.val (.ref a1), .val (.int (0 : Int32)), .val (.int (4 : Int32)), .val (.ref b102), .unset, .unset]) rfl ?_
  refine XS.aloadN X102.here hx rfl (hb hby d12_4) rfl rfl ?_
  refine XS.iloadN X102.here hx rfl (hb hby d12_5) rfl ?_
  refine XS.aloadN X102.here hx rfl (hb hby d12_6) rfl rfl ?_
  refine XS.iconst X102.here hx rfl (hb hby d12_7) ?_
  refine XS.iloadN X102.here hx rfl (hb hby d12_8) rfl ?_
  exact k_)
 have hl105 : ∀ j, j < 4 → ¬ ((255 : Int32) < own_at [c0, c1, c2, c3] j) := by
  intro j hj
  rcases (by omega : j = 0 ∨ j = 1 ∨ j = 2 ∨ j = 3) with rfl | rfl | rfl | rfl
  ·exact l0
  ·exact l1
  ·exact l2
  ·exact l3
 have f106 := (V1.ext E102)
 obtain ⟨_, _, ⟨T107, L107, k107, n107⟩, -, X107, ⟨Lc107, hQ107, l107, y107, z107⟩, st107⟩ := Jvm.LawKit.callS X102 hx (y := (⟨"java/lang/StringUTF16", "compress", "([CI[BII)I"⟩ : MethodName)) hown (mvT hZ (own_w hw 70 rfl)) (mvT hZ (own_w hw 71 rfl)) (mvT hZ (own_w hw 68 rfl)) (mvT hZ (own_w hw 72 rfl)) (by decide) (backOf (W := 0) (rm13_L l Z a0 hw [] a1 b102 k1 k102 [c0, c1, c2, c3] 4 4 h102 n0 (Nat.le_trans Z0 K103.1) f106 V102 (by decide) rfl hl105 ne_a1_b102 ge_b102) hZ (own_w hw 72 rfl) (own_w hw 68 rfl) (by decide) (by decide)) (g := (mkF m 9 #[.val (.ref a1), .val (.int (0 : Int32)), .val (.int (4 : Int32)), .val (.ref b102), .unset, .unset] [(.int (4 : Int32)), (.int (0 : Int32)), (.ref b102), (.int (0 : Int32)), (.ref a1)])) rfl (by rw [hml]; rfl) (argsL := [(.ref a1), (.int (0 : Int32)), (.ref b102), (.int (0 : Int32)), (.int (4 : Int32))]) (rest := []) (lenOf pd6 rfl) rfl (by show 2 * 0 + _ ≤ _; exact Nat.le_of_eq rfl) (hb hby d12_9) (fun _ _ => ⟨rfl, e102, (by decide : 1 + 0 ≤ _), (by decide : 4 + 0 ≤ _)⟩)
 dsimp only [Pt.U, Pt.locs, Pt.cells, Pt.slots] at X107 l107 y107 z107 st107 hQ107
 subst l107 y107 z107
 obtain ⟨rfl, N107q, q107_K, q107_V⟩ := hQ107
 have N107 := Fr.app N0 N107q
 have K108 : Keep h0 T107.heap [] := K103.trans q107_K (allS (Or.inr sz_b102) all0)
 have f109 : Arv Z T107.heap b102 k102 .byte (4 : Int32) [(.int (own_xl c0)), (.int (own_xl c1)), (.int (own_xl c2)), (.int (own_xl c3))] (.int (0 : Int32)) := q107_V
 have p110 : Go p.tables e below _ (T107.setTop (mkF m 12 #[.val (.ref a1), .val (.int (0 : Int32)), .val (.int (4 : Int32)), .val (.ref b102), .unset, .unset] [(.int (4 : Int32))])) := (gc p104 st107)
 have p111 : Go p.tables e below _ (T107.setTop (mkF m 58 #[.val (.ref a1), .val (.int (0 : Int32)), .val (.int (4 : Int32)), .val (.ref b102), .val (.int (4 : Int32)), .unset] [(.ref b102)])) := fun t_ k_ => p110 t_ (by
  refine XS.istore X107.here hx rfl (hb hby d12_12) rfl (l' := #[.val (.ref a1), .val (.int (0 : Int32)), .val (.int (4 : Int32)), .val (.ref b102), .val (.int (4 : Int32)), .unset]) rfl ?_
  refine XS.iload X107.here hx rfl (hb hby d12_14) rfl ?_
  refine XS.iloadN X107.here hx rfl (hb hby d12_16) rfl ?_
  refine XS.icmpYes X107.here hx rfl (pc0 := 17) (pc' := 57) rfl (hb hby d12_17) rfl (teq (by decide : ((4 : Int32) = (4 : Int32)))).1 (by decide) (by decide) ?_
  refine XS.aloadN X107.here hx rfl (hb hby d12_57) rfl rfl ?_
  exact k_)
 obtain ⟨fs, hr, hrun, hended, hW, hsame⟩ := X107.leave (v := some (.ref b102)) (fun h => by rw [Bd.returns] at h; cases h)
 refine ⟨_, _, p111 _ (retOut X107 hx (w := (.ref b102)) (i := .areturn) Bd.returns rfl (Or.inr (Or.inr (Or.inr (Or.inr ⟨rfl, rfl, rfl⟩)))) (hb hby d12_58) hr), hrun, hended, _, _, rfl, ?_, ⟨_, rfl⟩, hW, hsame.mono (by decide) (by decide)⟩
 show Q12_L4 Z a1 k1 c0 c1 c2 c3 h0 n0 _ T107.heap _
 exact ⟨b102, k102, rfl, N107, K108, ge_b102, sz_b102, f109⟩
theorem ef_rm14_L4 (m : MethodId) (a1 : Addr) (k1 : ClassId) (vs : List Value) : entryFrame m #[(.ref a1), (.int (4 : Int32))] 2 = mkF m 0 #[.val (.ref a1), .val (.int (4 : Int32))] [] := by first | (simp [entryFrame, mkF, argsToLocals, Value.category]; done) | rfl
def Q14_L4 (Z : State) (a1 : Addr) (k1 : ClassId) (vs : List Value) (h0 : Heap) (n0 : Nat) (v : Option Value) (h : Heap) (L : List Loc) : Prop := v = some (.int (0 : Int32)) ∧ Fr n0 L ∧ (h = h0)
set_option maxRecDepth 65536 in
set_option maxHeartbeats 40000000 in
theorem rm14_L4 (l : Launch) (Z : State) (a0 : Array Value) (hw : ∀ d ∈ tables_1, d.before a0 Z = true) (ws : List Jvm.Cond) (a1 : Addr) (k1 : ClassId) (vs : List Value) (h0 : Heap) (n0 : Nat) (Z0 : n0 ≤ h0.size) (V1 : Arv Z h0 a1 k1 .byte (4 : Int32) vs (.int (0 : Int32))) :
  MetFree l (⟨"java/lang/StringUTF16", "coderFromArrayLen", "([BI)B"⟩ : MethodName) (head1 (Jvm.Cond.code (⟨"java/lang/StringUTF16", "coderFromArrayLen", "([BI)B"⟩ : MethodName) jdk_52_method_15_code 2 (some .byte) :: ws) ({ frames := 0, cells := 0, slots := 0, locals := 0 } : Room)) (fun a U => a = #[(.ref a1), (.int (4 : Int32))] ∧ Z.Warmed39 U.vm ∧ U.heap = h0) (fun _ _ _ _ _ => True) (fun _ U o U' => ∃ v L, o = .returned v ∧ Q14_L4 Z a1 k1 vs h0 n0 v U'.heap L ∧ FrameEnd U o U' L ({ frames := 0, cells := 0, slots := 0, locals := 0 } : Room).cells ({ frames := 0, cells := 0, slots := 0, locals := 0 } : Room).slots) := by
 refine MetFree.of_bodySF pn14 hisR ?_
 intro p e s m args below meth c s₁ Bd hml0 hP hK
 obtain ⟨rfl, hZ, hh⟩ := hP
 have hx := Bd.exec
 have hby := Bd.bytes
 have hml : c.maxLocals = 2 := hml0
 have hown : s.vm.findClass "java/lang/StringUTF16" = some m.cls := findClass_of_methodNamed Bd.named
 have hnm := (name_of_methodNamed Bd.named Bd.method).1
 have X0 : Stand p l e ({ frames := 0, cells := 0, slots := 0, locals := 0 } : Room) s m #[(.ref a1), (.int (4 : Int32))] below meth c s₁ [] 0 0 := Stand.of_body Bd
 have e0 : s₁.heap = h0 := by rw [← hh, Bd.state]; rfl
 have N0 := Fr.nil n0
 have p0 : Go p.tables e below (s₁.setTop (entryFrame m #[(.ref a1), (.int (4 : Int32))] 2)) (s₁.setTop (mkF m 0 #[.val (.ref a1), .val (.int (4 : Int32))] [])) := fun t_ k_ => castTop (ef_rm14_L4 m a1 k1 vs) k_
 have p101 : Go p.tables e below _ (s₁.setTop (mkF m 2 #[.val (.ref a1), .val (.int (4 : Int32))] [(.ref a1), (.int (4 : Int32))])) := fun t_ k_ => p0 t_ (by
  refine XS.iloadN X0.here hx rfl (hb hby d14_0) rfl ?_
  refine XS.aloadN X0.here hx rfl (hb hby d14_1) rfl rfl ?_
  exact k_)
 obtain ⟨cl102, Ar102, -, S102, Ng102, -, -⟩ := id V1
 have p103 : Go p.tables e below _ (s₁.setTop (mkF m 8 #[.val (.ref a1), .val (.int (4 : Int32))] [(.int (0 : Int32))])) := fun t_ k_ => p101 t_ (by
  refine X0.arraylength hx (by rw [e0]; exact Ar102.1) (State.isArrayOf_alike hZ.alike Ar102.2.1) (g := (mkF m 2 #[.val (.ref a1), .val (.int (4 : Int32))] [(.ref a1), (.int (4 : Int32))])) rfl rfl (hb hby d14_2) _ ?_
  rw [len_of S102 Ng102]
  show Steps p.tables e below (s₁.setTop (mkF m 3 #[.val (.ref a1), .val (.int (4 : Int32))] [(.int (4 : Int32)), (.int (4 : Int32))])) _
  refine XS.isub X0.here hx rfl (hb hby d14_3) rfl ?_
  refine XS.bipush X0.here hx rfl (hb hby d14_4) ?_
  refine XS.iushr X0.here hx rfl (hb hby d14_6) rfl ?_
  refine XS.i2b X0.here hx rfl (hb hby d14_7) rfl ?_
  exact k_)
 obtain ⟨fs, hr, hrun, hended, hW, hsame⟩ := X0.leave (v := some (.int (0 : Int32))) (fun h => by rw [Bd.returns] at h; cases h)
 refine ⟨_, _, p103 _ (retN X0 hx (t := .byte) Bd.returns (by simp) (hb hby d14_8) hr), hrun, hended, _, _, rfl, ?_, ⟨_, rfl⟩, hW, hsame.mono (by decide) (by decide)⟩
 show Q14_L4 Z a1 k1 vs h0 n0 _ s₁.heap _
 rw [e0]
 exact ⟨rfl, N0, rfl⟩
theorem ef_rm3_L4 (m : MethodId) (a1 : Addr) (a2 : Addr) (k1 : ClassId) (c0 : Int32) (c1 : Int32) (c2 : Int32) (c3 : Int32) (cs1 : Int32) (fm : Value) : entryFrame m #[(.ref a1), (.ref a2), (.int (0 : Int32)), (.int (4 : Int32)), .null] 6 = mkF m 0 #[.val (.ref a1), .val (.ref a2), .val (.int (0 : Int32)), .val (.int (4 : Int32)), .val .null, .unset] [] := by first | (simp [entryFrame, mkF, argsToLocals, Value.category]; done) | rfl
def Q3_L4 (Z : State) (a1 : Addr) (a2 : Addr) (k1 : ClassId) (c0 : Int32) (c1 : Int32) (c2 : Int32) (c3 : Int32) (cs1 : Int32) (fm : Value) (h0 : Heap) (n0 : Nat) (v : Option Value) (h : Heap) (L : List Loc) : Prop := ∃ (b : Addr) (kb : ClassId), v = none ∧ Fr n0 L ∧ (Keep h0 h [a1]) ∧ (Exa Z h a1 "java/lang/String") ∧ (Fld Z h a1 "java/lang/String" "coder" "B" (.int (0 : Int32))) ∧ (Fld Z h a1 "java/lang/String" "value" "[B" (.ref b)) ∧ (n0 ≤ b) ∧ (h0.size ≤ b) ∧ (Arv Z h b kb .byte (4 : Int32) [(.int (own_xl c0)), (.int (own_xl c1)), (.int (own_xl c2)), (.int (own_xl c3))] (.int (0 : Int32))) ∧ (a1 ≠ b)
set_option maxRecDepth 65536 in
set_option maxHeartbeats 40000000 in
theorem rm3_L4 (l : Launch) (Z : State) (a0 : Array Value) (hw : ∀ d ∈ tables_1, d.before a0 Z = true) (ws : List Jvm.Cond) (a1 : Addr) (a2 : Addr) (k1 : ClassId) (c0 : Int32) (c1 : Int32) (c2 : Int32) (c3 : Int32) (cs1 : Int32) (fm : Value) (h0 : Heap) (n0 : Nat) (Z0 : n0 ≤ h0.size) (O1 : Old Z n0 h0) (G : own_G Z cs1 fm) (F1 : Fld Z h0 a1 "java/lang/String" "coder" "B" (.int (0 : Int32))) (F2 : Fld Z h0 a1 "java/lang/String" "value" "[B" .null) (E1 : Exa Z h0 a1 "java/lang/String") (V1 : Arv Z h0 a2 k1 .char (4 : Int32) [(.int c0), (.int c1), (.int c2), (.int c3)] (.int (0 : Int32))) (ne : a1 ≠ a2) (g1 : n0 ≤ a1) (l0 : ¬ ((255 : Int32) < c0)) (l1 : ¬ ((255 : Int32) < c1)) (l2 : ¬ ((255 : Int32) < c2)) (l3 : ¬ ((255 : Int32) < c3)) :
  MetFree l (⟨"java/lang/String", "<init>", "([CIILjava/lang/Void;)V"⟩ : MethodName) (head1 (Jvm.Cond.code (⟨"java/lang/String", "<init>", "([CIILjava/lang/Void;)V"⟩ : MethodName) jdk_42_method_149_code 6 none :: ws) ({ frames := 2, cells := 1, slots := 4, locals := 35 } : Room)) (fun a U => a = #[(.ref a1), (.ref a2), (.int (0 : Int32)), (.int (4 : Int32)), .null] ∧ Z.Warmed39 U.vm ∧ U.heap = h0) (fun _ _ _ _ _ => True) (fun _ U o U' => ∃ v L, o = .returned v ∧ Q3_L4 Z a1 a2 k1 c0 c1 c2 c3 cs1 fm h0 n0 v U'.heap L ∧ FrameEnd U o U' L ({ frames := 2, cells := 1, slots := 4, locals := 35 } : Room).cells ({ frames := 2, cells := 1, slots := 4, locals := 35 } : Room).slots) := by
 refine MetFree.of_bodySF pn3 hisR ?_
 intro p e s m args below meth c s₁ Bd hml0 hP hK
 obtain ⟨rfl, hZ, hh⟩ := hP
 have hx := Bd.exec
 have hby := Bd.bytes
 have hml : c.maxLocals = 6 := hml0
 have hown : s.vm.findClass "java/lang/String" = some m.cls := findClass_of_methodNamed Bd.named
 have hnm := (name_of_methodNamed Bd.named Bd.method).1
 have X0 : Stand p l e ({ frames := 2, cells := 1, slots := 4, locals := 35 } : Room) s m #[(.ref a1), (.ref a2), (.int (0 : Int32)), (.int (4 : Int32)), .null] below meth c s₁ [] 0 0 := Stand.of_body Bd
 have e0 : s₁.heap = h0 := by rw [← hh, Bd.state]; rfl
 have N0 := Fr.nil n0
 have p0 : Go p.tables e below (s₁.setTop (entryFrame m #[(.ref a1), (.ref a2), (.int (0 : Int32)), (.int (4 : Int32)), .null] 6)) (s₁.setTop (mkF m 0 #[.val (.ref a1), .val (.ref a2), .val (.int (0 : Int32)), .val (.int (4 : Int32)), .val .null, .unset] [])) := fun t_ k_ => castTop (ef_rm3_L4 m a1 a2 k1 c0 c1 c2 c3 cs1 fm) k_
 have p101 : Go p.tables e below _ (s₁.setTop (mkF m 1 #[.val (.ref a1), .val (.ref a2), .val (.int (0 : Int32)), .val (.int (4 : Int32)), .val .null, .unset] [(.ref a1)])) := fun t_ k_ => p0 t_ (by
  refine XS.aloadN X0.here hx rfl (hb hby d3_0) rfl rfl ?_
  exact k_)
 obtain ⟨T102, X102, e102, st102⟩ := initO X0 hx hZ hown (own_w hw 17 rfl) (own_w hw 18 rfl) (own_w hw 19 rfl) e0 (g := (mkF m 1 #[.val (.ref a1), .val (.ref a2), .val (.int (0 : Int32)), .val (.int (4 : Int32)), .val .null, .unset] [(.ref a1)])) rfl (by rw [hml]; rfl) rfl (hb hby d3_1) (by decide) (W := 0) (by show 2 * 0 + _ ≤ _; exact Nat.le_of_eq rfl) (by decide)
 have p103 : Go p.tables e below _ (T102.setTop (mkF m 27 #[.val (.ref a1), .val (.ref a2), .val (.int (0 : Int32)), .val (.int (4 : Int32)), .val .null, .unset] [])) := fun t_ k_ => (gc p101 st102) t_ (by
  refine XS.iloadN X102.here hx rfl (hb hby d3_4) rfl ?_
  refine XS.ifYes X102.here hx rfl (pc0 := 5) (pc' := 27) rfl (hb hby d3_5) rfl ((if0 _ _).trans (feq (by decide : ¬ ((4 : Int32) = (0 : Int32)))).2) (by decide) (by decide) ?_
  exact k_)
 obtain ⟨T104, X104, e104, st104⟩ := getS2 X102 hx hZ hown (host := "") (Or.inl (own_w hw 47 rfl)) Via.refl e102 (G.1.ext O1.2) (g := (mkF m 27 #[.val (.ref a1), .val (.ref a2), .val (.int (0 : Int32)), .val (.int (4 : Int32)), .val .null, .unset] [])) rfl (hb hby d3_27)
 have c105 : ¬ (cs1 = (0 : Int32)) := G.2.1
 have p106 : Go p.tables e below _ (T104.setTop (mkF m 36 #[.val (.ref a1), .val (.ref a2), .val (.int (0 : Int32)), .val (.int (4 : Int32)), .val .null, .unset] [(.int (4 : Int32)), (.int (0 : Int32)), (.ref a2)])) := fun t_ k_ => (gc p103 st104) t_ (by
  refine XS.ifNo X104.here hx rfl (hb hby d3_30) rfl ((if0 _ _).trans (feq c105).1) ?_
  refine XS.aloadN X104.here hx rfl (hb hby d3_33) rfl rfl ?_
  refine XS.iloadN X104.here hx rfl (hb hby d3_34) rfl ?_
  refine XS.iloadN X104.here hx rfl (hb hby d3_35) rfl ?_
  exact k_)
 obtain ⟨_, _, ⟨T107, L107, k107, n107⟩, -, X107, ⟨Lc107, hQ107, l107, y107, z107⟩, st107⟩ := Jvm.LawKit.callS X104 hx (y := (⟨"java/lang/StringUTF16", "compress", "([CII)[B"⟩ : MethodName)) hown (mvT hZ (own_w hw 66 rfl)) (mvT hZ (own_w hw 67 rfl)) (mvT hZ (own_w hw 68 rfl)) (mvT hZ (own_w hw 69 rfl)) (by decide) (backOf (W := 0) (rm12_L4 l Z a0 hw [] a2 k1 c0 c1 c2 c3 h0 n0 (Nat.le_trans Z0 (Keep.refl h0 [a1]).1) V1 l0 l1 l2 l3) hZ (own_w hw 69 rfl) (own_w hw 68 rfl) (by decide) (by decide)) (g := (mkF m 36 #[.val (.ref a1), .val (.ref a2), .val (.int (0 : Int32)), .val (.int (4 : Int32)), .val .null, .unset] [(.int (4 : Int32)), (.int (0 : Int32)), (.ref a2)])) rfl (by rw [hml]; rfl) (argsL := [(.ref a2), (.int (0 : Int32)), (.int (4 : Int32))]) (rest := []) (lenOf pd7 rfl) rfl (by show 2 * 0 + _ ≤ _; exact Nat.le_of_eq rfl) (hb hby d3_36) (fun _ _ => ⟨rfl, e104, (by decide : 0 + 1 ≤ _), (by decide : 0 + 4 ≤ _)⟩)
 dsimp only [Pt.U, Pt.locs, Pt.cells, Pt.slots] at X107 l107 y107 z107 st107 hQ107
 subst l107 y107 z107
 obtain ⟨x108, x109, rfl, N107q, q107_K, q107_g, q107_z, q107_V⟩ := hQ107
 have N107 := Fr.app N0 N107q
 have K110 : Keep h0 T107.heap [a1] := (Keep.refl h0 [a1]).trans q107_K all0
 have ne_a1_x108 : a1 ≠ x108 := Nat.ne_of_lt (Nat.lt_of_lt_of_le E1.lt q107_z)
 have ne_a2_x108 : a2 ≠ x108 := Nat.ne_of_lt (Nat.lt_of_lt_of_le V1.lt q107_z)
 have p111 : Go p.tables e below _ (T107.setTop (mkF m 45 #[.val (.ref a1), .val (.ref a2), .val (.int (0 : Int32)), .val (.int (4 : Int32)), .val .null, .val (.ref x108)] [(.int (4 : Int32)), (.ref x108), (.ref a1)])) := fun t_ k_ => (gc p106 st107) t_ (by
  refine XS.astore X107.here hx rfl (hb hby d3_39) rfl rfl (l' := #[.val (.ref a1), .val (.ref a2), .val (.int (0 : Int32)), .val (.int (4 : Int32)), .val .null, .val (.ref x108)]) rfl ?_
  refine XS.aloadN X107.here hx rfl (hb hby d3_41) rfl rfl ?_
  refine XS.aload X107.here hx rfl (hb hby d3_42) rfl rfl ?_
  refine XS.iloadN X107.here hx rfl (hb hby d3_44) rfl ?_
  exact k_)
 obtain ⟨_, _, ⟨T112, L112, k112, n112⟩, -, X112, ⟨Lc112, hQ112, l112, y112, z112⟩, st112⟩ := Jvm.LawKit.callS X107 hx (y := (⟨"java/lang/StringUTF16", "coderFromArrayLen", "([BI)B"⟩ : MethodName)) hown (mvT hZ (own_w hw 73 rfl)) (mvT hZ (own_w hw 74 rfl)) (mvT hZ (own_w hw 68 rfl)) (mvT hZ (own_w hw 75 rfl)) (by decide) (backOf (W := 1) (rm14_L4 l Z a0 hw [] x108 x109 [(.int (own_xl c0)), (.int (own_xl c1)), (.int (own_xl c2)), (.int (own_xl c3))] T107.heap n0 (Nat.le_trans Z0 K110.1) q107_V) hZ (own_w hw 75 rfl) (own_w hw 68 rfl) (by decide) (by decide)) (g := (mkF m 45 #[.val (.ref a1), .val (.ref a2), .val (.int (0 : Int32)), .val (.int (4 : Int32)), .val .null, .val (.ref x108)] [(.int (4 : Int32)), (.ref x108), (.ref a1)])) rfl (by rw [hml]; rfl) (argsL := [(.ref x108), (.int (4 : Int32))]) (rest := [(.ref a1)]) (lenOf pd8 rfl) rfl (by show 2 * 0 + _ ≤ _; exact Nat.le_of_eq rfl) (hb hby d3_45) (fun _ _ => ⟨rfl, rfl, (by decide : 1 + 0 ≤ _), (by decide : 4 + 0 ≤ _)⟩)
 dsimp only [Pt.U, Pt.locs, Pt.cells, Pt.slots] at X112 l112 y112 z112 st112 hQ112
 subst l112 y112 z112
 obtain ⟨rfl, N112q, q112_hh⟩ := hQ112
 have N112 := Fr.app N107 N112q
 have f113 := (F1.keep q107_K nin0)
 have f114 := (E1.keep q107_K)
 obtain ⟨T115, h115, X115, e115, W115, st115⟩ := putFN X112 hx hZ hown (own_w hw 27 rfl) Via.refl q112_hh f113 f114 (Or.inr ⟨(own_w hw 23 rfl), rfl, hnm⟩) (own_w hw 8 rfl) (ty := .byte) (v' := (.int (0 : Int32))) (by decide) rfl (by decide) (g := (mkF m 48 #[.val (.ref a1), .val (.ref a2), .val (.int (0 : Int32)), .val (.int (4 : Int32)), .val .null, .val (.ref x108)] [(.int (0 : Int32)), (.ref a1)])) rfl rfl (hb hby d3_48)
 have K116 : Keep h0 h115 [a1] := K110.wr W115 (Or.inl (List.mem_of_getElem? (i := 0) rfl))
 have N115 := Fr.snoc X115 N112 g1
 have F115 : Fld Z h115 a1 "java/lang/String" "coder" "B" (.int (0 : Int32)) := f113.same W115
 have p117 : Go p.tables e below _ (T115.setTop (mkF m 54 #[.val (.ref a1), .val (.ref a2), .val (.int (0 : Int32)), .val (.int (4 : Int32)), .val .null, .val (.ref x108)] [(.ref x108), (.ref a1)])) := fun t_ k_ => (gc (gc p111 st112) st115) t_ (by
  refine XS.aloadN X115.here hx rfl (hb hby d3_51) rfl rfl ?_
  refine XS.aload X115.here hx rfl (hb hby d3_52) rfl rfl ?_
  exact k_)
 have f118 := ((F2.keep q107_K nin0).other W115 (Or.inr (slot_ne (Or.inr (own_w hw 22 rfl)) (Or.inr (own_w hw 23 rfl)) (by decide) (t := (.array .byte)) (t' := .byte) (by decide) (by decide))))
 have f119 := (f114.wr W115)
 obtain ⟨T120, h120, X120, e120, W120, st120⟩ := putF X115 hx hZ hown (host := "") (Or.inl (own_w hw 26 rfl)) Via.refl e115 f118 f119 (Or.inr ⟨(own_w hw 22 rfl), rfl, hnm⟩) (own_w hw 8 rfl) (ty := (.array .byte)) (by decide) rfl rfl (g := (mkF m 54 #[.val (.ref a1), .val (.ref a2), .val (.int (0 : Int32)), .val (.int (4 : Int32)), .val .null, .val (.ref x108)] [(.ref x108), (.ref a1)])) rfl rfl (hb hby d3_54)
 have K121 : Keep h0 h120 [a1] := K116.wr W120 (Or.inl (List.mem_of_getElem? (i := 0) rfl))
 have N120 := Fr.snoc X120 N115 g1
 have F120 : Fld Z h120 a1 "java/lang/String" "value" "[B" (.ref x108) := f118.same W120
 have f122 := (f119.wr W120)
 have f123 := (F115.other W120 (Or.inr (slot_ne (Or.inr (own_w hw 23 rfl)) (Or.inr (own_w hw 22 rfl)) (by decide) (t := .byte) (t' := (.array .byte)) (by decide) (by decide))))
 have f124 := ((q107_V.other W115 (Ne.symm ne_a1_x108)).other W120 (Ne.symm ne_a1_x108))
 obtain ⟨fs, hr, hrun, hended, hW, hsame⟩ := X120.leave (v := none) (fun _ => rfl)
 refine ⟨_, _, (gc p117 st120) _ (X120.returnOut hx Bd.returns (hb hby d3_57) hr), hrun, hended, _, _, rfl, ?_, ⟨_, rfl⟩, hW, hsame.mono (by decide) (by decide)⟩
 show Q3_L4 Z a1 a2 k1 c0 c1 c2 c3 cs1 fm h0 n0 _ T120.heap _
 rw [e120]
 exact ⟨x108, x109, rfl, N120, K121, f122, f123, F120, q107_g, (Nat.le_trans (Keep.refl h0 [a1]).1 q107_z), f124, ne_a1_x108⟩
theorem ef_rm2_L4 (m : MethodId) (a1 : Addr) (a2 : Addr) (k1 : ClassId) (c0 : Int32) (c1 : Int32) (c2 : Int32) (c3 : Int32) (cs1 : Int32) (fm : Value) : entryFrame m #[(.ref a1), (.ref a2)] 2 = mkF m 0 #[.val (.ref a1), .val (.ref a2)] [] := by first | (simp [entryFrame, mkF, argsToLocals, Value.category]; done) | rfl
def Q2_L4 (Z : State) (a1 : Addr) (a2 : Addr) (k1 : ClassId) (c0 : Int32) (c1 : Int32) (c2 : Int32) (c3 : Int32) (cs1 : Int32) (fm : Value) (h0 : Heap) (n0 : Nat) (v : Option Value) (h : Heap) (L : List Loc) : Prop := ∃ (b : Addr) (kb : ClassId), v = none ∧ Fr n0 L ∧ (Keep h0 h [a1]) ∧ (Exa Z h a1 "java/lang/String") ∧ (Fld Z h a1 "java/lang/String" "coder" "B" (.int (0 : Int32))) ∧ (Fld Z h a1 "java/lang/String" "value" "[B" (.ref b)) ∧ (n0 ≤ b) ∧ (h0.size ≤ b) ∧ (Arv Z h b kb .byte (4 : Int32) [(.int (own_xl c0)), (.int (own_xl c1)), (.int (own_xl c2)), (.int (own_xl c3))] (.int (0 : Int32))) ∧ (a1 ≠ b)
set_option maxRecDepth 65536 in
set_option maxHeartbeats 40000000 in
theorem rm2_L4 (l : Launch) (Z : State) (a0 : Array Value) (hw : ∀ d ∈ tables_1, d.before a0 Z = true) (ws : List Jvm.Cond) (a1 : Addr) (a2 : Addr) (k1 : ClassId) (c0 : Int32) (c1 : Int32) (c2 : Int32) (c3 : Int32) (cs1 : Int32) (fm : Value) (h0 : Heap) (n0 : Nat) (Z0 : n0 ≤ h0.size) (O1 : Old Z n0 h0) (G : own_G Z cs1 fm) (F1 : Fld Z h0 a1 "java/lang/String" "coder" "B" (.int (0 : Int32))) (F2 : Fld Z h0 a1 "java/lang/String" "value" "[B" .null) (E1 : Exa Z h0 a1 "java/lang/String") (V1 : Arv Z h0 a2 k1 .char (4 : Int32) [(.int c0), (.int c1), (.int c2), (.int c3)] (.int (0 : Int32))) (ne : a1 ≠ a2) (g1 : n0 ≤ a1) (l0 : ¬ ((255 : Int32) < c0)) (l1 : ¬ ((255 : Int32) < c1)) (l2 : ¬ ((255 : Int32) < c2)) (l3 : ¬ ((255 : Int32) < c3)) :
  MetFree l (⟨"java/lang/String", "<init>", "([C)V"⟩ : MethodName) (head1 (Jvm.Cond.code (⟨"java/lang/String", "<init>", "([C)V"⟩ : MethodName) jdk_42_method_3_code 2 none :: ws) ({ frames := 3, cells := 1, slots := 4, locals := 52 } : Room)) (fun a U => a = #[(.ref a1), (.ref a2)] ∧ Z.Warmed39 U.vm ∧ U.heap = h0) (fun _ _ _ _ _ => True) (fun _ U o U' => ∃ v L, o = .returned v ∧ Q2_L4 Z a1 a2 k1 c0 c1 c2 c3 cs1 fm h0 n0 v U'.heap L ∧ FrameEnd U o U' L ({ frames := 3, cells := 1, slots := 4, locals := 52 } : Room).cells ({ frames := 3, cells := 1, slots := 4, locals := 52 } : Room).slots) := by
 refine MetFree.of_bodySF pn2 hisR ?_
 intro p e s m args below meth c s₁ Bd hml0 hP hK
 obtain ⟨rfl, hZ, hh⟩ := hP
 have hx := Bd.exec
 have hby := Bd.bytes
 have hml : c.maxLocals = 2 := hml0
 have hown : s.vm.findClass "java/lang/String" = some m.cls := findClass_of_methodNamed Bd.named
 have hnm := (name_of_methodNamed Bd.named Bd.method).1
 have X0 : Stand p l e ({ frames := 3, cells := 1, slots := 4, locals := 52 } : Room) s m #[(.ref a1), (.ref a2)] below meth c s₁ [] 0 0 := Stand.of_body Bd
 have e0 : s₁.heap = h0 := by rw [← hh, Bd.state]; rfl
 have N0 := Fr.nil n0
 have p0 : Go p.tables e below (s₁.setTop (entryFrame m #[(.ref a1), (.ref a2)] 2)) (s₁.setTop (mkF m 0 #[.val (.ref a1), .val (.ref a2)] [])) := fun t_ k_ => castTop (ef_rm2_L4 m a1 a2 k1 c0 c1 c2 c3 cs1 fm) k_
 have p101 : Go p.tables e below _ (s₁.setTop (mkF m 4 #[.val (.ref a1), .val (.ref a2)] [(.ref a2), (.int (0 : Int32)), (.ref a2), (.ref a1)])) := fun t_ k_ => p0 t_ (by
  refine XS.aloadN X0.here hx rfl (hb hby d2_0) rfl rfl ?_
  refine XS.aloadN X0.here hx rfl (hb hby d2_1) rfl rfl ?_
  refine XS.iconst X0.here hx rfl (hb hby d2_2) ?_
  refine XS.aloadN X0.here hx rfl (hb hby d2_3) rfl rfl ?_
  exact k_)
 obtain ⟨cl102, Ar102, -, S102, Ng102, -, -⟩ := id V1
 have p103 : Go p.tables e below _ (s₁.setTop (mkF m 6 #[.val (.ref a1), .val (.ref a2)] [.null, (.int (4 : Int32)), (.int (0 : Int32)), (.ref a2), (.ref a1)])) := fun t_ k_ => p101 t_ (by
  refine X0.arraylength hx (by rw [e0]; exact Ar102.1) (State.isArrayOf_alike hZ.alike Ar102.2.1) (g := (mkF m 4 #[.val (.ref a1), .val (.ref a2)] [(.ref a2), (.int (0 : Int32)), (.ref a2), (.ref a1)])) rfl rfl (hb hby d2_4) _ ?_
  rw [len_of S102 Ng102]
  show Steps p.tables e below (s₁.setTop (mkF m 5 #[.val (.ref a1), .val (.ref a2)] [(.int (4 : Int32)), (.int (0 : Int32)), (.ref a2), (.ref a1)])) _
  refine XS.aconstNull X0.here hx rfl (hb hby d2_5) ?_
  exact k_)
 obtain ⟨_, _, ⟨T104, L104, k104, n104⟩, -, X104, ⟨Lc104, hQ104, l104, y104, z104⟩, st104⟩ := X0.specialBack hx (y := (⟨"java/lang/String", "<init>", "([CIILjava/lang/Void;)V"⟩ : MethodName)) rfl hown (mvT hZ (own_w hw 13 rfl)) (mvT hZ (own_w hw 14 rfl)) (mvT hZ (own_w hw 16 rfl)) (by decide) (backOf (W := 0) (rm3_L4 l Z a0 hw [] a1 a2 k1 c0 c1 c2 c3 cs1 fm h0 n0 (Nat.le_trans Z0 (Keep.refl h0 [a1]).1) O1 G F1 F2 E1 V1 ne g1 l0 l1 l2 l3) hZ (own_w hw 16 rfl) (own_w hw 9 rfl) (by decide) (by decide)) (g := (mkF m 6 #[.val (.ref a1), .val (.ref a2)] [.null, (.int (4 : Int32)), (.int (0 : Int32)), (.ref a2), (.ref a1)])) rfl (by rw [hml]; rfl) (Steps.refl _) (a := a1) (argsL := [(.ref a2), (.int (0 : Int32)), (.int (4 : Int32)), .null]) (rest := []) (lenOf pd5 rfl) rfl (by show 2 * 0 + _ ≤ _; exact Nat.le_of_eq rfl) (hb hby d2_6) (fun _ _ => ⟨rfl, e0, (by decide : 0 + 1 ≤ _), (by decide : 0 + 4 ≤ _)⟩)
 dsimp only [Pt.U, Pt.locs, Pt.cells, Pt.slots] at X104 l104 y104 z104 st104 hQ104
 subst l104 y104 z104
 obtain ⟨x105, x106, rfl, N104q, q104_K, q104_E, q104_c, q104_v, q104_g, q104_z, q104_V, q104_n⟩ := hQ104
 have N104 := Fr.app N0 N104q
 have K107 : Keep h0 T104.heap [a1] := (Keep.refl h0 [a1]).trans q104_K (allS (Or.inl (List.mem_of_getElem? (i := 0) rfl)) all0)
 have ne_a1_x105 : a1 ≠ x105 := Nat.ne_of_lt (Nat.lt_of_lt_of_le E1.lt q104_z)
 have ne_a2_x105 : a2 ≠ x105 := Nat.ne_of_lt (Nat.lt_of_lt_of_le V1.lt q104_z)
 obtain ⟨fs, hr, hrun, hended, hW, hsame⟩ := X104.leave (v := none) (fun _ => rfl)
 refine ⟨_, _, (gcT p103 st104) _ (X104.returnOut hx Bd.returns (hb hby d2_9) hr), hrun, hended, _, _, rfl, ?_, ⟨_, rfl⟩, hW, hsame.mono (by decide) (by decide)⟩
 show Q2_L4 Z a1 a2 k1 c0 c1 c2 c3 cs1 fm h0 n0 _ T104.heap _
 exact ⟨x105, x106, rfl, N104, K107, q104_E, q104_c, q104_v, q104_g, (Nat.le_trans (Keep.refl h0 [a1]).1 q104_z), q104_V, q104_n⟩
theorem ef_rm12_L5 (m : MethodId) (a1 : Addr) (k1 : ClassId) (c0 : Int32) (c1 : Int32) (c2 : Int32) (c3 : Int32) (c4 : Int32) : entryFrame m #[(.ref a1), (.int (0 : Int32)), (.int (5 : Int32))] 6 = mkF m 0 #[.val (.ref a1), .val (.int (0 : Int32)), .val (.int (5 : Int32)), .unset, .unset, .unset] [] := by first | (simp [entryFrame, mkF, argsToLocals, Value.category]; done) | rfl
def Q12_L5 (Z : State) (a1 : Addr) (k1 : ClassId) (c0 : Int32) (c1 : Int32) (c2 : Int32) (c3 : Int32) (c4 : Int32) (h0 : Heap) (n0 : Nat) (v : Option Value) (h : Heap) (L : List Loc) : Prop := ∃ (b : Addr) (kb : ClassId), v = some (.ref b) ∧ Fr n0 L ∧ (Keep h0 h []) ∧ (n0 ≤ b) ∧ (h0.size ≤ b) ∧ (Arv Z h b kb .byte (5 : Int32) [(.int (own_xl c0)), (.int (own_xl c1)), (.int (own_xl c2)), (.int (own_xl c3)), (.int (own_xl c4))] (.int (0 : Int32)))
set_option maxRecDepth 65536 in
set_option maxHeartbeats 40000000 in
theorem rm12_L5 (l : Launch) (Z : State) (a0 : Array Value) (hw : ∀ d ∈ tables_1, d.before a0 Z = true) (ws : List Jvm.Cond) (a1 : Addr) (k1 : ClassId) (c0 : Int32) (c1 : Int32) (c2 : Int32) (c3 : Int32) (c4 : Int32) (h0 : Heap) (n0 : Nat) (Z0 : n0 ≤ h0.size) (V1 : Arv Z h0 a1 k1 .char (5 : Int32) [(.int c0), (.int c1), (.int c2), (.int c3), (.int c4)] (.int (0 : Int32))) (l0 : ¬ ((255 : Int32) < c0)) (l1 : ¬ ((255 : Int32) < c1)) (l2 : ¬ ((255 : Int32) < c2)) (l3 : ¬ ((255 : Int32) < c3)) (l4 : ¬ ((255 : Int32) < c4)) :
  MetFree l (⟨"java/lang/StringUTF16", "compress", "([CII)[B"⟩ : MethodName) (head1 (Jvm.Cond.code (⟨"java/lang/StringUTF16", "compress", "([CII)[B"⟩ : MethodName) jdk_52_method_16_code 6 (some (.array .byte)) :: ws) ({ frames := 1, cells := 1, slots := 5, locals := 18 } : Room)) (fun a U => a = #[(.ref a1), (.int (0 : Int32)), (.int (5 : Int32))] ∧ Z.Warmed39 U.vm ∧ U.heap = h0) (fun _ _ _ _ _ => True) (fun _ U o U' => ∃ v L, o = .returned v ∧ Q12_L5 Z a1 k1 c0 c1 c2 c3 c4 h0 n0 v U'.heap L ∧ FrameEnd U o U' L ({ frames := 1, cells := 1, slots := 5, locals := 18 } : Room).cells ({ frames := 1, cells := 1, slots := 5, locals := 18 } : Room).slots) := by
 refine MetFree.of_bodySF pn12 hisR ?_
 intro p e s m args below meth c s₁ Bd hml0 hP hK
 obtain ⟨rfl, hZ, hh⟩ := hP
 have hx := Bd.exec
 have hby := Bd.bytes
 have hml : c.maxLocals = 6 := hml0
 have hown : s.vm.findClass "java/lang/StringUTF16" = some m.cls := findClass_of_methodNamed Bd.named
 have hnm := (name_of_methodNamed Bd.named Bd.method).1
 have X0 : Stand p l e ({ frames := 1, cells := 1, slots := 5, locals := 18 } : Room) s m #[(.ref a1), (.int (0 : Int32)), (.int (5 : Int32))] below meth c s₁ [] 0 0 := Stand.of_body Bd
 have e0 : s₁.heap = h0 := by rw [← hh, Bd.state]; rfl
 have N0 := Fr.nil n0
 have p0 : Go p.tables e below (s₁.setTop (entryFrame m #[(.ref a1), (.int (0 : Int32)), (.int (5 : Int32))] 6)) (s₁.setTop (mkF m 0 #[.val (.ref a1), .val (.int (0 : Int32)), .val (.int (5 : Int32)), .unset, .unset, .unset] [])) := fun t_ k_ => castTop (ef_rm12_L5 m a1 k1 c0 c1 c2 c3 c4) k_
 have p101 : Go p.tables e below _ (s₁.setTop (mkF m 1 #[.val (.ref a1), .val (.int (0 : Int32)), .val (.int (5 : Int32)), .unset, .unset, .unset] [(.int (5 : Int32))])) := fun t_ k_ => p0 t_ (by
  refine XS.iloadN X0.here hx rfl (hb hby d12_0) rfl ?_
  exact k_)
 obtain ⟨T102, h102, k102, X102, e102, E102, A102, st102⟩ := newP X0 hx hZ (own_w hw 21 rfl) e0 (g := (mkF m 1 #[.val (.ref a1), .val (.int (0 : Int32)), .val (.int (5 : Int32)), .unset, .unset, .unset] [(.int (5 : Int32))])) rfl (hb hby d12_1) rfl (by decide) (cap := 5) (by decide) (by decide) (by decide) (by decide)
 obtain ⟨b102, g102⟩ : ∃ z, z = h0.size := ⟨_, rfl⟩
 rw [← g102] at A102 st102
 have ne_a1_b102 : a1 ≠ b102 := Nat.ne_of_lt (Nat.lt_of_lt_of_le V1.lt (Nat.le_of_eq g102.symm))
 have ge_b102 : n0 ≤ b102 := Nat.le_trans (Nat.le_trans Z0 (Keep.refl h0 []).1) (Nat.le_of_eq g102.symm)
 have sz_b102 : h0.size ≤ b102 := Nat.le_trans (Keep.refl h0 []).1 (Nat.le_of_eq g102.symm)
 have K103 : Keep h0 h102 [] := (Keep.refl h0 []).ext E102
 have V102 : Arv Z h102 b102 k102 .byte (5 : Int32) [(.int (0 : Int32)), (.int (0 : Int32)), (.int (0 : Int32)), (.int (0 : Int32)), (.int (0 : Int32))] (.int (0 : Int32)) := (Arv.new A102 (by decide)).pad (pad_rep [] (.int (0 : Int32)) 5)
 have p104 : Go p.tables e below _ (T102.setTop (mkF m 9 #[.val (.ref a1), .val (.int (0 : Int32)), .val (.int (5 : Int32)), .val (.ref b102), .unset, .unset] [(.int (5 : Int32)), (.int (0 : Int32)), (.ref b102), (.int (0 : Int32)), (.ref a1)])) := fun t_ k_ => (gc p101 st102) t_ (by
  refine XS.astoreN X102.here hx rfl (hb hby d12_3) rfl rfl (l' := #[.val (.ref a1), .val (.int (0 : Int32)), .val (.int (5 : Int32)), .val (.ref b102), .unset, .unset]) rfl ?_
  refine XS.aloadN X102.here hx rfl (hb hby d12_4) rfl rfl ?_
  refine XS.iloadN X102.here hx rfl (hb hby d12_5) rfl ?_
  refine XS.aloadN X102.here hx rfl (hb hby d12_6) rfl rfl ?_
  refine XS.iconst X102.here hx rfl (hb hby d12_7) ?_
  refine XS.iloadN X102.here hx rfl (hb hby d12_8) rfl ?_
  exact k_)
 have hl105 : ∀ j, j < 5 → ¬ ((255 : Int32) < own_at [c0, c1, c2, c3, c4] j) := by
  intro j hj
  rcases (by omega : j = 0 ∨ j = 1 ∨ j = 2 ∨ j = 3 ∨ j = 4) with rfl | rfl | rfl | rfl | rfl
  ·exact l0
  ·exact l1
  ·exact l2
  ·exact l3
  ·exact l4
 have f106 := (V1.ext E102)
 obtain ⟨_, _, ⟨T107, L107, k107, n107⟩, -, X107, ⟨Lc107, hQ107, l107, y107, z107⟩, st107⟩ := Jvm.LawKit.callS X102 hx (y := (⟨"java/lang/StringUTF16", "compress", "([CI[BII)I"⟩ : MethodName)) hown (mvT hZ (own_w hw 70 rfl)) (mvT hZ (own_w hw 71 rfl)) (mvT hZ (own_w hw 68 rfl)) (mvT hZ (own_w hw 72 rfl)) (by decide) (backOf (W := 0) (rm13_L l Z a0 hw [] a1 b102 k1 k102 [c0, c1, c2, c3, c4] 5 5 h102 n0 (Nat.le_trans Z0 K103.1) f106 V102 (by decide) rfl hl105 ne_a1_b102 ge_b102) hZ (own_w hw 72 rfl) (own_w hw 68 rfl) (by decide) (by decide)) (g := (mkF m 9 #[.val (.ref a1), .val (.int (0 : Int32)), .val (.int (5 : Int32)), .val (.ref b102), .unset, .unset] [(.int (5 : Int32)), (.int (0 : Int32)), (.ref b102), (.int (0 : Int32)), (.ref a1)])) rfl (by rw [hml]; rfl) (argsL := [(.ref a1), (.int (0 : Int32)), (.ref b102), (.int (0 : Int32)), (.int (5 : Int32))]) (rest := []) (lenOf pd6 rfl) rfl (by show 2 * 0 + _ ≤ _; exact Nat.le_of_eq rfl) (hb hby d12_9) (fun _ _ => ⟨rfl, e102, (by decide : 1 + 0 ≤ _), (by decide : 5 + 0 ≤ _)⟩)
 dsimp only [Pt.U, Pt.locs, Pt.cells, Pt.slots] at X107 l107 y107 z107 st107 hQ107
 subst l107 y107 z107
 obtain ⟨rfl, N107q, q107_K, q107_V⟩ := hQ107
 have N107 := Fr.app N0 N107q
 have K108 : Keep h0 T107.heap [] := K103.trans q107_K (allS (Or.inr sz_b102) all0)
 have f109 : Arv Z T107.heap b102 k102 .byte (5 : Int32) [(.int (own_xl c0)), (.int (own_xl c1)), (.int (own_xl c2)), (.int (own_xl c3)), (.int (own_xl c4))] (.int (0 : Int32)) := q107_V
 have p110 : Go p.tables e below _ (T107.setTop (mkF m 12 #[.val (.ref a1), .val (.int (0 : Int32)), .val (.int (5 : Int32)), .val (.ref b102), .unset, .unset] [(.int (5 : Int32))])) := (gc p104 st107)
 have p111 : Go p.tables e below _ (T107.setTop (mkF m 58 #[.val (.ref a1), .val (.int (0 : Int32)), .val (.int (5 : Int32)), .val (.ref b102), .val (.int (5 : Int32)), .unset] [(.ref b102)])) := fun t_ k_ => p110 t_ (by
  refine XS.istore X107.here hx rfl (hb hby d12_12) rfl (l' := #[.val (.ref a1), .val (.int (0 : Int32)), .val (.int (5 : Int32)), .val (.ref b102), .val (.int (5 : Int32)), .unset]) rfl ?_
  refine XS.iload X107.here hx rfl (hb hby d12_14) rfl ?_
  refine XS.iloadN X107.here hx rfl (hb hby d12_16) rfl ?_
  refine XS.icmpYes X107.here hx rfl (pc0 := 17) (pc' := 57) rfl (hb hby d12_17) rfl (teq (by decide : ((5 : Int32) = (5 : Int32)))).1 (by decide) (by decide) ?_
  refine XS.aloadN X107.here hx rfl (hb hby d12_57) rfl rfl ?_
  exact k_)
 obtain ⟨fs, hr, hrun, hended, hW, hsame⟩ := X107.leave (v := some (.ref b102)) (fun h => by rw [Bd.returns] at h; cases h)
 refine ⟨_, _, p111 _ (retOut X107 hx (w := (.ref b102)) (i := .areturn) Bd.returns rfl (Or.inr (Or.inr (Or.inr (Or.inr ⟨rfl, rfl, rfl⟩)))) (hb hby d12_58) hr), hrun, hended, _, _, rfl, ?_, ⟨_, rfl⟩, hW, hsame.mono (by decide) (by decide)⟩
 show Q12_L5 Z a1 k1 c0 c1 c2 c3 c4 h0 n0 _ T107.heap _
 exact ⟨b102, k102, rfl, N107, K108, ge_b102, sz_b102, f109⟩
theorem ef_rm14_L5 (m : MethodId) (a1 : Addr) (k1 : ClassId) (vs : List Value) : entryFrame m #[(.ref a1), (.int (5 : Int32))] 2 = mkF m 0 #[.val (.ref a1), .val (.int (5 : Int32))] [] := by first | (simp [entryFrame, mkF, argsToLocals, Value.category]; done) | rfl
def Q14_L5 (Z : State) (a1 : Addr) (k1 : ClassId) (vs : List Value) (h0 : Heap) (n0 : Nat) (v : Option Value) (h : Heap) (L : List Loc) : Prop := v = some (.int (0 : Int32)) ∧ Fr n0 L ∧ (h = h0)
set_option maxRecDepth 65536 in
set_option maxHeartbeats 40000000 in
theorem rm14_L5 (l : Launch) (Z : State) (a0 : Array Value) (hw : ∀ d ∈ tables_1, d.before a0 Z = true) (ws : List Jvm.Cond) (a1 : Addr) (k1 : ClassId) (vs : List Value) (h0 : Heap) (n0 : Nat) (Z0 : n0 ≤ h0.size) (V1 : Arv Z h0 a1 k1 .byte (5 : Int32) vs (.int (0 : Int32))) :
  MetFree l (⟨"java/lang/StringUTF16", "coderFromArrayLen", "([BI)B"⟩ : MethodName) (head1 (Jvm.Cond.code (⟨"java/lang/StringUTF16", "coderFromArrayLen", "([BI)B"⟩ : MethodName) jdk_52_method_15_code 2 (some .byte) :: ws) ({ frames := 0, cells := 0, slots := 0, locals := 0 } : Room)) (fun a U => a = #[(.ref a1), (.int (5 : Int32))] ∧ Z.Warmed39 U.vm ∧ U.heap = h0) (fun _ _ _ _ _ => True) (fun _ U o U' => ∃ v L, o = .returned v ∧ Q14_L5 Z a1 k1 vs h0 n0 v U'.heap L ∧ FrameEnd U o U' L ({ frames := 0, cells := 0, slots := 0, locals := 0 } : Room).cells ({ frames := 0, cells := 0, slots := 0, locals := 0 } : Room).slots) := by
 refine MetFree.of_bodySF pn14 hisR ?_
 intro p e s m args below meth c s₁ Bd hml0 hP hK
 obtain ⟨rfl, hZ, hh⟩ := hP
 have hx := Bd.exec
 have hby := Bd.bytes
 have hml : c.maxLocals = 2 := hml0
 have hown : s.vm.findClass "java/lang/StringUTF16" = some m.cls := findClass_of_methodNamed Bd.named
 have hnm := (name_of_methodNamed Bd.named Bd.method).1
 have X0 : Stand p l e ({ frames := 0, cells := 0, slots := 0, locals := 0 } : Room) s m #[(.ref a1), (.int (5 : Int32))] below meth c s₁ [] 0 0 := Stand.of_body Bd
 have e0 : s₁.heap = h0 := by rw [← hh, Bd.state]; rfl
 have N0 := Fr.nil n0
 have p0 : Go p.tables e below (s₁.setTop (entryFrame m #[(.ref a1), (.int (5 : Int32))] 2)) (s₁.setTop (mkF m 0 #[.val (.ref a1), .val (.int (5 : Int32))] [])) := fun t_ k_ => castTop (ef_rm14_L5 m a1 k1 vs) k_
 have p101 : Go p.tables e below _ (s₁.setTop (mkF m 2 #[.val (.ref a1), .val (.int (5 : Int32))] [(.ref a1), (.int (5 : Int32))])) := fun t_ k_ => p0 t_ (by
  refine XS.iloadN X0.here hx rfl (hb hby d14_0) rfl ?_
  refine XS.aloadN X0.here hx rfl (hb hby d14_1) rfl rfl ?_
  exact k_)
 obtain ⟨cl102, Ar102, -, S102, Ng102, -, -⟩ := id V1
 have p103 : Go p.tables e below _ (s₁.setTop (mkF m 8 #[.val (.ref a1), .val (.int (5 : Int32))] [(.int (0 : Int32))])) := fun t_ k_ => p101 t_ (by
  refine X0.arraylength hx (by rw [e0]; exact Ar102.1) (State.isArrayOf_alike hZ.alike Ar102.2.1) (g := (mkF m 2 #[.val (.ref a1), .val (.int (5 : Int32))] [(.ref a1), (.int (5 : Int32))])) rfl rfl (hb hby d14_2) _ ?_
  rw [len_of S102 Ng102]
  show Steps p.tables e below (s₁.setTop (mkF m 3 #[.val (.ref a1), .val (.int (5 : Int32))] [(.int (5 : Int32)), (.int (5 : Int32))])) _
  refine XS.isub X0.here hx rfl (hb hby d14_3) rfl ?_
  refine XS.bipush X0.here hx rfl (hb hby d14_4) ?_
  refine XS.iushr X0.here hx rfl (hb hby d14_6) rfl ?_
  refine XS.i2b X0.here hx rfl (hb hby d14_7) rfl ?_
  exact k_)
 obtain ⟨fs, hr, hrun, hended, hW, hsame⟩ := X0.leave (v := some (.int (0 : Int32))) (fun h => by rw [Bd.returns] at h; cases h)
 refine ⟨_, _, p103 _ (retN X0 hx (t := .byte) Bd.returns (by simp) (hb hby d14_8) hr), hrun, hended, _, _, rfl, ?_, ⟨_, rfl⟩, hW, hsame.mono (by decide) (by decide)⟩
 show Q14_L5 Z a1 k1 vs h0 n0 _ s₁.heap _
 rw [e0]
 exact ⟨rfl, N0, rfl⟩
theorem ef_rm3_L5 (m : MethodId) (a1 : Addr) (a2 : Addr) (k1 : ClassId) (c0 : Int32) (c1 : Int32) (c2 : Int32) (c3 : Int32) (c4 : Int32) (cs1 : Int32) (fm : Value) : entryFrame m #[(.ref a1), (.ref a2), (.int (0 : Int32)), (.int (5 : Int32)), .null] 6 = mkF m 0 #[.val (.ref a1), .val (.ref a2), .val (.int (0 : Int32)), .val (.int (5 : Int32)), .val .null, .unset] [] := by first | (simp [entryFrame, mkF, argsToLocals, Value.category]; done) | rfl
def Q3_L5 (Z : State) (a1 : Addr) (a2 : Addr) (k1 : ClassId) (c0 : Int32) (c1 : Int32) (c2 : Int32) (c3 : Int32) (c4 : Int32) (cs1 : Int32) (fm : Value) (h0 : Heap) (n0 : Nat) (v : Option Value) (h : Heap) (L : List Loc) : Prop := ∃ (b : Addr) (kb : ClassId), v = none ∧ Fr n0 L ∧ (Keep h0 h [a1]) ∧ (Exa Z h a1 "java/lang/String") ∧ (Fld Z h a1 "java/lang/String" "coder" "B" (.int (0 : Int32))) ∧ (Fld Z h a1 "java/lang/String" "value" "[B" (.ref b)) ∧ (n0 ≤ b) ∧ (h0.size ≤ b) ∧ (Arv Z h b kb .byte (5 : Int32) [(.int (own_xl c0)), (.int (own_xl c1)), (.int (own_xl c2)), (.int (own_xl c3)), (.int (own_xl c4))] (.int (0 : Int32))) ∧ (a1 ≠ b)
set_option maxRecDepth 65536 in
set_option maxHeartbeats 40000000 in
theorem rm3_L5 (l : Launch) (Z : State) (a0 : Array Value) (hw : ∀ d ∈ tables_1, d.before a0 Z = true) (ws : List Jvm.Cond) (a1 : Addr) (a2 : Addr) (k1 : ClassId) (c0 : Int32) (c1 : Int32) (c2 : Int32) (c3 : Int32) (c4 : Int32) (cs1 : Int32) (fm : Value) (h0 : Heap) (n0 : Nat) (Z0 : n0 ≤ h0.size) (O1 : Old Z n0 h0) (G : own_G Z cs1 fm) (F1 : Fld Z h0 a1 "java/lang/String" "coder" "B" (.int (0 : Int32))) (F2 : Fld Z h0 a1 "java/lang/String" "value" "[B" .null) (E1 : Exa Z h0 a1 "java/lang/String") (V1 : Arv Z h0 a2 k1 .char (5 : Int32) [(.int c0), (.int c1), (.int c2), (.int c3), (.int c4)] (.int (0 : Int32))) (ne : a1 ≠ a2) (g1 : n0 ≤ a1) (l0 : ¬ ((255 : Int32) < c0)) (l1 : ¬ ((255 : Int32) < c1)) (l2 : ¬ ((255 : Int32) < c2)) (l3 : ¬ ((255 : Int32) < c3)) (l4 : ¬ ((255 : Int32) < c4)) :
  MetFree l (⟨"java/lang/String", "<init>", "([CIILjava/lang/Void;)V"⟩ : MethodName) (head1 (Jvm.Cond.code (⟨"java/lang/String", "<init>", "([CIILjava/lang/Void;)V"⟩ : MethodName) jdk_42_method_149_code 6 none :: ws) ({ frames := 2, cells := 1, slots := 5, locals := 35 } : Room)) (fun a U => a = #[(.ref a1), (.ref a2), (.int (0 : Int32)), (.int (5 : Int32)), .null] ∧ Z.Warmed39 U.vm ∧ U.heap = h0) (fun _ _ _ _ _ => True) (fun _ U o U' => ∃ v L, o = .returned v ∧ Q3_L5 Z a1 a2 k1 c0 c1 c2 c3 c4 cs1 fm h0 n0 v U'.heap L ∧ FrameEnd U o U' L ({ frames := 2, cells := 1, slots := 5, locals := 35 } : Room).cells ({ frames := 2, cells := 1, slots := 5, locals := 35 } : Room).slots) := by
 refine MetFree.of_bodySF pn3 hisR ?_
 intro p e s m args below meth c s₁ Bd hml0 hP hK
 obtain ⟨rfl, hZ, hh⟩ := hP
 have hx := Bd.exec
 have hby := Bd.bytes
 have hml : c.maxLocals = 6 := hml0
 have hown : s.vm.findClass "java/lang/String" = some m.cls := findClass_of_methodNamed Bd.named
 have hnm := (name_of_methodNamed Bd.named Bd.method).1
 have X0 : Stand p l e ({ frames := 2, cells := 1, slots := 5, locals := 35 } : Room) s m #[(.ref a1), (.ref a2), (.int (0 : Int32)), (.int (5 : Int32)), .null] below meth c s₁ [] 0 0 := Stand.of_body Bd
 have e0 : s₁.heap = h0 := by rw [← hh, Bd.state]; rfl
 have N0 := Fr.nil n0
 have p0 : Go p.tables e below (s₁.setTop (entryFrame m #[(.ref a1), (.ref a2), (.int (0 : Int32)), (.int (5 : Int32)), .null] 6)) (s₁.setTop (mkF m 0 #[.val (.ref a1), .val (.ref a2), .val (.int (0 : Int32)), .val (.int (5 : Int32)), .val .null, .unset] [])) := fun t_ k_ => castTop (ef_rm3_L5 m a1 a2 k1 c0 c1 c2 c3 c4 cs1 fm) k_
 have p101 : Go p.tables e below _ (s₁.setTop (mkF m 1 #[.val (.ref a1), .val (.ref a2), .val (.int (0 : Int32)), .val (.int (5 : Int32)), .val .null, .unset] [(.ref a1)])) := fun t_ k_ => p0 t_ (by
  refine XS.aloadN X0.here hx rfl (hb hby d3_0) rfl rfl ?_
  exact k_)
 obtain ⟨T102, X102, e102, st102⟩ := initO X0 hx hZ hown (own_w hw 17 rfl) (own_w hw 18 rfl) (own_w hw 19 rfl) e0 (g := (mkF m 1 #[.val (.ref a1), .val (.ref a2), .val (.int (0 : Int32)), .val (.int (5 : Int32)), .val .null, .unset] [(.ref a1)])) rfl (by rw [hml]; rfl) rfl (hb hby d3_1) (by decide) (W := 0) (by show 2 * 0 + _ ≤ _; exact Nat.le_of_eq rfl) (by decide)
 have p103 : Go p.tables e below _ (T102.setTop (mkF m 27 #[.val (.ref a1), .val (.ref a2), .val (.int (0 : Int32)), .val (.int (5 : Int32)), .val .null, .unset] [])) := fun t_ k_ => (gc p101 st102) t_ (by
  refine XS.iloadN X102.here hx rfl (hb hby d3_4) rfl ?_
  refine XS.ifYes X102.here hx rfl (pc0 := 5) (pc' := 27) rfl (hb hby d3_5) rfl ((if0 _ _).trans (feq (by decide : ¬ ((5 : Int32) = (0 : Int32)))).2) (by decide) (by decide) ?_
  exact k_)
 obtain ⟨T104, X104, e104, st104⟩ := getS2 X102 hx hZ hown (host := "") (Or.inl (own_w hw 47 rfl)) Via.refl e102 (G.1.ext O1.2) (g := (mkF m 27 #[.val (.ref a1), .val (.ref a2), .val (.int (0 : Int32)), .val (.int (5 : Int32)), .val .null, .unset] [])) rfl (hb hby d3_27)
 have c105 : ¬ (cs1 = (0 : Int32)) := G.2.1
 have p106 : Go p.tables e below _ (T104.setTop (mkF m 36 #[.val (.ref a1), .val (.ref a2), .val (.int (0 : Int32)), .val (.int (5 : Int32)), .val .null, .unset] [(.int (5 : Int32)), (.int (0 : Int32)), (.ref a2)])) := fun t_ k_ => (gc p103 st104) t_ (by
  refine XS.ifNo X104.here hx rfl (hb hby d3_30) rfl ((if0 _ _).trans (feq c105).1) ?_
  refine XS.aloadN X104.here hx rfl (hb hby d3_33) rfl rfl ?_
  refine XS.iloadN X104.here hx rfl (hb hby d3_34) rfl ?_
  refine XS.iloadN X104.here hx rfl (hb hby d3_35) rfl ?_
  exact k_)
 obtain ⟨_, _, ⟨T107, L107, k107, n107⟩, -, X107, ⟨Lc107, hQ107, l107, y107, z107⟩, st107⟩ := Jvm.LawKit.callS X104 hx (y := (⟨"java/lang/StringUTF16", "compress", "([CII)[B"⟩ : MethodName)) hown (mvT hZ (own_w hw 66 rfl)) (mvT hZ (own_w hw 67 rfl)) (mvT hZ (own_w hw 68 rfl)) (mvT hZ (own_w hw 69 rfl)) (by decide) (backOf (W := 0) (rm12_L5 l Z a0 hw [] a2 k1 c0 c1 c2 c3 c4 h0 n0 (Nat.le_trans Z0 (Keep.refl h0 [a1]).1) V1 l0 l1 l2 l3 l4) hZ (own_w hw 69 rfl) (own_w hw 68 rfl) (by decide) (by decide)) (g := (mkF m 36 #[.val (.ref a1), .val (.ref a2), .val (.int (0 : Int32)), .val (.int (5 : Int32)), .val .null, .unset] [(.int (5 : Int32)), (.int (0 : Int32)), (.ref a2)])) rfl (by rw [hml]; rfl) (argsL := [(.ref a2), (.int (0 : Int32)), (.int (5 : Int32))]) (rest := []) (lenOf pd7 rfl) rfl (by show 2 * 0 + _ ≤ _; exact Nat.le_of_eq rfl) (hb hby d3_36) (fun _ _ => ⟨rfl, e104, (by decide : 0 + 1 ≤ _), (by decide : 0 + 5 ≤ _)⟩)
 dsimp only [Pt.U, Pt.locs, Pt.cells, Pt.slots] at X107 l107 y107 z107 st107 hQ107
 subst l107 y107 z107
 obtain ⟨x108, x109, rfl, N107q, q107_K, q107_g, q107_z, q107_V⟩ := hQ107
 have N107 := Fr.app N0 N107q
 have K110 : Keep h0 T107.heap [a1] := (Keep.refl h0 [a1]).trans q107_K all0
 have ne_a1_x108 : a1 ≠ x108 := Nat.ne_of_lt (Nat.lt_of_lt_of_le E1.lt q107_z)
 have ne_a2_x108 : a2 ≠ x108 := Nat.ne_of_lt (Nat.lt_of_lt_of_le V1.lt q107_z)
 have p111 : Go p.tables e below _ (T107.setTop (mkF m 45 #[.val (.ref a1), .val (.ref a2), .val (.int (0 : Int32)), .val (.int (5 : Int32)), .val .null, .val (.ref x108)] [(.int (5 : Int32)), (.ref x108), (.ref a1)])) := fun t_ k_ => (gc p106 st107) t_ (by
  refine XS.astore X107.here hx rfl (hb hby d3_39) rfl rfl (l' := #[.val (.ref a1), .val (.ref a2), .val (.int (0 : Int32)), .val (.int (5 : Int32)), .val .null, .val (.ref x108)]) rfl ?_
  refine XS.aloadN X107.here hx rfl (hb hby d3_41) rfl rfl ?_
  refine XS.aload X107.here hx rfl (hb hby d3_42) rfl rfl ?_
  refine XS.iloadN X107.here hx rfl (hb hby d3_44) rfl ?_
  exact k_)
 obtain ⟨_, _, ⟨T112, L112, k112, n112⟩, -, X112, ⟨Lc112, hQ112, l112, y112, z112⟩, st112⟩ := Jvm.LawKit.callS X107 hx (y := (⟨"java/lang/StringUTF16", "coderFromArrayLen", "([BI)B"⟩ : MethodName)) hown (mvT hZ (own_w hw 73 rfl)) (mvT hZ (own_w hw 74 rfl)) (mvT hZ (own_w hw 68 rfl)) (mvT hZ (own_w hw 75 rfl)) (by decide) (backOf (W := 1) (rm14_L5 l Z a0 hw [] x108 x109 [(.int (own_xl c0)), (.int (own_xl c1)), (.int (own_xl c2)), (.int (own_xl c3)), (.int (own_xl c4))] T107.heap n0 (Nat.le_trans Z0 K110.1) q107_V) hZ (own_w hw 75 rfl) (own_w hw 68 rfl) (by decide) (by decide)) (g := (mkF m 45 #[.val (.ref a1), .val (.ref a2), .val (.int (0 : Int32)), .val (.int (5 : Int32)), .val .null, .val (.ref x108)] [(.int (5 : Int32)), (.ref x108), (.ref a1)])) rfl (by rw [hml]; rfl) (argsL := [(.ref x108), (.int (5 : Int32))]) (rest := [(.ref a1)]) (lenOf pd8 rfl) rfl (by show 2 * 0 + _ ≤ _; exact Nat.le_of_eq rfl) (hb hby d3_45) (fun _ _ => ⟨rfl, rfl, (by decide : 1 + 0 ≤ _), (by decide : 5 + 0 ≤ _)⟩)
 dsimp only [Pt.U, Pt.locs, Pt.cells, Pt.slots] at X112 l112 y112 z112 st112 hQ112
 subst l112 y112 z112
 obtain ⟨rfl, N112q, q112_hh⟩ := hQ112
 have N112 := Fr.app N107 N112q
 have f113 := (F1.keep q107_K nin0)
 have f114 := (E1.keep q107_K)
 obtain ⟨T115, h115, X115, e115, W115, st115⟩ := putFN X112 hx hZ hown (own_w hw 27 rfl) Via.refl q112_hh f113 f114 (Or.inr ⟨(own_w hw 23 rfl), rfl, hnm⟩) (own_w hw 8 rfl) (ty := .byte) (v' := (.int (0 : Int32))) (by decide) rfl (by decide) (g := (mkF m 48 #[.val (.ref a1), .val (.ref a2), .val (.int (0 : Int32)), .val (.int (5 : Int32)), .val .null, .val (.ref x108)] [(.int (0 : Int32)), (.ref a1)])) rfl rfl (hb hby d3_48)
 have K116 : Keep h0 h115 [a1] := K110.wr W115 (Or.inl (List.mem_of_getElem? (i := 0) rfl))
 have N115 := Fr.snoc X115 N112 g1
 have F115 : Fld Z h115 a1 "java/lang/String" "coder" "B" (.int (0 : Int32)) := f113.same W115
 have p117 : Go p.tables e below _ (T115.setTop (mkF m 54 #[.val (.ref a1), .val (.ref a2), .val (.int (0 : Int32)), .val (.int (5 : Int32)), .val .null, .val (.ref x108)] [(.ref x108), (.ref a1)])) := fun t_ k_ => (gc (gc p111 st112) st115) t_ (by
  refine XS.aloadN X115.here hx rfl (hb hby d3_51) rfl rfl ?_
  refine XS.aload X115.here hx rfl (hb hby d3_52) rfl rfl ?_
  exact k_)
 have f118 := ((F2.keep q107_K nin0).other W115 (Or.inr (slot_ne (Or.inr (own_w hw 22 rfl)) (Or.inr (own_w hw 23 rfl)) (by decide) (t := (.array .byte)) (t' := .byte) (by decide) (by decide))))
 have f119 := (f114.wr W115)
 obtain ⟨T120, h120, X120, e120, W120, st120⟩ := putF X115 hx hZ hown (host := "") (Or.inl (own_w hw 26 rfl)) Via.refl e115 f118 f119 (Or.inr ⟨(own_w hw 22 rfl), rfl, hnm⟩) (own_w hw 8 rfl) (ty := (.array .byte)) (by decide) rfl rfl (g := (mkF m 54 #[.val (.ref a1), .val (.ref a2), .val (.int (0 : Int32)), .val (.int (5 : Int32)), .val .null, .val (.ref x108)] [(.ref x108), (.ref a1)])) rfl rfl (hb hby d3_54)
 have K121 : Keep h0 h120 [a1] := K116.wr W120 (Or.inl (List.mem_of_getElem? (i := 0) rfl))
 have N120 := Fr.snoc X120 N115 g1
 have F120 : Fld Z h120 a1 "java/lang/String" "value" "[B" (.ref x108) := f118.same W120
 have f122 := (f119.wr W120)
 have f123 := (F115.other W120 (Or.inr (slot_ne (Or.inr (own_w hw 23 rfl)) (Or.inr (own_w hw 22 rfl)) (by decide) (t := .byte) (t' := (.array .byte)) (by decide) (by decide))))
 have f124 := ((q107_V.other W115 (Ne.symm ne_a1_x108)).other W120 (Ne.symm ne_a1_x108))
 obtain ⟨fs, hr, hrun, hended, hW, hsame⟩ := X120.leave (v := none) (fun _ => rfl)
 refine ⟨_, _, (gc p117 st120) _ (X120.returnOut hx Bd.returns (hb hby d3_57) hr), hrun, hended, _, _, rfl, ?_, ⟨_, rfl⟩, hW, hsame.mono (by decide) (by decide)⟩
 show Q3_L5 Z a1 a2 k1 c0 c1 c2 c3 c4 cs1 fm h0 n0 _ T120.heap _
 rw [e120]
 exact ⟨x108, x109, rfl, N120, K121, f122, f123, F120, q107_g, (Nat.le_trans (Keep.refl h0 [a1]).1 q107_z), f124, ne_a1_x108⟩
theorem ef_rm2_L5 (m : MethodId) (a1 : Addr) (a2 : Addr) (k1 : ClassId) (c0 : Int32) (c1 : Int32) (c2 : Int32) (c3 : Int32) (c4 : Int32) (cs1 : Int32) (fm : Value) : entryFrame m #[(.ref a1), (.ref a2)] 2 = mkF m 0 #[.val (.ref a1), .val (.ref a2)] [] := by first | (simp [entryFrame, mkF, argsToLocals, Value.category]; done) | rfl
def Q2_L5 (Z : State) (a1 : Addr) (a2 : Addr) (k1 : ClassId) (c0 : Int32) (c1 : Int32) (c2 : Int32) (c3 : Int32) (c4 : Int32) (cs1 : Int32) (fm : Value) (h0 : Heap) (n0 : Nat) (v : Option Value) (h : Heap) (L : List Loc) : Prop := ∃ (b : Addr) (kb : ClassId), v = none ∧ Fr n0 L ∧ (Keep h0 h [a1]) ∧ (Exa Z h a1 "java/lang/String") ∧ (Fld Z h a1 "java/lang/String" "coder" "B" (.int (0 : Int32))) ∧ (Fld Z h a1 "java/lang/String" "value" "[B" (.ref b)) ∧ (n0 ≤ b) ∧ (h0.size ≤ b) ∧ (Arv Z h b kb .byte (5 : Int32) [(.int (own_xl c0)), (.int (own_xl c1)), (.int (own_xl c2)), (.int (own_xl c3)), (.int (own_xl c4))] (.int (0 : Int32))) ∧ (a1 ≠ b)
set_option maxRecDepth 65536 in
set_option maxHeartbeats 40000000 in
theorem rm2_L5 (l : Launch) (Z : State) (a0 : Array Value) (hw : ∀ d ∈ tables_1, d.before a0 Z = true) (ws : List Jvm.Cond) (a1 : Addr) (a2 : Addr) (k1 : ClassId) (c0 : Int32) (c1 : Int32) (c2 : Int32) (c3 : Int32) (c4 : Int32) (cs1 : Int32) (fm : Value) (h0 : Heap) (n0 : Nat) (Z0 : n0 ≤ h0.size) (O1 : Old Z n0 h0) (G : own_G Z cs1 fm) (F1 : Fld Z h0 a1 "java/lang/String" "coder" "B" (.int (0 : Int32))) (F2 : Fld Z h0 a1 "java/lang/String" "value" "[B" .null) (E1 : Exa Z h0 a1 "java/lang/String") (V1 : Arv Z h0 a2 k1 .char (5 : Int32) [(.int c0), (.int c1), (.int c2), (.int c3), (.int c4)] (.int (0 : Int32))) (ne : a1 ≠ a2) (g1 : n0 ≤ a1) (l0 : ¬ ((255 : Int32) < c0)) (l1 : ¬ ((255 : Int32) < c1)) (l2 : ¬ ((255 : Int32) < c2)) (l3 : ¬ ((255 : Int32) < c3)) (l4 : ¬ ((255 : Int32) < c4)) :
  MetFree l (⟨"java/lang/String", "<init>", "([C)V"⟩ : MethodName) (head1 (Jvm.Cond.code (⟨"java/lang/String", "<init>", "([C)V"⟩ : MethodName) jdk_42_method_3_code 2 none :: ws) ({ frames := 3, cells := 1, slots := 5, locals := 52 } : Room)) (fun a U => a = #[(.ref a1), (.ref a2)] ∧ Z.Warmed39 U.vm ∧ U.heap = h0) (fun _ _ _ _ _ => True) (fun _ U o U' => ∃ v L, o = .returned v ∧ Q2_L5 Z a1 a2 k1 c0 c1 c2 c3 c4 cs1 fm h0 n0 v U'.heap L ∧ FrameEnd U o U' L ({ frames := 3, cells := 1, slots := 5, locals := 52 } : Room).cells ({ frames := 3, cells := 1, slots := 5, locals := 52 } : Room).slots) := by
 refine MetFree.of_bodySF pn2 hisR ?_
 intro p e s m args below meth c s₁ Bd hml0 hP hK
 obtain ⟨rfl, hZ, hh⟩ := hP
 have hx := Bd.exec
 have hby := Bd.bytes
 have hml : c.maxLocals = 2 := hml0
 have hown : s.vm.findClass "java/lang/String" = some m.cls := findClass_of_methodNamed Bd.named
 have hnm := (name_of_methodNamed Bd.named Bd.method).1
 have X0 : Stand p l e ({ frames := 3, cells := 1, slots := 5, locals := 52 } : Room) s m #[(.ref a1), (.ref a2)] below meth c s₁ [] 0 0 := Stand.of_body Bd
 have e0 : s₁.heap = h0 := by rw [← hh, Bd.state]; rfl
 have N0 := Fr.nil n0
 have p0 : Go p.tables e below (s₁.setTop (entryFrame m #[(.ref a1), (.ref a2)] 2)) (s₁.setTop (mkF m 0 #[.val (.ref a1), .val (.ref a2)] [])) := fun t_ k_ => castTop (ef_rm2_L5 m a1 a2 k1 c0 c1 c2 c3 c4 cs1 fm) k_
 have p101 : Go p.tables e below _ (s₁.setTop (mkF m 4 #[.val (.ref a1), .val (.ref a2)] [(.ref a2), (.int (0 : Int32)), (.ref a2), (.ref a1)])) := fun t_ k_ => p0 t_ (by
  refine XS.aloadN X0.here hx rfl (hb hby d2_0) rfl rfl ?_
  refine XS.aloadN X0.here hx rfl (hb hby d2_1) rfl rfl ?_
  refine XS.iconst X0.here hx rfl (hb hby d2_2) ?_
  refine XS.aloadN X0.here hx rfl (hb hby d2_3) rfl rfl ?_
  exact k_)
 obtain ⟨cl102, Ar102, -, S102, Ng102, -, -⟩ := id V1
 have p103 : Go p.tables e below _ (s₁.setTop (mkF m 6 #[.val (.ref a1), .val (.ref a2)] [.null, (.int (5 : Int32)), (.int (0 : Int32)), (.ref a2), (.ref a1)])) := fun t_ k_ => p101 t_ (by
  refine X0.arraylength hx (by rw [e0]; exact Ar102.1) (State.isArrayOf_alike hZ.alike Ar102.2.1) (g := (mkF m 4 #[.val (.ref a1), .val (.ref a2)] [(.ref a2), (.int (0 : Int32)), (.ref a2), (.ref a1)])) rfl rfl (hb hby d2_4) _ ?_
  rw [len_of S102 Ng102]
  show Steps p.tables e below (s₁.setTop (mkF m 5 #[.val (.ref a1), .val (.ref a2)] [(.int (5 : Int32)), (.int (0 : Int32)), (.ref a2), (.ref a1)])) _
  refine XS.aconstNull X0.here hx rfl (hb hby d2_5) ?_
  exact k_)
 obtain ⟨_, _, ⟨T104, L104, k104, n104⟩, -, X104, ⟨Lc104, hQ104, l104, y104, z104⟩, st104⟩ := X0.specialBack hx (y := (⟨"java/lang/String", "<init>", "([CIILjava/lang/Void;)V"⟩ : MethodName)) rfl hown (mvT hZ (own_w hw 13 rfl)) (mvT hZ (own_w hw 14 rfl)) (mvT hZ (own_w hw 16 rfl)) (by decide) (backOf (W := 0) (rm3_L5 l Z a0 hw [] a1 a2 k1 c0 c1 c2 c3 c4 cs1 fm h0 n0 (Nat.le_trans Z0 (Keep.refl h0 [a1]).1) O1 G F1 F2 E1 V1 ne g1 l0 l1 l2 l3 l4) hZ (own_w hw 16 rfl) (own_w hw 9 rfl) (by decide) (by decide)) (g := (mkF m 6 #[.val (.ref a1), .val (.ref a2)] [.null, (.int (5 : Int32)), (.int (0 : Int32)), (.ref a2), (.ref a1)])) rfl (by rw [hml]; rfl) (Steps.refl _) (a := a1) (argsL := [(.ref a2), (.int (0 : Int32)), (.int (5 : Int32)), .null]) (rest := []) (lenOf pd5 rfl) rfl (by show 2 * 0 + _ ≤ _; exact Nat.le_of_eq rfl) (hb hby d2_6) (fun _ _ => ⟨rfl, e0, (by decide : 0 + 1 ≤ _), (by decide : 0 + 5 ≤ _)⟩)
 dsimp only [Pt.U, Pt.locs, Pt.cells, Pt.slots] at X104 l104 y104 z104 st104 hQ104
 subst l104 y104 z104
 obtain ⟨x105, x106, rfl, N104q, q104_K, q104_E, q104_c, q104_v, q104_g, q104_z, q104_V, q104_n⟩ := hQ104
 have N104 := Fr.app N0 N104q
 have K107 : Keep h0 T104.heap [a1] := (Keep.refl h0 [a1]).trans q104_K (allS (Or.inl (List.mem_of_getElem? (i := 0) rfl)) all0)
 have ne_a1_x105 : a1 ≠ x105 := Nat.ne_of_lt (Nat.lt_of_lt_of_le E1.lt q104_z)
 have ne_a2_x105 : a2 ≠ x105 := Nat.ne_of_lt (Nat.lt_of_lt_of_le V1.lt q104_z)
 obtain ⟨fs, hr, hrun, hended, hW, hsame⟩ := X104.leave (v := none) (fun _ => rfl)
 refine ⟨_, _, (gcT p103 st104) _ (X104.returnOut hx Bd.returns (hb hby d2_9) hr), hrun, hended, _, _, rfl, ?_, ⟨_, rfl⟩, hW, hsame.mono (by decide) (by decide)⟩
 show Q2_L5 Z a1 a2 k1 c0 c1 c2 c3 c4 cs1 fm h0 n0 _ T104.heap _
 exact ⟨x105, x106, rfl, N104, K107, q104_E, q104_c, q104_v, q104_g, (Nat.le_trans (Keep.refl h0 [a1]).1 q104_z), q104_V, q104_n⟩
theorem ef_rm12_L6 (m : MethodId) (a1 : Addr) (k1 : ClassId) (c0 : Int32) (c1 : Int32) (c2 : Int32) (c3 : Int32) (c4 : Int32) (c5 : Int32) : entryFrame m #[(.ref a1), (.int (0 : Int32)), (.int (6 : Int32))] 6 = mkF m 0 #[.val (.ref a1), .val (.int (0 : Int32)), .val (.int (6 : Int32)), .unset, .unset, .unset] [] := by first | (simp [entryFrame, mkF, argsToLocals, Value.category]; done) | rfl
def Q12_L6 (Z : State) (a1 : Addr) (k1 : ClassId) (c0 : Int32) (c1 : Int32) (c2 : Int32) (c3 : Int32) (c4 : Int32) (c5 : Int32) (h0 : Heap) (n0 : Nat) (v : Option Value) (h : Heap) (L : List Loc) : Prop := ∃ (b : Addr) (kb : ClassId), v = some (.ref b) ∧ Fr n0 L ∧ (Keep h0 h []) ∧ (n0 ≤ b) ∧ (h0.size ≤ b) ∧ (Arv Z h b kb .byte (6 : Int32) [(.int (own_xl c0)), (.int (own_xl c1)), (.int (own_xl c2)), (.int (own_xl c3)), (.int (own_xl c4)), (.int (own_xl c5))] (.int (0 : Int32)))
set_option maxRecDepth 65536 in
set_option maxHeartbeats 40000000 in
theorem rm12_L6 (l : Launch) (Z : State) (a0 : Array Value) (hw : ∀ d ∈ tables_1, d.before a0 Z = true) (ws : List Jvm.Cond) (a1 : Addr) (k1 : ClassId) (c0 : Int32) (c1 : Int32) (c2 : Int32) (c3 : Int32) (c4 : Int32) (c5 : Int32) (h0 : Heap) (n0 : Nat) (Z0 : n0 ≤ h0.size) (V1 : Arv Z h0 a1 k1 .char (6 : Int32) [(.int c0), (.int c1), (.int c2), (.int c3), (.int c4), (.int c5)] (.int (0 : Int32))) (l0 : ¬ ((255 : Int32) < c0)) (l1 : ¬ ((255 : Int32) < c1)) (l2 : ¬ ((255 : Int32) < c2)) (l3 : ¬ ((255 : Int32) < c3)) (l4 : ¬ ((255 : Int32) < c4)) (l5 : ¬ ((255 : Int32) < c5)) :
  MetFree l (⟨"java/lang/StringUTF16", "compress", "([CII)[B"⟩ : MethodName) (head1 (Jvm.Cond.code (⟨"java/lang/StringUTF16", "compress", "([CII)[B"⟩ : MethodName) jdk_52_method_16_code 6 (some (.array .byte)) :: ws) ({ frames := 1, cells := 1, slots := 6, locals := 18 } : Room)) (fun a U => a = #[(.ref a1), (.int (0 : Int32)), (.int (6 : Int32))] ∧ Z.Warmed39 U.vm ∧ U.heap = h0) (fun _ _ _ _ _ => True) (fun _ U o U' => ∃ v L, o = .returned v ∧ Q12_L6 Z a1 k1 c0 c1 c2 c3 c4 c5 h0 n0 v U'.heap L ∧ FrameEnd U o U' L ({ frames := 1, cells := 1, slots := 6, locals := 18 } : Room).cells ({ frames := 1, cells := 1, slots := 6, locals := 18 } : Room).slots) := by
 refine MetFree.of_bodySF pn12 hisR ?_
 intro p e s m args below meth c s₁ Bd hml0 hP hK
 obtain ⟨rfl, hZ, hh⟩ := hP
 have hx := Bd.exec
 have hby := Bd.bytes
 have hml : c.maxLocals = 6 := hml0
 have hown : s.vm.findClass "java/lang/StringUTF16" = some m.cls := findClass_of_methodNamed Bd.named
 have hnm := (name_of_methodNamed Bd.named Bd.method).1
 have X0 : Stand p l e ({ frames := 1, cells := 1, slots := 6, locals := 18 } : Room) s m #[(.ref a1), (.int (0 : Int32)), (.int (6 : Int32))] below meth c s₁ [] 0 0 := Stand.of_body Bd
 have e0 : s₁.heap = h0 := by rw [← hh, Bd.state]; rfl
 have N0 := Fr.nil n0
 have p0 : Go p.tables e below (s₁.setTop (entryFrame m #[(.ref a1), (.int (0 : Int32)), (.int (6 : Int32))] 6)) (s₁.setTop (mkF m 0 #[.val (.ref a1), .val (.int (0 : Int32)), .val (.int (6 : Int32)), .unset, .unset, .unset] [])) := fun t_ k_ => castTop (ef_rm12_L6 m a1 k1 c0 c1 c2 c3 c4 c5) k_
 have p101 : Go p.tables e below _ (s₁.setTop (mkF m 1 #[.val (.ref a1), .val (.int (0 : Int32)), .val (.int (6 : Int32)), .unset, .unset, .unset] [(.int (6 : Int32))])) := fun t_ k_ => p0 t_ (by
  refine XS.iloadN X0.here hx rfl (hb hby d12_0) rfl ?_
  exact k_)
 obtain ⟨T102, h102, k102, X102, e102, E102, A102, st102⟩ := newP X0 hx hZ (own_w hw 21 rfl) e0 (g := (mkF m 1 #[.val (.ref a1), .val (.int (0 : Int32)), .val (.int (6 : Int32)), .unset, .unset, .unset] [(.int (6 : Int32))])) rfl (hb hby d12_1) rfl (by decide) (cap := 6) (by decide) (by decide) (by decide) (by decide)
 obtain ⟨b102, g102⟩ : ∃ z, z = h0.size := ⟨_, rfl⟩
 rw [← g102] at A102 st102
 have ne_a1_b102 : a1 ≠ b102 := Nat.ne_of_lt (Nat.lt_of_lt_of_le V1.lt (Nat.le_of_eq g102.symm))
 have ge_b102 : n0 ≤ b102 := Nat.le_trans (Nat.le_trans Z0 (Keep.refl h0 []).1) (Nat.le_of_eq g102.symm)
 have sz_b102 : h0.size ≤ b102 := Nat.le_trans (Keep.refl h0 []).1 (Nat.le_of_eq g102.symm)
 have K103 : Keep h0 h102 [] := (Keep.refl h0 []).ext E102
 have V102 : Arv Z h102 b102 k102 .byte (6 : Int32) [(.int (0 : Int32)), (.int (0 : Int32)), (.int (0 : Int32)), (.int (0 : Int32)), (.int (0 : Int32)), (.int (0 : Int32))] (.int (0 : Int32)) := (Arv.new A102 (by decide)).pad (pad_rep [] (.int (0 : Int32)) 6)
 have p104 : Go p.tables e below _ (T102.setTop (mkF m 9 #[.val (.ref a1), .val (.int (0 : Int32)), .val (.int (6 : Int32)), .val (.ref b102), .unset, .unset] [(.int (6 : Int32)), (.int (0 : Int32)), (.ref b102), (.int (0 : Int32)), (.ref a1)])) := fun t_ k_ => (gc p101 st102) t_ (by
  refine XS.astoreN X102.here hx rfl (hb hby d12_3) rfl rfl (l' := #[.val (.ref a1), .val (.int (0 : Int32)), .val (.int (6 : Int32)), .val (.ref b102), .unset, .unset]) rfl ?_
  refine XS.aloadN X102.here hx rfl (hb hby d12_4) rfl rfl ?_
  refine XS.iloadN X102.here hx rfl (hb hby d12_5) rfl ?_
  refine XS.aloadN X102.here hx rfl (hb hby d12_6) rfl rfl ?_
  refine XS.iconst X102.here hx rfl (hb hby d12_7) ?_
  refine XS.iloadN X102.here hx rfl (hb hby d12_8) rfl ?_
  exact k_)
 have hl105 : ∀ j, j < 6 → ¬ ((255 : Int32) < own_at [c0, c1, c2, c3, c4, c5] j) := by
  intro j hj
  rcases (by omega : j = 0 ∨ j = 1 ∨ j = 2 ∨ j = 3 ∨ j = 4 ∨ j = 5) with rfl | rfl | rfl | rfl | rfl | rfl
  ·exact l0
  ·exact l1
  ·exact l2
  ·exact l3
  ·exact l4
  ·exact l5
 have f106 := (V1.ext E102)
 obtain ⟨_, _, ⟨T107, L107, k107, n107⟩, -, X107, ⟨Lc107, hQ107, l107, y107, z107⟩, st107⟩ := Jvm.LawKit.callS X102 hx (y := (⟨"java/lang/StringUTF16", "compress", "([CI[BII)I"⟩ : MethodName)) hown (mvT hZ (own_w hw 70 rfl)) (mvT hZ (own_w hw 71 rfl)) (mvT hZ (own_w hw 68 rfl)) (mvT hZ (own_w hw 72 rfl)) (by decide) (backOf (W := 0) (rm13_L l Z a0 hw [] a1 b102 k1 k102 [c0, c1, c2, c3, c4, c5] 6 6 h102 n0 (Nat.le_trans Z0 K103.1) f106 V102 (by decide) rfl hl105 ne_a1_b102 ge_b102) hZ (own_w hw 72 rfl) (own_w hw 68 rfl) (by decide) (by decide)) (g := (mkF m 9 #[.val (.ref a1), .val (.int (0 : Int32)), .val (.int (6 : Int32)), .val (.ref b102), .unset, .unset] [(.int (6 : Int32)), (.int (0 : Int32)), (.ref b102), (.int (0 : Int32)), (.ref a1)])) rfl (by rw [hml]; rfl) (argsL := [(.ref a1), (.int (0 : Int32)), (.ref b102), (.int (0 : Int32)), (.int (6 : Int32))]) (rest := []) (lenOf pd6 rfl) rfl (by show 2 * 0 + _ ≤ _; exact Nat.le_of_eq rfl) (hb hby d12_9) (fun _ _ => ⟨rfl, e102, (by decide : 1 + 0 ≤ _), (by decide : 6 + 0 ≤ _)⟩)
 dsimp only [Pt.U, Pt.locs, Pt.cells, Pt.slots] at X107 l107 y107 z107 st107 hQ107
 subst l107 y107 z107
 obtain ⟨rfl, N107q, q107_K, q107_V⟩ := hQ107
 have N107 := Fr.app N0 N107q
 have K108 : Keep h0 T107.heap [] := K103.trans q107_K (allS (Or.inr sz_b102) all0)
 have f109 : Arv Z T107.heap b102 k102 .byte (6 : Int32) [(.int (own_xl c0)), (.int (own_xl c1)), (.int (own_xl c2)), (.int (own_xl c3)), (.int (own_xl c4)), (.int (own_xl c5))] (.int (0 : Int32)) := q107_V
 have p110 : Go p.tables e below _ (T107.setTop (mkF m 12 #[.val (.ref a1), .val (.int (0 : Int32)), .val (.int (6 : Int32)), .val (.ref b102), .unset, .unset] [(.int (6 : Int32))])) := (gc p104 st107)
 have p111 : Go p.tables e below _ (T107.setTop (mkF m 58 #[.val (.ref a1), .val (.int (0 : Int32)), .val (.int (6 : Int32)), .val (.ref b102), .val (.int (6 : Int32)), .unset] [(.ref b102)])) := fun t_ k_ => p110 t_ (by
  refine XS.istore X107.here hx rfl (hb hby d12_12) rfl (l' := #[.val (.ref a1), .val (.int (0 : Int32)), .val (.int (6 : Int32)), .val (.ref b102), .val (.int (6 : Int32)), .unset]) rfl ?_
  refine XS.iload X107.here hx rfl (hb hby d12_14) rfl ?_
  refine XS.iloadN X107.here hx rfl (hb hby d12_16) rfl ?_
  refine XS.icmpYes X107.here hx rfl (pc0 := 17) (pc' := 57) rfl (hb hby d12_17) rfl (teq (by decide : ((6 : Int32) = (6 : Int32)))).1 (by decide) (by decide) ?_
  refine XS.aloadN X107.here hx rfl (hb hby d12_57) rfl rfl ?_
  exact k_)
 obtain ⟨fs, hr, hrun, hended, hW, hsame⟩ := X107.leave (v := some (.ref b102)) (fun h => by rw [Bd.returns] at h; cases h)
 refine ⟨_, _, p111 _ (retOut X107 hx (w := (.ref b102)) (i := .areturn) Bd.returns rfl (Or.inr (Or.inr (Or.inr (Or.inr ⟨rfl, rfl, rfl⟩)))) (hb hby d12_58) hr), hrun, hended, _, _, rfl, ?_, ⟨_, rfl⟩, hW, hsame.mono (by decide) (by decide)⟩
 show Q12_L6 Z a1 k1 c0 c1 c2 c3 c4 c5 h0 n0 _ T107.heap _
 exact ⟨b102, k102, rfl, N107, K108, ge_b102, sz_b102, f109⟩
theorem ef_rm14_L6 (m : MethodId) (a1 : Addr) (k1 : ClassId) (vs : List Value) : entryFrame m #[(.ref a1), (.int (6 : Int32))] 2 = mkF m 0 #[.val (.ref a1), .val (.int (6 : Int32))] [] := by first | (simp [entryFrame, mkF, argsToLocals, Value.category]; done) | rfl
def Q14_L6 (Z : State) (a1 : Addr) (k1 : ClassId) (vs : List Value) (h0 : Heap) (n0 : Nat) (v : Option Value) (h : Heap) (L : List Loc) : Prop := v = some (.int (0 : Int32)) ∧ Fr n0 L ∧ (h = h0)
set_option maxRecDepth 65536 in
set_option maxHeartbeats 40000000 in
theorem rm14_L6 (l : Launch) (Z : State) (a0 : Array Value) (hw : ∀ d ∈ tables_1, d.before a0 Z = true) (ws : List Jvm.Cond) (a1 : Addr) (k1 : ClassId) (vs : List Value) (h0 : Heap) (n0 : Nat) (Z0 : n0 ≤ h0.size) (V1 : Arv Z h0 a1 k1 .byte (6 : Int32) vs (.int (0 : Int32))) :
  MetFree l (⟨"java/lang/StringUTF16", "coderFromArrayLen", "([BI)B"⟩ : MethodName) (head1 (Jvm.Cond.code (⟨"java/lang/StringUTF16", "coderFromArrayLen", "([BI)B"⟩ : MethodName) jdk_52_method_15_code 2 (some .byte) :: ws) ({ frames := 0, cells := 0, slots := 0, locals := 0 } : Room)) (fun a U => a = #[(.ref a1), (.int (6 : Int32))] ∧ Z.Warmed39 U.vm ∧ U.heap = h0) (fun _ _ _ _ _ => True) (fun _ U o U' => ∃ v L, o = .returned v ∧ Q14_L6 Z a1 k1 vs h0 n0 v U'.heap L ∧ FrameEnd U o U' L ({ frames := 0, cells := 0, slots := 0, locals := 0 } : Room).cells ({ frames := 0, cells := 0, slots := 0, locals := 0 } : Room).slots) := by
 refine MetFree.of_bodySF pn14 hisR ?_
 intro p e s m args below meth c s₁ Bd hml0 hP hK
 obtain ⟨rfl, hZ, hh⟩ := hP
 have hx := Bd.exec
 have hby := Bd.bytes
 have hml : c.maxLocals = 2 := hml0
 have hown : s.vm.findClass "java/lang/StringUTF16" = some m.cls := findClass_of_methodNamed Bd.named
 have hnm := (name_of_methodNamed Bd.named Bd.method).1
 have X0 : Stand p l e ({ frames := 0, cells := 0, slots := 0, locals := 0 } : Room) s m #[(.ref a1), (.int (6 : Int32))] below meth c s₁ [] 0 0 := Stand.of_body Bd
 have e0 : s₁.heap = h0 := by rw [← hh, Bd.state]; rfl
 have N0 := Fr.nil n0
 have p0 : Go p.tables e below (s₁.setTop (entryFrame m #[(.ref a1), (.int (6 : Int32))] 2)) (s₁.setTop (mkF m 0 #[.val (.ref a1), .val (.int (6 : Int32))] [])) := fun t_ k_ => castTop (ef_rm14_L6 m a1 k1 vs) k_
 have p101 : Go p.tables e below _ (s₁.setTop (mkF m 2 #[.val (.ref a1), .val (.int (6 : Int32))] [(.ref a1), (.int (6 : Int32))])) := fun t_ k_ => p0 t_ (by
  refine XS.iloadN X0.here hx rfl (hb hby d14_0) rfl ?_
  refine XS.aloadN X0.here hx rfl (hb hby d14_1) rfl rfl ?_
  exact k_)
 obtain ⟨cl102, Ar102, -, S102, Ng102, -, -⟩ := id V1
 have p103 : Go p.tables e below _ (s₁.setTop (mkF m 8 #[.val (.ref a1), .val (.int (6 : Int32))] [(.int (0 : Int32))])) := fun t_ k_ => p101 t_ (by
  refine X0.arraylength hx (by rw [e0]; exact Ar102.1) (State.isArrayOf_alike hZ.alike Ar102.2.1) (g := (mkF m 2 #[.val (.ref a1), .val (.int (6 : Int32))] [(.ref a1), (.int (6 : Int32))])) rfl rfl (hb hby d14_2) _ ?_
  rw [len_of S102 Ng102]
  show Steps p.tables e below (s₁.setTop (mkF m 3 #[.val (.ref a1), .val (.int (6 : Int32))] [(.int (6 : Int32)), (.int (6 : Int32))])) _
  refine XS.isub X0.here hx rfl (hb hby d14_3) rfl ?_
  refine XS.bipush X0.here hx rfl (hb hby d14_4) ?_
  refine XS.iushr X0.here hx rfl (hb hby d14_6) rfl ?_
  refine XS.i2b X0.here hx rfl (hb hby d14_7) rfl ?_
  exact k_)
 obtain ⟨fs, hr, hrun, hended, hW, hsame⟩ := X0.leave (v := some (.int (0 : Int32))) (fun h => by rw [Bd.returns] at h; cases h)
 refine ⟨_, _, p103 _ (retN X0 hx (t := .byte) Bd.returns (by simp) (hb hby d14_8) hr), hrun, hended, _, _, rfl, ?_, ⟨_, rfl⟩, hW, hsame.mono (by decide) (by decide)⟩
 show Q14_L6 Z a1 k1 vs h0 n0 _ s₁.heap _
 rw [e0]
 exact ⟨rfl, N0, rfl⟩
theorem ef_rm3_L6 (m : MethodId) (a1 : Addr) (a2 : Addr) (k1 : ClassId) (c0 : Int32) (c1 : Int32) (c2 : Int32) (c3 : Int32) (c4 : Int32) (c5 : Int32) (cs1 : Int32) (fm : Value) : entryFrame m #[(.ref a1), (.ref a2), (.int (0 : Int32)), (.int (6 : Int32)), .null] 6 = mkF m 0 #[.val (.ref a1), .val (.ref a2), .val (.int (0 : Int32)), .val (.int (6 : Int32)), .val .null, .unset] [] := by first | (simp [entryFrame, mkF, argsToLocals, Value.category]; done) | rfl
def Q3_L6 (Z : State) (a1 : Addr) (a2 : Addr) (k1 : ClassId) (c0 : Int32) (c1 : Int32) (c2 : Int32) (c3 : Int32) (c4 : Int32) (c5 : Int32) (cs1 : Int32) (fm : Value) (h0 : Heap) (n0 : Nat) (v : Option Value) (h : Heap) (L : List Loc) : Prop := ∃ (b : Addr) (kb : ClassId), v = none ∧ Fr n0 L ∧ (Keep h0 h [a1]) ∧ (Exa Z h a1 "java/lang/String") ∧ (Fld Z h a1 "java/lang/String" "coder" "B" (.int (0 : Int32))) ∧ (Fld Z h a1 "java/lang/String" "value" "[B" (.ref b)) ∧ (n0 ≤ b) ∧ (h0.size ≤ b) ∧ (Arv Z h b kb .byte (6 : Int32) [(.int (own_xl c0)), (.int (own_xl c1)), (.int (own_xl c2)), (.int (own_xl c3)), (.int (own_xl c4)), (.int (own_xl c5))] (.int (0 : Int32))) ∧ (a1 ≠ b)
set_option maxRecDepth 65536 in
set_option maxHeartbeats 40000000 in
theorem rm3_L6 (l : Launch) (Z : State) (a0 : Array Value) (hw : ∀ d ∈ tables_1, d.before a0 Z = true) (ws : List Jvm.Cond) (a1 : Addr) (a2 : Addr) (k1 : ClassId) (c0 : Int32) (c1 : Int32) (c2 : Int32) (c3 : Int32) (c4 : Int32) (c5 : Int32) (cs1 : Int32) (fm : Value) (h0 : Heap) (n0 : Nat) (Z0 : n0 ≤ h0.size) (O1 : Old Z n0 h0) (G : own_G Z cs1 fm) (F1 : Fld Z h0 a1 "java/lang/String" "coder" "B" (.int (0 : Int32))) (F2 : Fld Z h0 a1 "java/lang/String" "value" "[B" .null) (E1 : Exa Z h0 a1 "java/lang/String") (V1 : Arv Z h0 a2 k1 .char (6 : Int32) [(.int c0), (.int c1), (.int c2), (.int c3), (.int c4), (.int c5)] (.int (0 : Int32))) (ne : a1 ≠ a2) (g1 : n0 ≤ a1) (l0 : ¬ ((255 : Int32) < c0)) (l1 : ¬ ((255 : Int32) < c1)) (l2 : ¬ ((255 : Int32) < c2)) (l3 : ¬ ((255 : Int32) < c3)) (l4 : ¬ ((255 : Int32) < c4)) (l5 : ¬ ((255 : Int32) < c5)) :
  MetFree l (⟨"java/lang/String", "<init>", "([CIILjava/lang/Void;)V"⟩ : MethodName) (head1 (Jvm.Cond.code (⟨"java/lang/String", "<init>", "([CIILjava/lang/Void;)V"⟩ : MethodName) jdk_42_method_149_code 6 none :: ws) ({ frames := 2, cells := 1, slots := 6, locals := 35 } : Room)) (fun a U => a = #[(.ref a1), (.ref a2), (.int (0 : Int32)), (.int (6 : Int32)), .null] ∧ Z.Warmed39 U.vm ∧ U.heap = h0) (fun _ _ _ _ _ => True) (fun _ U o U' => ∃ v L, o = .returned v ∧ Q3_L6 Z a1 a2 k1 c0 c1 c2 c3 c4 c5 cs1 fm h0 n0 v U'.heap L ∧ FrameEnd U o U' L ({ frames := 2, cells := 1, slots := 6, locals := 35 } : Room).cells ({ frames := 2, cells := 1, slots := 6, locals := 35 } : Room).slots) := by
 refine MetFree.of_bodySF pn3 hisR ?_
 intro p e s m args below meth c s₁ Bd hml0 hP hK
 obtain ⟨rfl, hZ, hh⟩ := hP
 have hx := Bd.exec
 have hby := Bd.bytes
 have hml : c.maxLocals = 6 := hml0
 have hown : s.vm.findClass "java/lang/String" = some m.cls := findClass_of_methodNamed Bd.named
 have hnm := (name_of_methodNamed Bd.named Bd.method).1
 have X0 : Stand p l e ({ frames := 2, cells := 1, slots := 6, locals := 35 } : Room) s m #[(.ref a1), (.ref a2), (.int (0 : Int32)), (.int (6 : Int32)), .null] below meth c s₁ [] 0 0 := Stand.of_body Bd
 have e0 : s₁.heap = h0 := by rw [← hh, Bd.state]; rfl
 have N0 := Fr.nil n0
 have p0 : Go p.tables e below (s₁.setTop (entryFrame m #[(.ref a1), (.ref a2), (.int (0 : Int32)), (.int (6 : Int32)), .null] 6)) (s₁.setTop (mkF m 0 #[.val (.ref a1), .val (.ref a2), .val (.int (0 : Int32)), .val (.int (6 : Int32)), .val .null, .unset] [])) := fun t_ k_ => castTop (ef_rm3_L6 m a1 a2 k1 c0 c1 c2 c3 c4 c5 cs1 fm) k_
 have p101 : Go p.tables e below _ (s₁.setTop (mkF m 1 #[.val (.ref a1), .val (.ref a2), .val (.int (0 : Int32)), .val (.int (6 : Int32)), .val .null, .unset] [(.ref a1)])) := fun t_ k_ => p0 t_ (by
  refine XS.aloadN X0.here hx rfl (hb hby d3_0) rfl rfl ?_
  exact k_)
 obtain ⟨T102, X102, e102, st102⟩ := initO X0 hx hZ hown (own_w hw 17 rfl) (own_w hw 18 rfl) (own_w hw 19 rfl) e0 (g := (mkF m 1 #[.val (.ref a1), .val (.ref a2), .val (.int (0 : Int32)), .val (.int (6 : Int32)), .val .null, .unset] [(.ref a1)])) rfl (by rw [hml]; rfl) rfl (hb hby d3_1) (by decide) (W := 0) (by show 2 * 0 + _ ≤ _; exact Nat.le_of_eq rfl) (by decide)
 have p103 : Go p.tables e below _ (T102.setTop (mkF m 27 #[.val (.ref a1), .val (.ref a2), .val (.int (0 : Int32)), .val (.int (6 : Int32)), .val .null, .unset] [])) := fun t_ k_ => (gc p101 st102) t_ (by
  refine XS.iloadN X102.here hx rfl (hb hby d3_4) rfl ?_
  refine XS.ifYes X102.here hx rfl (pc0 := 5) (pc' := 27) rfl (hb hby d3_5) rfl ((if0 _ _).trans (feq (by decide : ¬ ((6 : Int32) = (0 : Int32)))).2) (by decide) (by decide) ?_
  exact k_)
 obtain ⟨T104, X104, e104, st104⟩ := getS2 X102 hx hZ hown (host := "") (Or.inl (own_w hw 47 rfl)) Via.refl e102 (G.1.ext O1.2) (g := (mkF m 27 #[.val (.ref a1), .val (.ref a2), .val (.int (0 : Int32)), .val (.int (6 : Int32)), .val .null, .unset] [])) rfl (hb hby d3_27)
 have c105 : ¬ (cs1 = (0 : Int32)) := G.2.1
 have p106 : Go p.tables e below _ (T104.setTop (mkF m 36 #[.val (.ref a1), .val (.ref a2), .val (.int (0 : Int32)), .val (.int (6 : Int32)), .val .null, .unset] [(.int (6 : Int32)), (.int (0 : Int32)), (.ref a2)])) := fun t_ k_ => (gc p103 st104) t_ (by
  refine XS.ifNo X104.here hx rfl (hb hby d3_30) rfl ((if0 _ _).trans (feq c105).1) ?_
  refine XS.aloadN X104.here hx rfl (hb hby d3_33) rfl rfl ?_
  refine XS.iloadN X104.here hx rfl (hb hby d3_34) rfl ?_
  refine XS.iloadN X104.here hx rfl (hb hby d3_35) rfl ?_
  exact k_)
 obtain ⟨_, _, ⟨T107, L107, k107, n107⟩, -, X107, ⟨Lc107, hQ107, l107, y107, z107⟩, st107⟩ := Jvm.LawKit.callS X104 hx (y := (⟨"java/lang/StringUTF16", "compress", "([CII)[B"⟩ : MethodName)) hown (mvT hZ (own_w hw 66 rfl)) (mvT hZ (own_w hw 67 rfl)) (mvT hZ (own_w hw 68 rfl)) (mvT hZ (own_w hw 69 rfl)) (by decide) (backOf (W := 0) (rm12_L6 l Z a0 hw [] a2 k1 c0 c1 c2 c3 c4 c5 h0 n0 (Nat.le_trans Z0 (Keep.refl h0 [a1]).1) V1 l0 l1 l2 l3 l4 l5) hZ (own_w hw 69 rfl) (own_w hw 68 rfl) (by decide) (by decide)) (g := (mkF m 36 #[.val (.ref a1), .val (.ref a2), .val (.int (0 : Int32)), .val (.int (6 : Int32)), .val .null, .unset] [(.int (6 : Int32)), (.int (0 : Int32)), (.ref a2)])) rfl (by rw [hml]; rfl) (argsL := [(.ref a2), (.int (0 : Int32)), (.int (6 : Int32))]) (rest := []) (lenOf pd7 rfl) rfl (by show 2 * 0 + _ ≤ _; exact Nat.le_of_eq rfl) (hb hby d3_36) (fun _ _ => ⟨rfl, e104, (by decide : 0 + 1 ≤ _), (by decide : 0 + 6 ≤ _)⟩)
 dsimp only [Pt.U, Pt.locs, Pt.cells, Pt.slots] at X107 l107 y107 z107 st107 hQ107
 subst l107 y107 z107
 obtain ⟨x108, x109, rfl, N107q, q107_K, q107_g, q107_z, q107_V⟩ := hQ107
 have N107 := Fr.app N0 N107q
 have K110 : Keep h0 T107.heap [a1] := (Keep.refl h0 [a1]).trans q107_K all0
 have ne_a1_x108 : a1 ≠ x108 := Nat.ne_of_lt (Nat.lt_of_lt_of_le E1.lt q107_z)
 have ne_a2_x108 : a2 ≠ x108 := Nat.ne_of_lt (Nat.lt_of_lt_of_le V1.lt q107_z)
 have p111 : Go p.tables e below _ (T107.setTop (mkF m 45 #[.val (.ref a1), .val (.ref a2), .val (.int (0 : Int32)), .val (.int (6 : Int32)), .val .null, .val (.ref x108)] [(.int (6 : Int32)), (.ref x108), (.ref a1)])) := fun t_ k_ => (gc p106 st107) t_ (by
  refine XS.astore X107.here hx rfl (hb hby d3_39) rfl rfl (l' := #[.val (.ref a1), .val (.ref a2), .val (.int (0 : Int32)), .val (.int (6 : Int32)), .val .null, .val (.ref x108)]) rfl ?_
  refine XS.aloadN X107.here hx rfl (hb hby d3_41) rfl rfl ?_
  refine XS.aload X107.here hx rfl (hb hby d3_42) rfl rfl ?_
  refine XS.iloadN X107.here hx rfl (hb hby d3_44) rfl ?_
  exact k_)
 obtain ⟨_, _, ⟨T112, L112, k112, n112⟩, -, X112, ⟨Lc112, hQ112, l112, y112, z112⟩, st112⟩ := Jvm.LawKit.callS X107 hx (y := (⟨"java/lang/StringUTF16", "coderFromArrayLen", "([BI)B"⟩ : MethodName)) hown (mvT hZ (own_w hw 73 rfl)) (mvT hZ (own_w hw 74 rfl)) (mvT hZ (own_w hw 68 rfl)) (mvT hZ (own_w hw 75 rfl)) (by decide) (backOf (W := 1) (rm14_L6 l Z a0 hw [] x108 x109 [(.int (own_xl c0)), (.int (own_xl c1)), (.int (own_xl c2)), (.int (own_xl c3)), (.int (own_xl c4)), (.int (own_xl c5))] T107.heap n0 (Nat.le_trans Z0 K110.1) q107_V) hZ (own_w hw 75 rfl) (own_w hw 68 rfl) (by decide) (by decide)) (g := (mkF m 45 #[.val (.ref a1), .val (.ref a2), .val (.int (0 : Int32)), .val (.int (6 : Int32)), .val .null, .val (.ref x108)] [(.int (6 : Int32)), (.ref x108), (.ref a1)])) rfl (by rw [hml]; rfl) (argsL := [(.ref x108), (.int (6 : Int32))]) (rest := [(.ref a1)]) (lenOf pd8 rfl) rfl (by show 2 * 0 + _ ≤ _; exact Nat.le_of_eq rfl) (hb hby d3_45) (fun _ _ => ⟨rfl, rfl, (by decide : 1 + 0 ≤ _), (by decide : 6 + 0 ≤ _)⟩)
 dsimp only [Pt.U, Pt.locs, Pt.cells, Pt.slots] at X112 l112 y112 z112 st112 hQ112
 subst l112 y112 z112
 obtain ⟨rfl, N112q, q112_hh⟩ := hQ112
 have N112 := Fr.app N107 N112q
 have f113 := (F1.keep q107_K nin0)
 have f114 := (E1.keep q107_K)
 obtain ⟨T115, h115, X115, e115, W115, st115⟩ := putFN X112 hx hZ hown (own_w hw 27 rfl) Via.refl q112_hh f113 f114 (Or.inr ⟨(own_w hw 23 rfl), rfl, hnm⟩) (own_w hw 8 rfl) (ty := .byte) (v' := (.int (0 : Int32))) (by decide) rfl (by decide) (g := (mkF m 48 #[.val (.ref a1), .val (.ref a2), .val (.int (0 : Int32)), .val (.int (6 : Int32)), .val .null, .val (.ref x108)] [(.int (0 : Int32)), (.ref a1)])) rfl rfl (hb hby d3_48)
 have K116 : Keep h0 h115 [a1] := K110.wr W115 (Or.inl (List.mem_of_getElem? (i := 0) rfl))
 have N115 := Fr.snoc X115 N112 g1
 have F115 : Fld Z h115 a1 "java/lang/String" "coder" "B" (.int (0 : Int32)) := f113.same W115
 have p117 : Go p.tables e below _ (T115.setTop (mkF m 54 #[.val (.ref a1), .val (.ref a2), .val (.int (0 : Int32)), .val (.int (6 : Int32)), .val .null, .val (.ref x108)] [(.ref x108), (.ref a1)])) := fun t_ k_ => (gc (gc p111 st112) st115) t_ (by
  refine XS.aloadN X115.here hx rfl (hb hby d3_51) rfl rfl ?_
  refine XS.aload X115.here hx rfl (hb hby d3_52) rfl rfl ?_
  exact k_)
 have f118 := ((F2.keep q107_K nin0).other W115 (Or.inr (slot_ne (Or.inr (own_w hw 22 rfl)) (Or.inr (own_w hw 23 rfl)) (by decide) (t := (.array .byte)) (t' := .byte) (by decide) (by decide))))
 have f119 := (f114.wr W115)
 obtain ⟨T120, h120, X120, e120, W120, st120⟩ := putF X115 hx hZ hown (host := "") (Or.inl (own_w hw 26 rfl)) Via.refl e115 f118 f119 (Or.inr ⟨(own_w hw 22 rfl), rfl, hnm⟩) (own_w hw 8 rfl) (ty := (.array .byte)) (by decide) rfl rfl (g := (mkF m 54 #[.val (.ref a1), .val (.ref a2), .val (.int (0 : Int32)), .val (.int (6 : Int32)), .val .null, .val (.ref x108)] [(.ref x108), (.ref a1)])) rfl rfl (hb hby d3_54)
 have K121 : Keep h0 h120 [a1] := K116.wr W120 (Or.inl (List.mem_of_getElem? (i := 0) rfl))
 have N120 := Fr.snoc X120 N115 g1
 have F120 : Fld Z h120 a1 "java/lang/String" "value" "[B" (.ref x108) := f118.same W120
 have f122 := (f119.wr W120)
 have f123 := (F115.other W120 (Or.inr (slot_ne (Or.inr (own_w hw 23 rfl)) (Or.inr (own_w hw 22 rfl)) (by decide) (t := .byte) (t' := (.array .byte)) (by decide) (by decide))))
 have f124 := ((q107_V.other W115 (Ne.symm ne_a1_x108)).other W120 (Ne.symm ne_a1_x108))
 obtain ⟨fs, hr, hrun, hended, hW, hsame⟩ := X120.leave (v := none) (fun _ => rfl)
 refine ⟨_, _, (gc p117 st120) _ (X120.returnOut hx Bd.returns (hb hby d3_57) hr), hrun, hended, _, _, rfl, ?_, ⟨_, rfl⟩, hW, hsame.mono (by decide) (by decide)⟩
 show Q3_L6 Z a1 a2 k1 c0 c1 c2 c3 c4 c5 cs1 fm h0 n0 _ T120.heap _
 rw [e120]
 exact ⟨x108, x109, rfl, N120, K121, f122, f123, F120, q107_g, (Nat.le_trans (Keep.refl h0 [a1]).1 q107_z), f124, ne_a1_x108⟩
theorem ef_rm2_L6 (m : MethodId) (a1 : Addr) (a2 : Addr) (k1 : ClassId) (c0 : Int32) (c1 : Int32) (c2 : Int32) (c3 : Int32) (c4 : Int32) (c5 : Int32) (cs1 : Int32) (fm : Value) : entryFrame m #[(.ref a1), (.ref a2)] 2 = mkF m 0 #[.val (.ref a1), .val (.ref a2)] [] := by first | (simp [entryFrame, mkF, argsToLocals, Value.category]; done) | rfl
def Q2_L6 (Z : State) (a1 : Addr) (a2 : Addr) (k1 : ClassId) (c0 : Int32) (c1 : Int32) (c2 : Int32) (c3 : Int32) (c4 : Int32) (c5 : Int32) (cs1 : Int32) (fm : Value) (h0 : Heap) (n0 : Nat) (v : Option Value) (h : Heap) (L : List Loc) : Prop := ∃ (b : Addr) (kb : ClassId), v = none ∧ Fr n0 L ∧ (Keep h0 h [a1]) ∧ (Exa Z h a1 "java/lang/String") ∧ (Fld Z h a1 "java/lang/String" "coder" "B" (.int (0 : Int32))) ∧ (Fld Z h a1 "java/lang/String" "value" "[B" (.ref b)) ∧ (n0 ≤ b) ∧ (h0.size ≤ b) ∧ (Arv Z h b kb .byte (6 : Int32) [(.int (own_xl c0)), (.int (own_xl c1)), (.int (own_xl c2)), (.int (own_xl c3)), (.int (own_xl c4)), (.int (own_xl c5))] (.int (0 : Int32))) ∧ (a1 ≠ b)
set_option maxRecDepth 65536 in
set_option maxHeartbeats 40000000 in
theorem rm2_L6 (l : Launch) (Z : State) (a0 : Array Value) (hw : ∀ d ∈ tables_1, d.before a0 Z = true) (ws : List Jvm.Cond) (a1 : Addr) (a2 : Addr) (k1 : ClassId) (c0 : Int32) (c1 : Int32) (c2 : Int32) (c3 : Int32) (c4 : Int32) (c5 : Int32) (cs1 : Int32) (fm : Value) (h0 : Heap) (n0 : Nat) (Z0 : n0 ≤ h0.size) (O1 : Old Z n0 h0) (G : own_G Z cs1 fm) (F1 : Fld Z h0 a1 "java/lang/String" "coder" "B" (.int (0 : Int32))) (F2 : Fld Z h0 a1 "java/lang/String" "value" "[B" .null) (E1 : Exa Z h0 a1 "java/lang/String") (V1 : Arv Z h0 a2 k1 .char (6 : Int32) [(.int c0), (.int c1), (.int c2), (.int c3), (.int c4), (.int c5)] (.int (0 : Int32))) (ne : a1 ≠ a2) (g1 : n0 ≤ a1) (l0 : ¬ ((255 : Int32) < c0)) (l1 : ¬ ((255 : Int32) < c1)) (l2 : ¬ ((255 : Int32) < c2)) (l3 : ¬ ((255 : Int32) < c3)) (l4 : ¬ ((255 : Int32) < c4)) (l5 : ¬ ((255 : Int32) < c5)) :
  MetFree l (⟨"java/lang/String", "<init>", "([C)V"⟩ : MethodName) (head1 (Jvm.Cond.code (⟨"java/lang/String", "<init>", "([C)V"⟩ : MethodName) jdk_42_method_3_code 2 none :: ws) ({ frames := 3, cells := 1, slots := 6, locals := 52 } : Room)) (fun a U => a = #[(.ref a1), (.ref a2)] ∧ Z.Warmed39 U.vm ∧ U.heap = h0) (fun _ _ _ _ _ => True) (fun _ U o U' => ∃ v L, o = .returned v ∧ Q2_L6 Z a1 a2 k1 c0 c1 c2 c3 c4 c5 cs1 fm h0 n0 v U'.heap L ∧ FrameEnd U o U' L ({ frames := 3, cells := 1, slots := 6, locals := 52 } : Room).cells ({ frames := 3, cells := 1, slots := 6, locals := 52 } : Room).slots) := by
 refine MetFree.of_bodySF pn2 hisR ?_
 intro p e s m args below meth c s₁ Bd hml0 hP hK
 obtain ⟨rfl, hZ, hh⟩ := hP
 have hx := Bd.exec
 have hby := Bd.bytes
 have hml : c.maxLocals = 2 := hml0
 have hown : s.vm.findClass "java/lang/String" = some m.cls := findClass_of_methodNamed Bd.named
 have hnm := (name_of_methodNamed Bd.named Bd.method).1
 have X0 : Stand p l e ({ frames := 3, cells := 1, slots := 6, locals := 52 } : Room) s m #[(.ref a1), (.ref a2)] below meth c s₁ [] 0 0 := Stand.of_body Bd
 have e0 : s₁.heap = h0 := by rw [← hh, Bd.state]; rfl
 have N0 := Fr.nil n0
 have p0 : Go p.tables e below (s₁.setTop (entryFrame m #[(.ref a1), (.ref a2)] 2)) (s₁.setTop (mkF m 0 #[.val (.ref a1), .val (.ref a2)] [])) := fun t_ k_ => castTop (ef_rm2_L6 m a1 a2 k1 c0 c1 c2 c3 c4 c5 cs1 fm) k_
 have p101 : Go p.tables e below _ (s₁.setTop (mkF m 4 #[.val (.ref a1), .val (.ref a2)] [(.ref a2), (.int (0 : Int32)), (.ref a2), (.ref a1)])) := fun t_ k_ => p0 t_ (by
  refine XS.aloadN X0.here hx rfl (hb hby d2_0) rfl rfl ?_
  refine XS.aloadN X0.here hx rfl (hb hby d2_1) rfl rfl ?_
  refine XS.iconst X0.here hx rfl (hb hby d2_2) ?_
  refine XS.aloadN X0.here hx rfl (hb hby d2_3) rfl rfl ?_
  exact k_)
 obtain ⟨cl102, Ar102, -, S102, Ng102, -, -⟩ := id V1
 have p103 : Go p.tables e below _ (s₁.setTop (mkF m 6 #[.val (.ref a1), .val (.ref a2)] [.null, (.int (6 : Int32)), (.int (0 : Int32)), (.ref a2), (.ref a1)])) := fun t_ k_ => p101 t_ (by
  refine X0.arraylength hx (by rw [e0]; exact Ar102.1) (State.isArrayOf_alike hZ.alike Ar102.2.1) (g := (mkF m 4 #[.val (.ref a1), .val (.ref a2)] [(.ref a2), (.int (0 : Int32)), (.ref a2), (.ref a1)])) rfl rfl (hb hby d2_4) _ ?_
  rw [len_of S102 Ng102]
  show Steps p.tables e below (s₁.setTop (mkF m 5 #[.val (.ref a1), .val (.ref a2)] [(.int (6 : Int32)), (.int (0 : Int32)), (.ref a2), (.ref a1)])) _
  refine XS.aconstNull X0.here hx rfl (hb hby d2_5) ?_
  exact k_)
 obtain ⟨_, _, ⟨T104, L104, k104, n104⟩, -, X104, ⟨Lc104, hQ104, l104, y104, z104⟩, st104⟩ := X0.specialBack hx (y := (⟨"java/lang/String", "<init>", "([CIILjava/lang/Void;)V"⟩ : MethodName)) rfl hown (mvT hZ (own_w hw 13 rfl)) (mvT hZ (own_w hw 14 rfl)) (mvT hZ (own_w hw 16 rfl)) (by decide) (backOf (W := 0) (rm3_L6 l Z a0 hw [] a1 a2 k1 c0 c1 c2 c3 c4 c5 cs1 fm h0 n0 (Nat.le_trans Z0 (Keep.refl h0 [a1]).1) O1 G F1 F2 E1 V1 ne g1 l0 l1 l2 l3 l4 l5) hZ (own_w hw 16 rfl) (own_w hw 9 rfl) (by decide) (by decide)) (g := (mkF m 6 #[.val (.ref a1), .val (.ref a2)] [.null, (.int (6 : Int32)), (.int (0 : Int32)), (.ref a2), (.ref a1)])) rfl (by rw [hml]; rfl) (Steps.refl _) (a := a1) (argsL := [(.ref a2), (.int (0 : Int32)), (.int (6 : Int32)), .null]) (rest := []) (lenOf pd5 rfl) rfl (by show 2 * 0 + _ ≤ _; exact Nat.le_of_eq rfl) (hb hby d2_6) (fun _ _ => ⟨rfl, e0, (by decide : 0 + 1 ≤ _), (by decide : 0 + 6 ≤ _)⟩)
 dsimp only [Pt.U, Pt.locs, Pt.cells, Pt.slots] at X104 l104 y104 z104 st104 hQ104
 subst l104 y104 z104
 obtain ⟨x105, x106, rfl, N104q, q104_K, q104_E, q104_c, q104_v, q104_g, q104_z, q104_V, q104_n⟩ := hQ104
 have N104 := Fr.app N0 N104q
 have K107 : Keep h0 T104.heap [a1] := (Keep.refl h0 [a1]).trans q104_K (allS (Or.inl (List.mem_of_getElem? (i := 0) rfl)) all0)
 have ne_a1_x105 : a1 ≠ x105 := Nat.ne_of_lt (Nat.lt_of_lt_of_le E1.lt q104_z)
 have ne_a2_x105 : a2 ≠ x105 := Nat.ne_of_lt (Nat.lt_of_lt_of_le V1.lt q104_z)
 obtain ⟨fs, hr, hrun, hended, hW, hsame⟩ := X104.leave (v := none) (fun _ => rfl)
 refine ⟨_, _, (gcT p103 st104) _ (X104.returnOut hx Bd.returns (hb hby d2_9) hr), hrun, hended, _, _, rfl, ?_, ⟨_, rfl⟩, hW, hsame.mono (by decide) (by decide)⟩
 show Q2_L6 Z a1 a2 k1 c0 c1 c2 c3 c4 c5 cs1 fm h0 n0 _ T104.heap _
 exact ⟨x105, x106, rfl, N104, K107, q104_E, q104_c, q104_v, q104_g, (Nat.le_trans (Keep.refl h0 [a1]).1 q104_z), q104_V, q104_n⟩
theorem d5_13 : decode prog_16_method_1_code 13 = .ok (.iload_n 3, 1) := by decide +kernel
theorem d5_14 : decode prog_16_method_1_code 14 = .ok (.aload_n 1, 1) := by decide +kernel
theorem d5_15 : decode prog_16_method_1_code 15 = .ok (.invokevirtual 13, 3) := by decide +kernel
theorem d5_18 : decode prog_16_method_1_code 18 = .ok (.if_icmp .ge 22, 3) := by decide +kernel
theorem pd9 : parseMethodDescriptor "()I" = some ⟨[], some .int⟩ := by decide +kernel
theorem d5_21 : decode prog_16_method_1_code 21 = .ok (.aload_n 1, 1) := by decide +kernel
theorem d5_22 : decode prog_16_method_1_code 22 = .ok (.iload_n 3, 1) := by decide +kernel
theorem d5_23 : decode prog_16_method_1_code 23 = .ok (.invokevirtual 19, 3) := by decide +kernel
theorem d5_26 : decode prog_16_method_1_code 26 = .ok (.bipush 10, 2) := by decide +kernel
theorem d5_28 : decode prog_16_method_1_code 28 = .ok (.if_icmp .ne 6, 3) := by decide +kernel
theorem d5_31 : decode prog_16_method_1_code 31 = .ok (.iinc 2 1, 3) := by decide +kernel
theorem d5_34 : decode prog_16_method_1_code 34 = .ok (.iinc 3 1, 3) := by decide +kernel
theorem d5_37 : decode prog_16_method_1_code 37 = .ok (.goto (-24), 3) := by decide +kernel
theorem pd10 : parseMethodDescriptor "(I)C" = some ⟨[.int], some .char⟩ := by decide +kernel
set_option maxRecDepth 65536 in
set_option maxHeartbeats 40000000 in
theorem lpA0 {p : Program} {l : Launch} {e : Env} {s : State} {m : MethodId} {args : Array Value} {below : List Frame} {meth : Method} {c : Code} (Z : State) (a0 : Array Value) (hx : p.tables.exec = Jvm.exec) (hZ : Z.Warmed39 s.vm) (hw : ∀ d ∈ tables_1, d.before a0 Z = true) (hby : c.code = prog_16_method_1_code) (hml : c.maxLocals = 5) (hown : s.vm.findClass "com/example/subsume/subsume/model/Lines" = some m.cls) (a1 : Addr) (a2 : Addr) (bv : Addr) (kv : ClassId) (z : Int32) (vs : List Value) (cs : List Int32) (n : Nat) (cs1 : Int32) (fm : Value) (h0 : Heap) (n0 : Nat) (Z0 : n0 ≤ h0.size) (O1 : Old Z n0 h0) (G : own_G Z cs1 fm) (E2 : Exa Z h0 a2 "java/lang/String") (G1 : Fld Z h0 a2 "java/lang/String" "coder" "B" (.int (0 : Int32))) (G2 : Fld Z h0 a2 "java/lang/String" "value" "[B" (.ref bv)) (V1 : Arv Z h0 bv kv .byte z vs (.int (0 : Int32))) (hz : (z >>> (0 : Int32)) = (Int32.ofNat n)) (hn : n ≤ 8) (HB : ∀ i, i < n → ∃ b : Int32, vs.getD ((Int32.ofNat i)).toNatClampNeg (.int (0 : Int32)) = .int b ∧ own_c8 b = own_at cs i) (hz0 : z = Int32.ofNat n) : ∀ (k i : Nat) (T : State) (locs : List Loc), i + k = n → Stand p l e ({ frames := 6, cells := 1, slots := 9, locals := 150 } : Room) s m args below meth c T locs 0 0 → T.heap = h0 → Fr n0 locs → ∃ (T' : State) (L' : List Loc), Stand p l e ({ frames := 6, cells := 1, slots := 9, locals := 150 } : Room) s m args below meth c T' L' 0 0 ∧ T'.heap = h0 ∧ Fr n0 L' ∧ Go p.tables e below (T.setTop (mkF m 13 #[.val (.ref a1), .val (.ref a2), .val (.int (Int32.ofNat (1 + own_nl cs i))), .val (.int (Int32.ofNat i)), .unset] [])) (T'.setTop (mkF m 40 #[.val (.ref a1), .val (.ref a2), .val (.int (Int32.ofNat (1 + own_nl cs n))), .val (.int (Int32.ofNat n)), .unset] [])) := by
 intro k
 induction k with
 | zero =>
  intro i T locs hk X0 e0 N0
  have hin : i = n := by omega
  have hnl := own_nl_le cs i
  have p0 : Go p.tables e below (T.setTop (mkF m 13 #[.val (.ref a1), .val (.ref a2), .val (.int (Int32.ofNat (1 + own_nl cs i))), .val (.int (Int32.ofNat i)), .unset] [])) (T.setTop (mkF m 13 #[.val (.ref a1), .val (.ref a2), .val (.int (Int32.ofNat (1 + own_nl cs i))), .val (.int (Int32.ofNat i)), .unset] [])) := fun t_ k_ => k_
  have p101 : Go p.tables e below _ (T.setTop (mkF m 15 #[.val (.ref a1), .val (.ref a2), .val (.int (Int32.ofNat (1 + own_nl cs i))), .val (.int (Int32.ofNat i)), .unset] [(.ref a2), (.int (Int32.ofNat i))])) := fun t_ k_ => p0 t_ (by
   refine XS.iloadN X0.here hx rfl (hb hby d5_13) rfl ?_
   refine XS.aloadN X0.here hx rfl (hb hby d5_14) rfl rfl ?_
   exact k_)
  obtain ⟨cq102, kq102, q102a, q102b, q102c⟩ := isOf hZ e0 E2
  obtain ⟨_, _, ⟨T102, L102, k102, n102⟩, -, X102, ⟨Lc102, hQ102, l102, y102, z102⟩, st102⟩ := X0.virtualBack hx (y := (⟨"java/lang/String", "length", "()I"⟩ : MethodName)) (z := (⟨"java/lang/String", "length", "()I"⟩ : MethodName)) hown (mvT hZ (own_w hw 37 rfl)) (mvT hZ (own_w hw 38 rfl)) (notFace_of_selects (args := #[]) (mvT hZ (own_w hw 40 rfl))) (mvT hZ (own_w hw 40 rfl)) (mvT hZ (own_w hw 39 rfl)) (by decide) (backOf (W := 1) (rm6_0 l Z a0 hw [] a2 (Int32.ofNat n) bv kv z vs cs1 fm h0 n0 (Nat.le_trans Z0 (Keep.refl h0 []).1) O1 G E2 G1 G2 V1 hz) hZ (own_w hw 41 rfl) (own_w hw 9 rfl) (by decide) (by decide)) q102a q102c (g := (mkF m 15 #[.val (.ref a1), .val (.ref a2), .val (.int (Int32.ofNat (1 + own_nl cs i))), .val (.int (Int32.ofNat i)), .unset] [(.ref a2), (.int (Int32.ofNat i))])) rfl (by rw [hml]; rfl) (Steps.refl _) (argsL := []) (rest := [(.int (Int32.ofNat i))]) (lenOf pd9 rfl) rfl (by show 2 * 0 + _ ≤ _; exact Nat.le_of_eq rfl) (hb hby d5_15) (fun _ _ => ⟨rfl, e0, (by decide : 0 + 0 ≤ _), (by decide : 0 + 0 ≤ _)⟩)
  dsimp only [Pt.U, Pt.locs, Pt.cells, Pt.slots] at X102 l102 y102 z102 st102 hQ102
  subst l102 y102 z102
  obtain ⟨rfl, N102q, q102_hh⟩ := hQ102
  have N102 := Fr.app N0 N102q
  have c103 : ¬ ((Int32.ofNat i) < (Int32.ofNat n)) := (fun q => by rw [own_lt32 (by omega) (by omega)] at q; omega)
  have p104 : Go p.tables e below _ (T102.setTop (mkF m 40 #[.val (.ref a1), .val (.ref a2), .val (.int (Int32.ofNat (1 + own_nl cs i))), .val (.int (Int32.ofNat i)), .unset] [])) := fun t_ k_ => (gcT p101 st102) t_ (by
   refine XS.icmpYes X102.here hx rfl (pc0 := 18) (pc' := 40) rfl (hb hby d5_18) rfl (flt c103).2.1 (by decide) (by decide) ?_
   exact k_)
  exact ⟨_, _, X102, q102_hh, N102, by have z := p104; rw [hin] at z ⊢; exact z⟩
 | succ k ih =>
  intro i T locs hk X0 e0 N0
  have hi : i < n := by omega
  have hnl := own_nl_le cs i
  have p0 : Go p.tables e below (T.setTop (mkF m 13 #[.val (.ref a1), .val (.ref a2), .val (.int (Int32.ofNat (1 + own_nl cs i))), .val (.int (Int32.ofNat i)), .unset] [])) (T.setTop (mkF m 13 #[.val (.ref a1), .val (.ref a2), .val (.int (Int32.ofNat (1 + own_nl cs i))), .val (.int (Int32.ofNat i)), .unset] [])) := fun t_ k_ => k_
  have p101 : Go p.tables e below _ (T.setTop (mkF m 15 #[.val (.ref a1), .val (.ref a2), .val (.int (Int32.ofNat (1 + own_nl cs i))), .val (.int (Int32.ofNat i)), .unset] [(.ref a2), (.int (Int32.ofNat i))])) := fun t_ k_ => p0 t_ (by
   refine XS.iloadN X0.here hx rfl (hb hby d5_13) rfl ?_
   refine XS.aloadN X0.here hx rfl (hb hby d5_14) rfl rfl ?_
   exact k_)
  obtain ⟨cq102, kq102, q102a, q102b, q102c⟩ := isOf hZ e0 E2
  obtain ⟨_, _, ⟨T102, L102, k102, n102⟩, -, X102, ⟨Lc102, hQ102, l102, y102, z102⟩, st102⟩ := X0.virtualBack hx (y := (⟨"java/lang/String", "length", "()I"⟩ : MethodName)) (z := (⟨"java/lang/String", "length", "()I"⟩ : MethodName)) hown (mvT hZ (own_w hw 37 rfl)) (mvT hZ (own_w hw 38 rfl)) (notFace_of_selects (args := #[]) (mvT hZ (own_w hw 40 rfl))) (mvT hZ (own_w hw 40 rfl)) (mvT hZ (own_w hw 39 rfl)) (by decide) (backOf (W := 1) (rm6_0 l Z a0 hw [] a2 (Int32.ofNat n) bv kv z vs cs1 fm h0 n0 (Nat.le_trans Z0 (Keep.refl h0 []).1) O1 G E2 G1 G2 V1 hz) hZ (own_w hw 41 rfl) (own_w hw 9 rfl) (by decide) (by decide)) q102a q102c (g := (mkF m 15 #[.val (.ref a1), .val (.ref a2), .val (.int (Int32.ofNat (1 + own_nl cs i))), .val (.int (Int32.ofNat i)), .unset] [(.ref a2), (.int (Int32.ofNat i))])) rfl (by rw [hml]; rfl) (Steps.refl _) (argsL := []) (rest := [(.int (Int32.ofNat i))]) (lenOf pd9 rfl) rfl (by show 2 * 0 + _ ≤ _; exact Nat.le_of_eq rfl) (hb hby d5_15) (fun _ _ => ⟨rfl, e0, (by decide : 0 + 0 ≤ _), (by decide : 0 + 0 ≤ _)⟩)
  dsimp only [Pt.U, Pt.locs, Pt.cells, Pt.slots] at X102 l102 y102 z102 st102 hQ102
  subst l102 y102 z102
  obtain ⟨rfl, N102q, q102_hh⟩ := hQ102
  have N102 := Fr.app N0 N102q
  have c103 : ((Int32.ofNat i) < (Int32.ofNat n)) := (own_lt32 (by omega) (by omega)).mpr hi
  have p104 : Go p.tables e below _ (T102.setTop (mkF m 23 #[.val (.ref a1), .val (.ref a2), .val (.int (Int32.ofNat (1 + own_nl cs i))), .val (.int (Int32.ofNat i)), .unset] [(.int (Int32.ofNat i)), (.ref a2)])) := fun t_ k_ => (gcT p101 st102) t_ (by
   refine XS.icmpNo X102.here hx rfl (hb hby d5_18) rfl (tlt c103).2.1 ?_
   refine XS.aloadN X102.here hx rfl (hb hby d5_21) rfl rfl ?_
   refine XS.iloadN X102.here hx rfl (hb hby d5_22) rfl ?_
   exact k_)
  obtain ⟨b, hg, hc⟩ := HB i hi
  obtain ⟨cq105, kq105, q105a, q105b, q105c⟩ := isOf hZ q102_hh E2
  obtain ⟨_, _, ⟨T105, L105, k105, n105⟩, -, X105, ⟨Lc105, hQ105, l105, y105, z105⟩, st105⟩ := X102.virtualBack hx (y := (⟨"java/lang/String", "charAt", "(I)C"⟩ : MethodName)) (z := (⟨"java/lang/String", "charAt", "(I)C"⟩ : MethodName)) hown (mvT hZ (own_w hw 76 rfl)) (mvT hZ (own_w hw 77 rfl)) (notFace_of_selects (args := #[]) (mvT hZ (own_w hw 79 rfl))) (mvT hZ (own_w hw 79 rfl)) (mvT hZ (own_w hw 78 rfl)) (by decide) (backOf (W := 0) (rm15_0 l Z a0 hw [] a2 (Int32.ofNat i) bv kv z vs b (own_at cs i) cs1 fm h0 n0 (Nat.le_trans Z0 (Keep.refl h0 []).1) O1 G E2 G1 G2 V1 (own_nn32 (by omega)) (by rw [hz0]; exact (own_lt32 (by omega) (by omega)).mpr hi) hg hc) hZ (own_w hw 80 rfl) (own_w hw 9 rfl) (by decide) (by decide)) q105a q105c (g := (mkF m 23 #[.val (.ref a1), .val (.ref a2), .val (.int (Int32.ofNat (1 + own_nl cs i))), .val (.int (Int32.ofNat i)), .unset] [(.int (Int32.ofNat i)), (.ref a2)])) rfl (by rw [hml]; rfl) (Steps.refl _) (argsL := [(.int (Int32.ofNat i))]) (rest := []) (lenOf pd10 rfl) rfl (by show 2 * 0 + _ ≤ _; exact Nat.le_of_eq rfl) (hb hby d5_23) (fun _ _ => ⟨rfl, q102_hh, (by decide : 0 + 0 ≤ _), (by decide : 0 + 0 ≤ _)⟩)
  dsimp only [Pt.U, Pt.locs, Pt.cells, Pt.slots] at X105 l105 y105 z105 st105 hQ105
  subst l105 y105 z105
  obtain ⟨rfl, N105q, q105_hh⟩ := hQ105
  have N105 := Fr.app N102 N105q
  have p106 : Go p.tables e below _ (T105.setTop (mkF m 28 #[.val (.ref a1), .val (.ref a2), .val (.int (Int32.ofNat (1 + own_nl cs i))), .val (.int (Int32.ofNat i)), .unset] [(.int (10 : Int32)), (.int (own_at cs i))])) := fun t_ k_ => (gcT p104 st105) t_ (by
   refine XS.bipush X105.here hx rfl (hb hby d5_26) ?_
   exact k_)
  by_cases c107 : (own_at cs i) = (10 : Int32)
  ·have p108 : Go p.tables e below _ (T105.setTop (mkF m 31 #[.val (.ref a1), .val (.ref a2), .val (.int (Int32.ofNat (1 + own_nl cs i))), .val (.int (Int32.ofNat i)), .unset] [])) := fun t_ k_ => p106 t_ (by
    refine XS.icmpNo X105.here hx rfl (hb hby d5_28) rfl (teq c107).2 ?_
    exact k_)
   have p109 : Go p.tables e below _ (T105.setTop (mkF m 13 #[.val (.ref a1), .val (.ref a2), .val (.int ((Int32.ofNat (1 + own_nl cs i)) + (1 : Int32))), .val (.int ((Int32.ofNat i) + (1 : Int32))), .unset] [])) := fun t_ k_ => p108 t_ (by
    refine XS.iinc X105.here hx rfl (hb hby d5_31) rfl (l' := #[.val (.ref a1), .val (.ref a2), .val (.int ((Int32.ofNat (1 + own_nl cs i)) + (1 : Int32))), .val (.int (Int32.ofNat i)), .unset]) rfl ?_
    refine XS.iinc X105.here hx rfl (hb hby d5_34) rfl (l' := #[.val (.ref a1), .val (.ref a2), .val (.int ((Int32.ofNat (1 + own_nl cs i)) + (1 : Int32))), .val (.int ((Int32.ofNat i) + (1 : Int32))), .unset]) rfl ?_
    refine XS.goto X105.here hx rfl (pc0 := 37) (pc' := 13) rfl (hb hby d5_37) (by decide) (by decide) ?_
    exact k_)
   obtain ⟨T', L', X', e', N', g'⟩ := ih (i + 1) T105 _ (by omega) X105 q105_hh N105
   refine ⟨T', L', X', e', N', fun t_ k_ => p109 t_ ?_⟩
   have z := g' t_ k_
   rw [own_nl_s, if_pos c107, ← Nat.add_assoc, own_up1 (1 + own_nl cs i), own_up1 i] at z
   exact z
  ·have p110 : Go p.tables e below _ (T105.setTop (mkF m 34 #[.val (.ref a1), .val (.ref a2), .val (.int (Int32.ofNat (1 + own_nl cs i))), .val (.int (Int32.ofNat i)), .unset] [])) := fun t_ k_ => p106 t_ (by
    refine XS.icmpYes X105.here hx rfl (pc0 := 28) (pc' := 34) rfl (hb hby d5_28) rfl (feq c107).2 (by decide) (by decide) ?_
    exact k_)
   have p111 : Go p.tables e below _ (T105.setTop (mkF m 13 #[.val (.ref a1), .val (.ref a2), .val (.int (Int32.ofNat (1 + own_nl cs i))), .val (.int ((Int32.ofNat i) + (1 : Int32))), .unset] [])) := fun t_ k_ => p110 t_ (by
    refine XS.iinc X105.here hx rfl (hb hby d5_34) rfl (l' := #[.val (.ref a1), .val (.ref a2), .val (.int (Int32.ofNat (1 + own_nl cs i))), .val (.int ((Int32.ofNat i) + (1 : Int32))), .unset]) rfl ?_
    refine XS.goto X105.here hx rfl (pc0 := 37) (pc' := 13) rfl (hb hby d5_37) (by decide) (by decide) ?_
    exact k_)
   obtain ⟨T', L', X', e', N', g'⟩ := ih (i + 1) T105 _ (by omega) X105 q105_hh N105
   refine ⟨T', L', X', e', N', fun t_ k_ => p111 t_ ?_⟩
   have z := g' t_ k_
   rw [own_nl_s, if_neg c107, Nat.add_zero, own_up1 i] at z
   exact z
theorem d5_52 : decode prog_16_method_1_code 52 = .ok (.iload 4, 2) := by decide +kernel
theorem d5_54 : decode prog_16_method_1_code 54 = .ok (.aload_n 1, 1) := by decide +kernel
theorem d5_55 : decode prog_16_method_1_code 55 = .ok (.invokevirtual 13, 3) := by decide +kernel
theorem d5_58 : decode prog_16_method_1_code 58 = .ok (.if_icmp .ge 33, 3) := by decide +kernel
theorem d5_61 : decode prog_16_method_1_code 61 = .ok (.aload_n 1, 1) := by decide +kernel
theorem d5_62 : decode prog_16_method_1_code 62 = .ok (.iload 4, 2) := by decide +kernel
theorem d5_64 : decode prog_16_method_1_code 64 = .ok (.invokevirtual 19, 3) := by decide +kernel
theorem d5_67 : decode prog_16_method_1_code 67 = .ok (.bipush 10, 2) := by decide +kernel
theorem d5_69 : decode prog_16_method_1_code 69 = .ok (.if_icmp .ne 16, 3) := by decide +kernel
theorem d5_72 : decode prog_16_method_1_code 72 = .ok (.aload_n 0, 1) := by decide +kernel
theorem d5_73 : decode prog_16_method_1_code 73 = .ok (.getfield 23, 3) := by decide +kernel
theorem d5_76 : decode prog_16_method_1_code 76 = .ok (.iload_n 3, 1) := by decide +kernel
theorem d5_77 : decode prog_16_method_1_code 77 = .ok (.iinc 3 1, 3) := by decide +kernel
theorem d5_80 : decode prog_16_method_1_code 80 = .ok (.iload 4, 2) := by decide +kernel
theorem d5_82 : decode prog_16_method_1_code 82 = .ok (.iconst 1, 1) := by decide +kernel
theorem d5_83 : decode prog_16_method_1_code 83 = .ok (.iadd, 1) := by decide +kernel
theorem d5_84 : decode prog_16_method_1_code 84 = .ok (.iastore, 1) := by decide +kernel
theorem d5_85 : decode prog_16_method_1_code 85 = .ok (.iinc 4 1, 3) := by decide +kernel
theorem d5_88 : decode prog_16_method_1_code 88 = .ok (.goto (-36), 3) := by decide +kernel
set_option maxRecDepth 65536 in
set_option maxHeartbeats 40000000 in
theorem lpB0 {p : Program} {l : Launch} {e : Env} {s : State} {m : MethodId} {args : Array Value} {below : List Frame} {meth : Method} {c : Code} (Z : State) (a0 : Array Value) (hx : p.tables.exec = Jvm.exec) (hZ : Z.Warmed39 s.vm) (hw : ∀ d ∈ tables_1, d.before a0 Z = true) (hby : c.code = prog_16_method_1_code) (hml : c.maxLocals = 5) (hown : s.vm.findClass "com/example/subsume/subsume/model/Lines" = some m.cls) (a1 : Addr) (a2 : Addr) (bv : Addr) (kv : ClassId) (z : Int32) (vs : List Value) (cs : List Int32) (n : Nat) (cs1 : Int32) (fm : Value) (bs : Addr) (ks : ClassId) (n0 : Nat) (G : own_G Z cs1 fm) (hz : (z >>> (0 : Int32)) = (Int32.ofNat n)) (hn : n ≤ 8) (HB : ∀ i, i < n → ∃ b : Int32, vs.getD ((Int32.ofNat i)).toNatClampNeg (.int (0 : Int32)) = .int b ∧ own_c8 b = own_at cs i) (hz0 : z = Int32.ofNat n) (m1 : a1 ≠ bs) (m2 : a2 ≠ bs) (m3 : bv ≠ bs) (gs : n0 ≤ bs) : ∀ (k i : Nat) (T : State) (h0 : Heap) (locs : List Loc), i + k = n → Stand p l e ({ frames := 6, cells := 1, slots := 9, locals := 150 } : Room) s m args below meth c T locs 1 9 → T.heap = h0 → n0 ≤ h0.size → Fr n0 locs → Old Z n0 h0 → Exa Z h0 a2 "java/lang/String" → Fld Z h0 a2 "java/lang/String" "coder" "B" (.int (0 : Int32)) → Fld Z h0 a2 "java/lang/String" "value" "[B" (.ref bv) → Arv Z h0 bv kv .byte z vs (.int (0 : Int32)) → Fld Z h0 a1 "com/example/subsume/subsume/model/Lines" "starts" "[I" (.ref bs) → Fld Z h0 a1 "com/example/subsume/subsume/model/Lines" "text" "Ljava/lang/String;" (.ref a2) → Exa Z h0 a1 "com/example/subsume/subsume/model/Lines" → Arv Z h0 bs ks .int (Int32.ofNat (1 + own_nl cs n)) ((own_st cs n i).map Value.int) (.int (0 : Int32)) → ∃ (T' : State) (h' : Heap) (lc : List Loc), Stand p l e ({ frames := 6, cells := 1, slots := 9, locals := 150 } : Room) s m args below meth c T' lc 1 9 ∧ T'.heap = h' ∧ Fr n0 lc ∧ Keep h0 h' [bs] ∧ Fld Z h' a1 "com/example/subsume/subsume/model/Lines" "starts" "[I" (.ref bs) ∧ Fld Z h' a1 "com/example/subsume/subsume/model/Lines" "text" "Ljava/lang/String;" (.ref a2) ∧ Exa Z h' a1 "com/example/subsume/subsume/model/Lines" ∧ Arv Z h' bs ks .int (Int32.ofNat (1 + own_nl cs n)) ((own_st cs n n).map Value.int) (.int (0 : Int32)) ∧ Go p.tables e below (T.setTop (mkF m 52 #[.val (.ref a1), .val (.ref a2), .val (.int (Int32.ofNat (1 + own_nl cs n))), .val (.int (Int32.ofNat (1 + own_nl cs i))), .val (.int (Int32.ofNat i))] [])) (T'.setTop (mkF m 91 #[.val (.ref a1), .val (.ref a2), .val (.int (Int32.ofNat (1 + own_nl cs n))), .val (.int (Int32.ofNat (1 + own_nl cs n))), .val (.int (Int32.ofNat n))] [])) := by
 intro k
 induction k with
 | zero =>
  intro i T h0 locs hk X0 e0 Z0 N0 O1 E2 G1 G2 V1 S1 S2 E1 V2
  have hin : i = n := by omega
  have hnl := own_nl_le cs i
  have hnn := own_nl_le cs n
  have p0 : Go p.tables e below (T.setTop (mkF m 52 #[.val (.ref a1), .val (.ref a2), .val (.int (Int32.ofNat (1 + own_nl cs n))), .val (.int (Int32.ofNat (1 + own_nl cs i))), .val (.int (Int32.ofNat i))] [])) (T.setTop (mkF m 52 #[.val (.ref a1), .val (.ref a2), .val (.int (Int32.ofNat (1 + own_nl cs n))), .val (.int (Int32.ofNat (1 + own_nl cs i))), .val (.int (Int32.ofNat i))] [])) := fun t_ k_ => k_
  have p101 : Go p.tables e below _ (T.setTop (mkF m 55 #[.val (.ref a1), .val (.ref a2), .val (.int (Int32.ofNat (1 + own_nl cs n))), .val (.int (Int32.ofNat (1 + own_nl cs i))), .val (.int (Int32.ofNat i))] [(.ref a2), (.int (Int32.ofNat i))])) := fun t_ k_ => p0 t_ (by
   refine XS.iload X0.here hx rfl (hb hby d5_52) rfl ?_
   refine XS.aloadN X0.here hx rfl (hb hby d5_54) rfl rfl ?_
   exact k_)
  obtain ⟨cq102, kq102, q102a, q102b, q102c⟩ := isOf hZ e0 E2
  obtain ⟨_, _, ⟨T102, L102, k102, n102⟩, -, X102, ⟨Lc102, hQ102, l102, y102, z102⟩, st102⟩ := X0.virtualBack hx (y := (⟨"java/lang/String", "length", "()I"⟩ : MethodName)) (z := (⟨"java/lang/String", "length", "()I"⟩ : MethodName)) hown (mvT hZ (own_w hw 37 rfl)) (mvT hZ (own_w hw 38 rfl)) (notFace_of_selects (args := #[]) (mvT hZ (own_w hw 40 rfl))) (mvT hZ (own_w hw 40 rfl)) (mvT hZ (own_w hw 39 rfl)) (by decide) (backOf (W := 1) (rm6_0 l Z a0 hw [] a2 (Int32.ofNat n) bv kv z vs cs1 fm h0 n0 (Nat.le_trans Z0 (Keep.refl h0 [bs]).1) O1 G E2 G1 G2 V1 hz) hZ (own_w hw 41 rfl) (own_w hw 9 rfl) (by decide) (by decide)) q102a q102c (g := (mkF m 55 #[.val (.ref a1), .val (.ref a2), .val (.int (Int32.ofNat (1 + own_nl cs n))), .val (.int (Int32.ofNat (1 + own_nl cs i))), .val (.int (Int32.ofNat i))] [(.ref a2), (.int (Int32.ofNat i))])) rfl (by rw [hml]; rfl) (Steps.refl _) (argsL := []) (rest := [(.int (Int32.ofNat i))]) (lenOf pd9 rfl) rfl (by show 2 * 0 + _ ≤ _; exact Nat.le_of_eq rfl) (hb hby d5_55) (fun _ _ => ⟨rfl, e0, (by decide : 1 + 0 ≤ _), (by decide : 9 + 0 ≤ _)⟩)
  dsimp only [Pt.U, Pt.locs, Pt.cells, Pt.slots] at X102 l102 y102 z102 st102 hQ102
  subst l102 y102 z102
  obtain ⟨rfl, N102q, q102_hh⟩ := hQ102
  have N102 := Fr.app N0 N102q
  have c103 : ¬ ((Int32.ofNat i) < (Int32.ofNat n)) := (fun q => by rw [own_lt32 (by omega) (by omega)] at q; omega)
  have p104 : Go p.tables e below _ (T102.setTop (mkF m 91 #[.val (.ref a1), .val (.ref a2), .val (.int (Int32.ofNat (1 + own_nl cs n))), .val (.int (Int32.ofNat (1 + own_nl cs i))), .val (.int (Int32.ofNat i))] [])) := fun t_ k_ => (gcT p101 st102) t_ (by
   refine XS.icmpYes X102.here hx rfl (pc0 := 58) (pc' := 91) rfl (hb hby d5_58) rfl (flt c103).2.1 (by decide) (by decide) ?_
   exact k_)
  subst hin; exact ⟨_, _, _, X102, q102_hh, N102, (Keep.refl h0 [bs]), S1, S2, E1, V2, p104⟩
 | succ k ih =>
  intro i T h0 locs hk X0 e0 Z0 N0 O1 E2 G1 G2 V1 S1 S2 E1 V2
  have hi : i < n := by omega
  have hnl := own_nl_le cs i
  have hnn := own_nl_le cs n
  have p0 : Go p.tables e below (T.setTop (mkF m 52 #[.val (.ref a1), .val (.ref a2), .val (.int (Int32.ofNat (1 + own_nl cs n))), .val (.int (Int32.ofNat (1 + own_nl cs i))), .val (.int (Int32.ofNat i))] [])) (T.setTop (mkF m 52 #[.val (.ref a1), .val (.ref a2), .val (.int (Int32.ofNat (1 + own_nl cs n))), .val (.int (Int32.ofNat (1 + own_nl cs i))), .val (.int (Int32.ofNat i))] [])) := fun t_ k_ => k_
  have p101 : Go p.tables e below _ (T.setTop (mkF m 55 #[.val (.ref a1), .val (.ref a2), .val (.int (Int32.ofNat (1 + own_nl cs n))), .val (.int (Int32.ofNat (1 + own_nl cs i))), .val (.int (Int32.ofNat i))] [(.ref a2), (.int (Int32.ofNat i))])) := fun t_ k_ => p0 t_ (by
   refine XS.iload X0.here hx rfl (hb hby d5_52) rfl ?_
   refine XS.aloadN X0.here hx rfl (hb hby d5_54) rfl rfl ?_
   exact k_)
  obtain ⟨cq102, kq102, q102a, q102b, q102c⟩ := isOf hZ e0 E2
  obtain ⟨_, _, ⟨T102, L102, k102, n102⟩, -, X102, ⟨Lc102, hQ102, l102, y102, z102⟩, st102⟩ := X0.virtualBack hx (y := (⟨"java/lang/String", "length", "()I"⟩ : MethodName)) (z := (⟨"java/lang/String", "length", "()I"⟩ : MethodName)) hown (mvT hZ (own_w hw 37 rfl)) (mvT hZ (own_w hw 38 rfl)) (notFace_of_selects (args := #[]) (mvT hZ (own_w hw 40 rfl))) (mvT hZ (own_w hw 40 rfl)) (mvT hZ (own_w hw 39 rfl)) (by decide) (backOf (W := 1) (rm6_0 l Z a0 hw [] a2 (Int32.ofNat n) bv kv z vs cs1 fm h0 n0 (Nat.le_trans Z0 (Keep.refl h0 [bs]).1) O1 G E2 G1 G2 V1 hz) hZ (own_w hw 41 rfl) (own_w hw 9 rfl) (by decide) (by decide)) q102a q102c (g := (mkF m 55 #[.val (.ref a1), .val (.ref a2), .val (.int (Int32.ofNat (1 + own_nl cs n))), .val (.int (Int32.ofNat (1 + own_nl cs i))), .val (.int (Int32.ofNat i))] [(.ref a2), (.int (Int32.ofNat i))])) rfl (by rw [hml]; rfl) (Steps.refl _) (argsL := []) (rest := [(.int (Int32.ofNat i))]) (lenOf pd9 rfl) rfl (by show 2 * 0 + _ ≤ _; exact Nat.le_of_eq rfl) (hb hby d5_55) (fun _ _ => ⟨rfl, e0, (by decide : 1 + 0 ≤ _), (by decide : 9 + 0 ≤ _)⟩)
  dsimp only [Pt.U, Pt.locs, Pt.cells, Pt.slots] at X102 l102 y102 z102 st102 hQ102
  subst l102 y102 z102
  obtain ⟨rfl, N102q, q102_hh⟩ := hQ102
  have N102 := Fr.app N0 N102q
  have c103 : ((Int32.ofNat i) < (Int32.ofNat n)) := (own_lt32 (by omega) (by omega)).mpr hi
  have p104 : Go p.tables e below _ (T102.setTop (mkF m 64 #[.val (.ref a1), .val (.ref a2), .val (.int (Int32.ofNat (1 + own_nl cs n))), .val (.int (Int32.ofNat (1 + own_nl cs i))), .val (.int (Int32.ofNat i))] [(.int (Int32.ofNat i)), (.ref a2)])) := fun t_ k_ => (gcT p101 st102) t_ (by
   refine XS.icmpNo X102.here hx rfl (hb hby d5_58) rfl (tlt c103).2.1 ?_
   refine XS.aloadN X102.here hx rfl (hb hby d5_61) rfl rfl ?_
   refine XS.iload X102.here hx rfl (hb hby d5_62) rfl ?_
   exact k_)
  obtain ⟨b, hg, hc⟩ := HB i hi
  obtain ⟨cq105, kq105, q105a, q105b, q105c⟩ := isOf hZ q102_hh E2
  obtain ⟨_, _, ⟨T105, L105, k105, n105⟩, -, X105, ⟨Lc105, hQ105, l105, y105, z105⟩, st105⟩ := X102.virtualBack hx (y := (⟨"java/lang/String", "charAt", "(I)C"⟩ : MethodName)) (z := (⟨"java/lang/String", "charAt", "(I)C"⟩ : MethodName)) hown (mvT hZ (own_w hw 76 rfl)) (mvT hZ (own_w hw 77 rfl)) (notFace_of_selects (args := #[]) (mvT hZ (own_w hw 79 rfl))) (mvT hZ (own_w hw 79 rfl)) (mvT hZ (own_w hw 78 rfl)) (by decide) (backOf (W := 0) (rm15_0 l Z a0 hw [] a2 (Int32.ofNat i) bv kv z vs b (own_at cs i) cs1 fm h0 n0 (Nat.le_trans Z0 (Keep.refl h0 [bs]).1) O1 G E2 G1 G2 V1 (own_nn32 (by omega)) (by rw [hz0]; exact (own_lt32 (by omega) (by omega)).mpr hi) hg hc) hZ (own_w hw 80 rfl) (own_w hw 9 rfl) (by decide) (by decide)) q105a q105c (g := (mkF m 64 #[.val (.ref a1), .val (.ref a2), .val (.int (Int32.ofNat (1 + own_nl cs n))), .val (.int (Int32.ofNat (1 + own_nl cs i))), .val (.int (Int32.ofNat i))] [(.int (Int32.ofNat i)), (.ref a2)])) rfl (by rw [hml]; rfl) (Steps.refl _) (argsL := [(.int (Int32.ofNat i))]) (rest := []) (lenOf pd10 rfl) rfl (by show 2 * 0 + _ ≤ _; exact Nat.le_of_eq rfl) (hb hby d5_64) (fun _ _ => ⟨rfl, q102_hh, (by decide : 1 + 0 ≤ _), (by decide : 9 + 0 ≤ _)⟩)
  dsimp only [Pt.U, Pt.locs, Pt.cells, Pt.slots] at X105 l105 y105 z105 st105 hQ105
  subst l105 y105 z105
  obtain ⟨rfl, N105q, q105_hh⟩ := hQ105
  have N105 := Fr.app N102 N105q
  have p106 : Go p.tables e below _ (T105.setTop (mkF m 69 #[.val (.ref a1), .val (.ref a2), .val (.int (Int32.ofNat (1 + own_nl cs n))), .val (.int (Int32.ofNat (1 + own_nl cs i))), .val (.int (Int32.ofNat i))] [(.int (10 : Int32)), (.int (own_at cs i))])) := fun t_ k_ => (gcT p104 st105) t_ (by
   refine XS.bipush X105.here hx rfl (hb hby d5_67) ?_
   exact k_)
  by_cases c107 : (own_at cs i) = (10 : Int32)
  ·have p108 : Go p.tables e below _ (T105.setTop (mkF m 72 #[.val (.ref a1), .val (.ref a2), .val (.int (Int32.ofNat (1 + own_nl cs n))), .val (.int (Int32.ofNat (1 + own_nl cs i))), .val (.int (Int32.ofNat i))] [])) := fun t_ k_ => p106 t_ (by
    refine XS.icmpNo X105.here hx rfl (hb hby d5_69) rfl (teq c107).2 ?_
    exact k_)
   have p109 : Go p.tables e below _ (T105.setTop (mkF m 73 #[.val (.ref a1), .val (.ref a2), .val (.int (Int32.ofNat (1 + own_nl cs n))), .val (.int (Int32.ofNat (1 + own_nl cs i))), .val (.int (Int32.ofNat i))] [(.ref a1)])) := fun t_ k_ => p108 t_ (by
    refine XS.aloadN X105.here hx rfl (hb hby d5_72) rfl rfl ?_
    exact k_)
   obtain ⟨T110, X110, e110, st110⟩ := getF X105 hx hZ hown (host := "") (Or.inl (own_w hw 49 rfl)) Via.refl q105_hh S1 (g := (mkF m 73 #[.val (.ref a1), .val (.ref a2), .val (.int (Int32.ofNat (1 + own_nl cs n))), .val (.int (Int32.ofNat (1 + own_nl cs i))), .val (.int (Int32.ofNat i))] [(.ref a1)])) rfl rfl (hb hby d5_73)
   have p111 : Go p.tables e below _ (T110.setTop (mkF m 84 #[.val (.ref a1), .val (.ref a2), .val (.int (Int32.ofNat (1 + own_nl cs n))), .val (.int ((Int32.ofNat (1 + own_nl cs i)) + (1 : Int32))), .val (.int (Int32.ofNat i))] [(.int ((Int32.ofNat i) + (1 : Int32))), (.int (Int32.ofNat (1 + own_nl cs i))), (.ref bs)])) := fun t_ k_ => (gc p109 st110) t_ (by
    refine XS.iloadN X110.here hx rfl (hb hby d5_76) rfl ?_
    refine XS.iinc X110.here hx rfl (hb hby d5_77) rfl (l' := #[.val (.ref a1), .val (.ref a2), .val (.int (Int32.ofNat (1 + own_nl cs n))), .val (.int ((Int32.ofNat (1 + own_nl cs i)) + (1 : Int32))), .val (.int (Int32.ofNat i))]) rfl ?_
    refine XS.iload X110.here hx rfl (hb hby d5_80) rfl ?_
    refine XS.iconst X110.here hx rfl (hb hby d5_82) ?_
    refine XS.iadd X110.here hx rfl (hb hby d5_83) rfl ?_
    exact k_)
   obtain ⟨cl112, Ar112, q112, S112, Ng112, H112, G112⟩ := id V2
   have hin112 := inb_of S112 (j := (Int32.ofNat (1 + own_nl cs i))) ⟨own_nn32 (by omega), (own_lt32 (by omega) (by omega)).mpr (own_nl_lt cs hi c107)⟩
   obtain ⟨T112, h112, X112, e112, W112, st112⟩ := stI X110 hx hZ e110 Ar112 (j := (Int32.ofNat (1 + own_nl cs i))) hin112 (g := (mkF m 84 #[.val (.ref a1), .val (.ref a2), .val (.int (Int32.ofNat (1 + own_nl cs n))), .val (.int ((Int32.ofNat (1 + own_nl cs i)) + (1 : Int32))), .val (.int (Int32.ofNat i))] [(.int ((Int32.ofNat i) + (1 : Int32))), (.int (Int32.ofNat (1 + own_nl cs i))), (.ref bs)])) rfl rfl (hb hby d5_84)
   have K113 : Keep h0 h112 [bs] := (Keep.refl h0 [bs]).wr W112 (Or.inl (List.mem_of_getElem? (i := 0) rfl))
   have N112 := Fr.snoc X112 N105 gs
   have V112 : Arv Z h112 bs ks .int (Int32.ofNat (1 + own_nl cs n)) ((own_st cs n (i + 1)).map Value.int) (.int (0 : Int32)) := by
    have z := Arv.set Ar112 q112 S112 Ng112 H112 G112 rfl W112 (1 + own_nl cs i) (own_cl32 (by omega)) (by rw [List.length_map, own_st_len]; exact own_nl_lt cs hi c107)
    rw [show own_st cs n (i + 1) = (own_st cs n i).set (1 + own_nl cs i) (Int32.ofNat (i + 1)) by simp [own_st, c107], List.map_set, own_up1 i]; exact z
   have p114 : Go p.tables e below _ (T112.setTop (mkF m 52 #[.val (.ref a1), .val (.ref a2), .val (.int (Int32.ofNat (1 + own_nl cs n))), .val (.int ((Int32.ofNat (1 + own_nl cs i)) + (1 : Int32))), .val (.int ((Int32.ofNat i) + (1 : Int32)))] [])) := fun t_ k_ => (gc p111 st112) t_ (by
    refine XS.iinc X112.here hx rfl (hb hby d5_85) rfl (l' := #[.val (.ref a1), .val (.ref a2), .val (.int (Int32.ofNat (1 + own_nl cs n))), .val (.int ((Int32.ofNat (1 + own_nl cs i)) + (1 : Int32))), .val (.int ((Int32.ofNat i) + (1 : Int32)))]) rfl ?_
    refine XS.goto X112.here hx rfl (pc0 := 88) (pc' := 52) rfl (hb hby d5_88) (by decide) (by decide) ?_
    exact k_)
   have f115 := (O1.wr W112 gs)
   have f116 := (E2.wr W112)
   have f117 := (G1.other W112 (Or.inl m2))
   have f118 := (G2.other W112 (Or.inl m2))
   have f119 := (V1.other W112 m3)
   have f120 := (S1.other W112 (Or.inl m1))
   have f121 := (S2.other W112 (Or.inl m1))
   have f122 := (E1.wr W112)
   obtain ⟨T', h', lc', X', e', N', K', S1', S2', E1', V2', g'⟩ := ih (i + 1) T112 h112 _ (by omega) X112 e112 (Nat.le_trans Z0 K113.1) N112 f115 f116 f117 f118 f119 f120 f121 f122 V112  
   refine ⟨T', h', lc', X', e', N', K113.trans K' (allS (Or.inl (List.mem_of_getElem? (i := 0) rfl)) all0), S1', S2', E1', V2', fun t_ k_ => p114 t_ ?_⟩
   have z := g' t_ k_
   rw [own_nl_s cs i, if_pos c107, ← Nat.add_assoc, own_up1 (1 + own_nl cs i), own_up1 i] at z
   exact z
  ·have p123 : Go p.tables e below _ (T105.setTop (mkF m 85 #[.val (.ref a1), .val (.ref a2), .val (.int (Int32.ofNat (1 + own_nl cs n))), .val (.int (Int32.ofNat (1 + own_nl cs i))), .val (.int (Int32.ofNat i))] [])) := fun t_ k_ => p106 t_ (by
    refine XS.icmpYes X105.here hx rfl (pc0 := 69) (pc' := 85) rfl (hb hby d5_69) rfl (feq c107).2 (by decide) (by decide) ?_
    exact k_)
   have p124 : Go p.tables e below _ (T105.setTop (mkF m 52 #[.val (.ref a1), .val (.ref a2), .val (.int (Int32.ofNat (1 + own_nl cs n))), .val (.int (Int32.ofNat (1 + own_nl cs i))), .val (.int ((Int32.ofNat i) + (1 : Int32)))] [])) := fun t_ k_ => p123 t_ (by
    refine XS.iinc X105.here hx rfl (hb hby d5_85) rfl (l' := #[.val (.ref a1), .val (.ref a2), .val (.int (Int32.ofNat (1 + own_nl cs n))), .val (.int (Int32.ofNat (1 + own_nl cs i))), .val (.int ((Int32.ofNat i) + (1 : Int32)))]) rfl ?_
    refine XS.goto X105.here hx rfl (pc0 := 88) (pc' := 52) rfl (hb hby d5_88) (by decide) (by decide) ?_
    exact k_)
   have V9 : Arv Z h0 bs ks .int (Int32.ofNat (1 + own_nl cs n)) ((own_st cs n (i + 1)).map Value.int) (.int (0 : Int32)) := by rw [show own_st cs n (i + 1) = own_st cs n i by simp [own_st, c107]]; exact V2
   obtain ⟨T', h', lc', X', e', N', K', S1', S2', E1', V2', g'⟩ := ih (i + 1) T105 h0 _ (by omega) X105 q105_hh (Nat.le_trans Z0 (Keep.refl h0 [bs]).1) N105 O1 E2 G1 G2 V1 S1 S2 E1 V9  
   refine ⟨T', h', lc', X', e', N', (Keep.refl h0 [bs]).trans K' (allS (Or.inl (List.mem_of_getElem? (i := 0) rfl)) all0), S1', S2', E1', V2', fun t_ k_ => p124 t_ ?_⟩
   have z := g' t_ k_
   rw [own_nl_s cs i, if_neg c107, Nat.add_zero, own_up1 i] at z
   exact z
theorem d5_0 : decode prog_16_method_1_code 0 = .ok (.aload_n 0, 1) := by decide +kernel
theorem d5_1 : decode prog_16_method_1_code 1 = .ok (.invokespecial 1, 3) := by decide +kernel
theorem d5_4 : decode prog_16_method_1_code 4 = .ok (.aload_n 0, 1) := by decide +kernel
theorem d5_5 : decode prog_16_method_1_code 5 = .ok (.aload_n 1, 1) := by decide +kernel
theorem d5_6 : decode prog_16_method_1_code 6 = .ok (.putfield 7, 3) := by decide +kernel
theorem d5_9 : decode prog_16_method_1_code 9 = .ok (.iconst 1, 1) := by decide +kernel
theorem d5_10 : decode prog_16_method_1_code 10 = .ok (.istore_n 2, 1) := by decide +kernel
theorem d5_11 : decode prog_16_method_1_code 11 = .ok (.iconst 0, 1) := by decide +kernel
theorem d5_12 : decode prog_16_method_1_code 12 = .ok (.istore_n 3, 1) := by decide +kernel
theorem d5_40 : decode prog_16_method_1_code 40 = .ok (.aload_n 0, 1) := by decide +kernel
theorem d5_41 : decode prog_16_method_1_code 41 = .ok (.iload_n 2, 1) := by decide +kernel
theorem d5_42 : decode prog_16_method_1_code 42 = .ok (.newarray .int, 2) := by decide +kernel
theorem d5_44 : decode prog_16_method_1_code 44 = .ok (.putfield 23, 3) := by decide +kernel
theorem d5_47 : decode prog_16_method_1_code 47 = .ok (.iconst 1, 1) := by decide +kernel
theorem d5_48 : decode prog_16_method_1_code 48 = .ok (.istore_n 3, 1) := by decide +kernel
theorem d5_49 : decode prog_16_method_1_code 49 = .ok (.iconst 0, 1) := by decide +kernel
theorem d5_50 : decode prog_16_method_1_code 50 = .ok (.istore 4, 2) := by decide +kernel
theorem d5_91 : decode prog_16_method_1_code 91 = .ok (.return_, 1) := by decide +kernel
theorem pn5 : plainFor (⟨"com/example/subsume/subsume/model/Lines", "<init>", "(Ljava/lang/String;)V"⟩ : MethodName) = true := plainFor_of_name (by first | (simp [plainName, overriddenIn]; done) | decide +kernel)
theorem ef_rm5_0 (m : MethodId) (a1 : Addr) (a2 : Addr) (bv : Addr) (kv : ClassId) (z : Int32) (vs : List Value) (cs : List Int32) (n : Nat) (cs1 : Int32) (fm : Value) : entryFrame m #[(.ref a1), (.ref a2)] 5 = mkF m 0 #[.val (.ref a1), .val (.ref a2), .unset, .unset, .unset] [] := by first | (simp [entryFrame, mkF, argsToLocals, Value.category]; done) | rfl
def Q5_0 (Z : State) (a1 : Addr) (a2 : Addr) (bv : Addr) (kv : ClassId) (z : Int32) (vs : List Value) (cs : List Int32) (n : Nat) (cs1 : Int32) (fm : Value) (h0 : Heap) (n0 : Nat) (v : Option Value) (h : Heap) (L : List Loc) : Prop := ∃ (bs : Addr) (ks : ClassId), v = none ∧ Fr n0 L ∧ (Keep h0 h [a1]) ∧ (Exa Z h a1 "com/example/subsume/subsume/model/Lines") ∧ (Fld Z h a1 "com/example/subsume/subsume/model/Lines" "text" "Ljava/lang/String;" (.ref a2)) ∧ (Fld Z h a1 "com/example/subsume/subsume/model/Lines" "starts" "[I" (.ref bs)) ∧ (Arv Z h bs ks .int (Int32.ofNat (1 + own_nl cs n)) ((own_st cs n n).map Value.int) (.int (0 : Int32))) ∧ (n0 ≤ bs) ∧ (h0.size ≤ bs) ∧ (a1 ≠ bs)
set_option maxRecDepth 65536 in
set_option maxHeartbeats 40000000 in
theorem rm5_0 (l : Launch) (Z : State) (a0 : Array Value) (hw : ∀ d ∈ tables_1, d.before a0 Z = true) (ws : List Jvm.Cond) (a1 : Addr) (a2 : Addr) (bv : Addr) (kv : ClassId) (z : Int32) (vs : List Value) (cs : List Int32) (n : Nat) (cs1 : Int32) (fm : Value) (h0 : Heap) (n0 : Nat) (Z0 : n0 ≤ h0.size) (O1 : Old Z n0 h0) (G : own_G Z cs1 fm) (E2 : Exa Z h0 a2 "java/lang/String") (G1 : Fld Z h0 a2 "java/lang/String" "coder" "B" (.int (0 : Int32))) (G2 : Fld Z h0 a2 "java/lang/String" "value" "[B" (.ref bv)) (V1 : Arv Z h0 bv kv .byte z vs (.int (0 : Int32))) (S1 : Fld Z h0 a1 "com/example/subsume/subsume/model/Lines" "starts" "[I" .null) (S2 : Fld Z h0 a1 "com/example/subsume/subsume/model/Lines" "text" "Ljava/lang/String;" .null) (E1 : Exa Z h0 a1 "com/example/subsume/subsume/model/Lines") (g1 : n0 ≤ a1) (n1 : a1 ≠ a2) (n2 : a1 ≠ bv) (hz : (z >>> (0 : Int32)) = (Int32.ofNat n)) (hn : n ≤ 8) (HB : ∀ i, i < n → ∃ b : Int32, vs.getD ((Int32.ofNat i)).toNatClampNeg (.int (0 : Int32)) = .int b ∧ own_c8 b = own_at cs i) (hz0 : z = Int32.ofNat n) :
  MetFree l (⟨"com/example/subsume/subsume/model/Lines", "<init>", "(Ljava/lang/String;)V"⟩ : MethodName) (head1 (Jvm.Cond.code (⟨"com/example/subsume/subsume/model/Lines", "<init>", "(Ljava/lang/String;)V"⟩ : MethodName) prog_16_method_1_code 5 none :: ws) ({ frames := 6, cells := 1, slots := 9, locals := 150 } : Room)) (fun a U => a = #[(.ref a1), (.ref a2)] ∧ Z.Warmed39 U.vm ∧ U.heap = h0) (fun _ _ _ _ _ => True) (fun _ U o U' => ∃ v L, o = .returned v ∧ Q5_0 Z a1 a2 bv kv z vs cs n cs1 fm h0 n0 v U'.heap L ∧ FrameEnd U o U' L ({ frames := 6, cells := 1, slots := 9, locals := 150 } : Room).cells ({ frames := 6, cells := 1, slots := 9, locals := 150 } : Room).slots) := by
 refine MetFree.of_bodySF pn5 hisR ?_
 intro p e s m args below meth c s₁ Bd hml0 hP hK
 obtain ⟨rfl, hZ, hh⟩ := hP
 have hx := Bd.exec
 have hby := Bd.bytes
 have hml : c.maxLocals = 5 := hml0
 have hown : s.vm.findClass "com/example/subsume/subsume/model/Lines" = some m.cls := findClass_of_methodNamed Bd.named
 have hnm := (name_of_methodNamed Bd.named Bd.method).1
 have X0 : Stand p l e ({ frames := 6, cells := 1, slots := 9, locals := 150 } : Room) s m #[(.ref a1), (.ref a2)] below meth c s₁ [] 0 0 := Stand.of_body Bd
 have e0 : s₁.heap = h0 := by rw [← hh, Bd.state]; rfl
 have N0 := Fr.nil n0
 have p0 : Go p.tables e below (s₁.setTop (entryFrame m #[(.ref a1), (.ref a2)] 5)) (s₁.setTop (mkF m 0 #[.val (.ref a1), .val (.ref a2), .unset, .unset, .unset] [])) := fun t_ k_ => castTop (ef_rm5_0 m a1 a2 bv kv z vs cs n cs1 fm) k_
 have p101 : Go p.tables e below _ (s₁.setTop (mkF m 1 #[.val (.ref a1), .val (.ref a2), .unset, .unset, .unset] [(.ref a1)])) := fun t_ k_ => p0 t_ (by
  refine XS.aloadN X0.here hx rfl (hb hby d5_0) rfl rfl ?_
  exact k_)
 obtain ⟨T102, X102, e102, st102⟩ := initO X0 hx hZ hown (own_w hw 34 rfl) (own_w hw 18 rfl) (own_w hw 19 rfl) e0 (g := (mkF m 1 #[.val (.ref a1), .val (.ref a2), .unset, .unset, .unset] [(.ref a1)])) rfl (by rw [hml]; rfl) rfl (hb hby d5_1) (by decide) (W := 0) (by show 2 * 0 + _ ≤ _; exact Nat.le_of_eq rfl) (by decide)
 have p103 : Go p.tables e below _ (T102.setTop (mkF m 6 #[.val (.ref a1), .val (.ref a2), .unset, .unset, .unset] [(.ref a2), (.ref a1)])) := fun t_ k_ => (gc p101 st102) t_ (by
  refine XS.aloadN X102.here hx rfl (hb hby d5_4) rfl rfl ?_
  refine XS.aloadN X102.here hx rfl (hb hby d5_5) rfl rfl ?_
  exact k_)
 obtain ⟨T104, h104, X104, e104, W104, st104⟩ := putF X102 hx hZ hown (host := "") (Or.inl (own_w hw 35 rfl)) Via.refl e102 S2 E1 (Or.inr ⟨(own_w hw 36 rfl), rfl, hnm⟩) (own_w hw 29 rfl) (ty := (.object "java/lang/String")) (by decide) rfl rfl (g := (mkF m 6 #[.val (.ref a1), .val (.ref a2), .unset, .unset, .unset] [(.ref a2), (.ref a1)])) rfl rfl (hb hby d5_6)
 have K105 : Keep h0 h104 [a1] := (Keep.refl h0 [a1]).wr W104 (Or.inl (List.mem_of_getElem? (i := 0) rfl))
 have N104 := Fr.snoc X104 N0 g1
 have F104 : Fld Z h104 a1 "com/example/subsume/subsume/model/Lines" "text" "Ljava/lang/String;" (.ref a2) := S2.same W104
 have p106 : Go p.tables e below _ (T104.setTop (mkF m 13 #[.val (.ref a1), .val (.ref a2), .val (.int (1 : Int32)), .val (.int (0 : Int32)), .unset] [])) := fun t_ k_ => (gc p103 st104) t_ (by
  refine XS.iconst X104.here hx rfl (hb hby d5_9) ?_
  refine XS.istoreN X104.here hx rfl (hb hby d5_10) rfl (l' := #[.val (.ref a1), .val (.ref a2), .val (.int (1 : Int32)), .unset, .unset]) rfl ?_
  refine XS.iconst X104.here hx rfl (hb hby d5_11) ?_
  refine XS.istoreN X104.here hx rfl (hb hby d5_12) rfl (l' := #[.val (.ref a1), .val (.ref a2), .val (.int (1 : Int32)), .val (.int (0 : Int32)), .unset]) rfl ?_
  exact k_)
 have hnn := own_nl_le cs n
 have p108 : Go p.tables e below _ (T104.setTop (mkF m 13 #[.val (.ref a1), .val (.ref a2), .val (.int (Int32.ofNat (1 + own_nl cs 0))), .val (.int (Int32.ofNat 0)), .unset] [])) := p106
 have f109 := (O1.wr W104 g1)
 have f110 := (E2.wr W104)
 have f111 := (G1.other W104 (Or.inl (Ne.symm n1)))
 have f112 := (G2.other W104 (Or.inl (Ne.symm n1)))
 have f113 := (V1.other W104 (Ne.symm n2))
 obtain ⟨T107, L107, X107, e107, N107, g107⟩ := lpA0 Z a0 hx hZ hw hby hml hown a1 a2 bv kv z vs cs n cs1 fm h104 n0 (Nat.le_trans Z0 K105.1) f109 G f110 f111 f112 f113 hz hn HB hz0 n 0 T104 _ (by omega) X104 e104 N104
 have p114 : Go p.tables e below _ (T107.setTop (mkF m 40 #[.val (.ref a1), .val (.ref a2), .val (.int (Int32.ofNat (1 + own_nl cs n))), .val (.int (Int32.ofNat n)), .unset] [])) := fun t_ k_ => p108 t_ (g107 t_ k_)
 have p115 : Go p.tables e below _ (T107.setTop (mkF m 42 #[.val (.ref a1), .val (.ref a2), .val (.int (Int32.ofNat (1 + own_nl cs n))), .val (.int (Int32.ofNat n)), .unset] [(.int (Int32.ofNat (1 + own_nl cs n))), (.ref a1)])) := fun t_ k_ => p114 t_ (by
  refine XS.aloadN X107.here hx rfl (hb hby d5_40) rfl rfl ?_
  refine XS.iloadN X107.here hx rfl (hb hby d5_41) rfl ?_
  exact k_)
 obtain ⟨T116, h116, k116, X116, e116, E116, A116, st116⟩ := newP X107 hx hZ (own_w hw 48 rfl) e107 (g := (mkF m 42 #[.val (.ref a1), .val (.ref a2), .val (.int (Int32.ofNat (1 + own_nl cs n))), .val (.int (Int32.ofNat n)), .unset] [(.int (Int32.ofNat (1 + own_nl cs n))), (.ref a1)])) rfl (hb hby d5_42) rfl (own_nn32 (by omega)) (cap := 9) (by rw [own_cl32 (by omega)]; omega) (by decide) (by decide) (by decide)
 obtain ⟨b116, g116⟩ : ∃ z, z = h104.size := ⟨_, rfl⟩
 rw [← g116] at A116 st116
 have ne_a2_b116 : a2 ≠ b116 := Nat.ne_of_lt (Nat.lt_of_lt_of_le f110.lt (Nat.le_of_eq g116.symm))
 have ne_bv_b116 : bv ≠ b116 := Nat.ne_of_lt (Nat.lt_of_lt_of_le f113.lt (Nat.le_of_eq g116.symm))
 have f117 := (S1.other W104 (Or.inr (slot_ne (Or.inr (own_w hw 50 rfl)) (Or.inr (own_w hw 36 rfl)) (by decide) (t := (.array .int)) (t' := (.object "java/lang/String")) (by decide) (by decide))))
 have ne_a1_b116 : a1 ≠ b116 := Nat.ne_of_lt (Nat.lt_of_lt_of_le f117.lt (Nat.le_of_eq g116.symm))
 have ge_b116 : n0 ≤ b116 := Nat.le_trans (Nat.le_trans Z0 K105.1) (Nat.le_of_eq g116.symm)
 have sz_b116 : h0.size ≤ b116 := Nat.le_trans K105.1 (Nat.le_of_eq g116.symm)
 have K118 : Keep h0 h116 [a1] := K105.ext E116
 have V116 : Arv Z h116 b116 k116 .int (Int32.ofNat (1 + own_nl cs n)) [] (.int (0 : Int32)) := Arv.new A116 (own_nn32 (by omega))
 have f119 := (f117.ext E116)
 have f120 := ((E1.wr W104).ext E116)
 obtain ⟨T121, h121, X121, e121, W121, st121⟩ := putF X116 hx hZ hown (host := "") (Or.inl (own_w hw 49 rfl)) Via.refl e116 f119 f120 (Or.inr ⟨(own_w hw 50 rfl), rfl, hnm⟩) (own_w hw 29 rfl) (ty := (.array .int)) (by decide) rfl rfl (g := (mkF m 44 #[.val (.ref a1), .val (.ref a2), .val (.int (Int32.ofNat (1 + own_nl cs n))), .val (.int (Int32.ofNat n)), .unset] [(.ref b116), (.ref a1)])) rfl rfl (hb hby d5_44)
 have K122 : Keep h0 h121 [a1] := K118.wr W121 (Or.inl (List.mem_of_getElem? (i := 0) rfl))
 have N121 := Fr.snoc X121 N107 g1
 have F121 : Fld Z h121 a1 "com/example/subsume/subsume/model/Lines" "starts" "[I" (.ref b116) := f119.same W121
 have p123 : Go p.tables e below _ (T121.setTop (mkF m 52 #[.val (.ref a1), .val (.ref a2), .val (.int (Int32.ofNat (1 + own_nl cs n))), .val (.int (1 : Int32)), .val (.int (0 : Int32))] [])) := fun t_ k_ => (gc (gc p115 st116) st121) t_ (by
  refine XS.iconst X121.here hx rfl (hb hby d5_47) ?_
  refine XS.istoreN X121.here hx rfl (hb hby d5_48) rfl (l' := #[.val (.ref a1), .val (.ref a2), .val (.int (Int32.ofNat (1 + own_nl cs n))), .val (.int (1 : Int32)), .unset]) rfl ?_
  refine XS.iconst X121.here hx rfl (hb hby d5_49) ?_
  refine XS.istore X121.here hx rfl (hb hby d5_50) rfl (l' := #[.val (.ref a1), .val (.ref a2), .val (.int (Int32.ofNat (1 + own_nl cs n))), .val (.int (1 : Int32)), .val (.int (0 : Int32))]) rfl ?_
  exact k_)
 have p125 : Go p.tables e below _ (T121.setTop (mkF m 52 #[.val (.ref a1), .val (.ref a2), .val (.int (Int32.ofNat (1 + own_nl cs n))), .val (.int (Int32.ofNat (1 + own_nl cs 0))), .val (.int (Int32.ofNat 0))] [])) := p123
 have f126 := (V116.other W121 (Ne.symm ne_a1_b116))
 have vs0 : Arv Z h121 b116 k116 .int (Int32.ofNat (1 + own_nl cs n)) ((own_st cs n 0).map Value.int) (.int (0 : Int32)) := f126.pad (by intro i; have z := pad_rep [] (Value.int (0 : Int32)) (1 + own_nl cs n) i; simpa [own_st, List.map_replicate] using z)
 have f127 := ((f109.ext E116).wr W121 g1)
 have f128 := ((f110.ext E116).wr W121)
 have f129 := ((f111.ext E116).other W121 (Or.inl (Ne.symm n1)))
 have f130 := ((f112.ext E116).other W121 (Or.inl (Ne.symm n1)))
 have f131 := ((f113.ext E116).other W121 (Ne.symm n2))
 have f132 := ((F104.ext E116).other W121 (Or.inr (slot_ne (Or.inr (own_w hw 36 rfl)) (Or.inr (own_w hw 50 rfl)) (by decide) (t := (.object "java/lang/String")) (t' := (.array .int)) (by decide) (by decide))))
 have f133 := (f120.wr W121)
 obtain ⟨T124, h124, lc124, X124, e124, N124, K124, S1124, S2124, E1124, V2124, g124⟩ := lpB0 Z a0 hx hZ hw hby hml hown a1 a2 bv kv z vs cs n cs1 fm b116 k116 n0 G hz hn HB hz0 ne_a1_b116 ne_a2_b116 ne_bv_b116 ge_b116  n 0 T121 h121 _ (by omega) X121 e121 (Nat.le_trans Z0 K122.1) N121 f127 f128 f129 f130 f131 F121 f132 f133 vs0
 have K134 : Keep h0 h124 [a1] := K122.trans K124 (allS (Or.inr sz_b116) all0)
 have p135 : Go p.tables e below _ (T124.setTop (mkF m 91 #[.val (.ref a1), .val (.ref a2), .val (.int (Int32.ofNat (1 + own_nl cs n))), .val (.int (Int32.ofNat (1 + own_nl cs n))), .val (.int (Int32.ofNat n))] [])) := fun t_ k_ => p125 t_ (g124 t_ k_)
 obtain ⟨fs, hr, hrun, hended, hW, hsame⟩ := X124.leave (v := none) (fun _ => rfl)
 refine ⟨_, _, p135 _ (X124.returnOut hx Bd.returns (hb hby d5_91) hr), hrun, hended, _, _, rfl, ?_, ⟨_, rfl⟩, hW, hsame.mono (by decide) (by decide)⟩
 show Q5_0 Z a1 a2 bv kv z vs cs n cs1 fm h0 n0 _ T124.heap _
 rw [e124]
 exact ⟨b116, k116, rfl, N124, K134, E1124, S2124, S1124, V2124, ge_b116, sz_b116, ne_a1_b116⟩
theorem d1_0 : decode method_2_code 0 = .ok (.lload_n 0, 1) := by decide +kernel
theorem d1_1 : decode method_2_code 1 = .ok (.bipush 9, 2) := by decide +kernel
theorem d1_3 : decode method_2_code 3 = .ok (.iload_n 2, 1) := by decide +kernel
theorem d1_4 : decode method_2_code 4 = .ok (.imul, 1) := by decide +kernel
theorem d1_5 : decode method_2_code 5 = .ok (.lushr, 1) := by decide +kernel
theorem d1_6 : decode method_2_code 6 = .ok (.ldc2_w 7, 3) := by decide +kernel
theorem d1_9 : decode method_2_code 9 = .ok (.land, 1) := by decide +kernel
theorem d1_10 : decode method_2_code 10 = .ok (.l2i, 1) := by decide +kernel
theorem d1_11 : decode method_2_code 11 = .ok (.istore_n 3, 1) := by decide +kernel
theorem d1_12 : decode method_2_code 12 = .ok (.iload_n 3, 1) := by decide +kernel
theorem d1_13 : decode method_2_code 13 = .ok (.sipush 256, 3) := by decide +kernel
theorem d1_16 : decode method_2_code 16 = .ok (.iand, 1) := by decide +kernel
theorem d1_17 : decode method_2_code 17 = .ok (.ifCond .eq 6, 3) := by decide +kernel
theorem d1_20 : decode method_2_code 20 = .ok (.bipush 10, 2) := by decide +kernel
theorem d1_22 : decode method_2_code 22 = .ok (.ireturn, 1) := by decide +kernel
theorem d1_23 : decode method_2_code 23 = .ok (.iload_n 3, 1) := by decide +kernel
theorem d1_24 : decode method_2_code 24 = .ok (.sipush 255, 3) := by decide +kernel
theorem d1_27 : decode method_2_code 27 = .ok (.iand, 1) := by decide +kernel
theorem d1_28 : decode method_2_code 28 = .ok (.i2c, 1) := by decide +kernel
theorem d1_29 : decode method_2_code 29 = .ok (.ireturn, 1) := by decide +kernel
theorem pn1 : plainFor (⟨"com/example/subsume/subsume/model/LinesLinePinLaw", "ch", "(JI)C"⟩ : MethodName) = true := plainFor_of_name (by first | (simp [plainName, overriddenIn]; done) | decide +kernel)
theorem ef_rm1 (m : MethodId) (q1 : Int64) (p2 : Int32) : entryFrame m #[(.long q1), (.int p2)] 4 = mkF m 0 #[.val (.long q1), .second, .val (.int p2), .unset] [] := by first | (simp [entryFrame, mkF, argsToLocals, Value.category]; done) | rfl
def Q1 (Z : State) (q1 : Int64) (p2 : Int32) (h0 : Heap) (n0 : Nat) (v : Option Value) (h : Heap) (L : List Loc) : Prop := ∃ (cc : Int32), v = some (.int cc) ∧ Fr n0 L ∧ (h = h0) ∧ (¬ (cc < (0 : Int32))) ∧ (¬ ((255 : Int32) < cc))
set_option maxRecDepth 65536 in
set_option maxHeartbeats 40000000 in
theorem rm1 (l : Launch) (Z : State) (a0 : Array Value) (hw : ∀ d ∈ tables_1, d.before a0 Z = true) (ws : List Jvm.Cond) (q1 : Int64) (p2 : Int32) (h0 : Heap) (n0 : Nat) (Z0 : n0 ≤ h0.size) :
  MetFree l (⟨"com/example/subsume/subsume/model/LinesLinePinLaw", "ch", "(JI)C"⟩ : MethodName) (head1 (Jvm.Cond.code (⟨"com/example/subsume/subsume/model/LinesLinePinLaw", "ch", "(JI)C"⟩ : MethodName) method_2_code 4 (some .char) :: ws) ({ frames := 0, cells := 0, slots := 0, locals := 0 } : Room)) (fun a U => a = #[(.long q1), (.int p2)] ∧ Z.Warmed39 U.vm ∧ U.heap = h0) (fun _ _ _ _ _ => True) (fun _ U o U' => ∃ v L, o = .returned v ∧ Q1 Z q1 p2 h0 n0 v U'.heap L ∧ FrameEnd U o U' L ({ frames := 0, cells := 0, slots := 0, locals := 0 } : Room).cells ({ frames := 0, cells := 0, slots := 0, locals := 0 } : Room).slots) := by
 refine MetFree.of_bodySF pn1 hisR ?_
 intro p e s m args below meth c s₁ Bd hml0 hP hK
 obtain ⟨rfl, hZ, hh⟩ := hP
 have hx := Bd.exec
 have hby := Bd.bytes
 have hml : c.maxLocals = 4 := hml0
 have hown : s.vm.findClass "com/example/subsume/subsume/model/LinesLinePinLaw" = some m.cls := findClass_of_methodNamed Bd.named
 have hnm := (name_of_methodNamed Bd.named Bd.method).1
 have X0 : Stand p l e ({ frames := 0, cells := 0, slots := 0, locals := 0 } : Room) s m #[(.long q1), (.int p2)] below meth c s₁ [] 0 0 := Stand.of_body Bd
 have e0 : s₁.heap = h0 := by rw [← hh, Bd.state]; rfl
 have N0 := Fr.nil n0
 have p0 : Go p.tables e below (s₁.setTop (entryFrame m #[(.long q1), (.int p2)] 4)) (s₁.setTop (mkF m 0 #[.val (.long q1), .second, .val (.int p2), .unset] [])) := fun t_ k_ => castTop (ef_rm1 m q1 p2) k_
 have p101 : Go p.tables e below _ (s₁.setTop (mkF m 17 #[.val (.long q1), .second, .val (.int p2), .val (.int ((((q1.toUInt64 >>> (((9 : Int32) * p2) &&& 63).toInt64.toUInt64).toInt64) &&& (511 : Int64)).toInt32))] [(.int (((((q1.toUInt64 >>> (((9 : Int32) * p2) &&& 63).toInt64.toUInt64).toInt64) &&& (511 : Int64)).toInt32) &&& (256 : Int32)))])) := fun t_ k_ => p0 t_ (by
  refine XS.lloadN X0.here hx rfl (hb hby d1_0) rfl ?_
  refine XS.bipush X0.here hx rfl (hb hby d1_1) ?_
  refine XS.iloadN X0.here hx rfl (hb hby d1_3) rfl ?_
  refine XS.imul X0.here hx rfl (hb hby d1_4) rfl ?_
  refine XS.lushr X0.here hx rfl (hb hby d1_5) rfl ?_
  refine X0.ldc2Long hx hown (mvT hZ (own_w hw 5 rfl)) (g := (mkF m 6 #[.val (.long q1), .second, .val (.int p2), .unset] [(.long ((q1.toUInt64 >>> (((9 : Int32) * p2) &&& 63).toInt64.toUInt64).toInt64))])) rfl (hb hby d1_6) _ ?_
  refine XS.land X0.here hx rfl (hb hby d1_9) rfl ?_
  refine XS.l2i X0.here hx rfl (hb hby d1_10) rfl ?_
  refine XS.istoreN X0.here hx rfl (hb hby d1_11) rfl (l' := #[.val (.long q1), .second, .val (.int p2), .val (.int ((((q1.toUInt64 >>> (((9 : Int32) * p2) &&& 63).toInt64.toUInt64).toInt64) &&& (511 : Int64)).toInt32))]) rfl ?_
  refine XS.iloadN X0.here hx rfl (hb hby d1_12) rfl ?_
  refine XS.sipush X0.here hx rfl (hb hby d1_13) ?_
  refine XS.iand X0.here hx rfl (hb hby d1_16) rfl ?_
  exact k_)
 by_cases c102 : (((((q1.toUInt64 >>> (((9 : Int32) * p2) &&& 63).toInt64.toUInt64).toInt64) &&& (511 : Int64)).toInt32) &&& (256 : Int32)) = (0 : Int32)
 ·have p103 : Go p.tables e below _ (s₁.setTop (mkF m 23 #[.val (.long q1), .second, .val (.int p2), .val (.int ((((q1.toUInt64 >>> (((9 : Int32) * p2) &&& 63).toInt64.toUInt64).toInt64) &&& (511 : Int64)).toInt32))] [])) := fun t_ k_ => p101 t_ (by
   refine XS.ifYes X0.here hx rfl (pc0 := 17) (pc' := 23) rfl (hb hby d1_17) rfl ((if0 _ _).trans (teq c102).1) (by decide) (by decide) ?_
   exact k_)
  have p104 : Go p.tables e below _ (s₁.setTop (mkF m 29 #[.val (.long q1), .second, .val (.int p2), .val (.int ((((q1.toUInt64 >>> (((9 : Int32) * p2) &&& 63).toInt64.toUInt64).toInt64) &&& (511 : Int64)).toInt32))] [(.int ((((((q1.toUInt64 >>> (((9 : Int32) * p2) &&& 63).toInt64.toUInt64).toInt64) &&& (511 : Int64)).toInt32) &&& (255 : Int32)).toUInt32.toUInt16.toUInt32.toInt32))])) := fun t_ k_ => p103 t_ (by
   refine XS.iloadN X0.here hx rfl (hb hby d1_23) rfl ?_
   refine XS.sipush X0.here hx rfl (hb hby d1_24) ?_
   refine XS.iand X0.here hx rfl (hb hby d1_27) rfl ?_
   refine XS.i2c X0.here hx rfl (hb hby d1_28) rfl ?_
   exact k_)
  obtain ⟨fs, hr, hrun, hended, hW, hsame⟩ := X0.leave (v := some (.int (nar .char ((((((q1.toUInt64 >>> (((9 : Int32) * p2) &&& 63).toInt64.toUInt64).toInt64) &&& (511 : Int64)).toInt32) &&& (255 : Int32)).toUInt32.toUInt16.toUInt32.toInt32)))) (fun h => by rw [Bd.returns] at h; cases h)
  refine ⟨_, _, p104 _ (retN X0 hx (t := .char) Bd.returns (by simp) (hb hby d1_29) hr), hrun, hended, _, _, rfl, ?_, ⟨_, rfl⟩, hW, hsame.mono (by decide) (by decide)⟩
  show Q1 Z q1 p2 h0 n0 _ s₁.heap _
  rw [e0]
  exact ⟨_, rfl, N0, rfl, (own_n255 _).1, (own_n255 _).2⟩
 ·have p105 : Go p.tables e below _ (s₁.setTop (mkF m 20 #[.val (.long q1), .second, .val (.int p2), .val (.int ((((q1.toUInt64 >>> (((9 : Int32) * p2) &&& 63).toInt64.toUInt64).toInt64) &&& (511 : Int64)).toInt32))] [])) := fun t_ k_ => p101 t_ (by
   refine XS.ifNo X0.here hx rfl (hb hby d1_17) rfl ((if0 _ _).trans (feq c102).1) ?_
   exact k_)
  have p106 : Go p.tables e below _ (s₁.setTop (mkF m 22 #[.val (.long q1), .second, .val (.int p2), .val (.int ((((q1.toUInt64 >>> (((9 : Int32) * p2) &&& 63).toInt64.toUInt64).toInt64) &&& (511 : Int64)).toInt32))] [(.int (10 : Int32))])) := fun t_ k_ => p105 t_ (by
   refine XS.bipush X0.here hx rfl (hb hby d1_20) ?_
   exact k_)
  obtain ⟨fs, hr, hrun, hended, hW, hsame⟩ := X0.leave (v := some (.int (10 : Int32))) (fun h => by rw [Bd.returns] at h; cases h)
  refine ⟨_, _, p106 _ (retN X0 hx (t := .char) Bd.returns (by simp) (hb hby d1_22) hr), hrun, hended, _, _, rfl, ?_, ⟨_, rfl⟩, hW, hsame.mono (by decide) (by decide)⟩
  show Q1 Z q1 p2 h0 n0 _ s₁.heap _
  rw [e0]
  exact ⟨_, rfl, N0, rfl, by decide, by decide⟩
theorem d11_0 : decode method_3_code 0 = .ok (.iload_n 1, 1) := by decide +kernel
theorem d11_1 : decode method_3_code 1 = .ok (.iload_n 2, 1) := by decide +kernel
theorem d11_2 : decode method_3_code 2 = .ok (.if_icmp .ge 11, 3) := by decide +kernel
theorem d11_5 : decode method_3_code 5 = .ok (.iload_n 0, 1) := by decide +kernel
theorem d11_6 : decode method_3_code 6 = .ok (.bipush 10, 2) := by decide +kernel
theorem d11_8 : decode method_3_code 8 = .ok (.if_icmp .ne 5, 3) := by decide +kernel
theorem d11_11 : decode method_3_code 11 = .ok (.iconst 1, 1) := by decide +kernel
theorem d11_12 : decode method_3_code 12 = .ok (.ireturn, 1) := by decide +kernel
theorem d11_13 : decode method_3_code 13 = .ok (.iconst 0, 1) := by decide +kernel
theorem d11_14 : decode method_3_code 14 = .ok (.ireturn, 1) := by decide +kernel
theorem pn11 : plainFor (⟨"com/example/subsume/subsume/model/LinesLinePinLaw", "nl", "(CII)I"⟩ : MethodName) = true := plainFor_of_name (by first | (simp [plainName, overriddenIn]; done) | decide +kernel)
theorem ef_rm11 (m : MethodId) (p1 : Int32) (i : Nat) (ko : Nat) : entryFrame m #[(.int p1), (.int (Int32.ofNat i)), (.int (Int32.ofNat ko))] 3 = mkF m 0 #[.val (.int p1), .val (.int (Int32.ofNat i)), .val (.int (Int32.ofNat ko))] [] := by first | (simp [entryFrame, mkF, argsToLocals, Value.category]; done) | rfl
def Q11 (Z : State) (p1 : Int32) (i : Nat) (ko : Nat) (h0 : Heap) (n0 : Nat) (v : Option Value) (h : Heap) (L : List Loc) : Prop := v = some (.int (own_n1 p1 i ko)) ∧ Fr n0 L ∧ (h = h0)
set_option maxRecDepth 65536 in
set_option maxHeartbeats 40000000 in
theorem rm11 (l : Launch) (Z : State) (a0 : Array Value) (hw : ∀ d ∈ tables_1, d.before a0 Z = true) (ws : List Jvm.Cond) (p1 : Int32) (i : Nat) (ko : Nat) (h0 : Heap) (n0 : Nat) (Z0 : n0 ≤ h0.size) (hi : i < 8) (hko : ko < 8) :
  MetFree l (⟨"com/example/subsume/subsume/model/LinesLinePinLaw", "nl", "(CII)I"⟩ : MethodName) (head1 (Jvm.Cond.code (⟨"com/example/subsume/subsume/model/LinesLinePinLaw", "nl", "(CII)I"⟩ : MethodName) method_3_code 3 (some .int) :: ws) ({ frames := 0, cells := 0, slots := 0, locals := 0 } : Room)) (fun a U => a = #[(.int p1), (.int (Int32.ofNat i)), (.int (Int32.ofNat ko))] ∧ Z.Warmed39 U.vm ∧ U.heap = h0) (fun _ _ _ _ _ => True) (fun _ U o U' => ∃ v L, o = .returned v ∧ Q11 Z p1 i ko h0 n0 v U'.heap L ∧ FrameEnd U o U' L ({ frames := 0, cells := 0, slots := 0, locals := 0 } : Room).cells ({ frames := 0, cells := 0, slots := 0, locals := 0 } : Room).slots) := by
 refine MetFree.of_bodySF pn11 hisR ?_
 intro p e s m args below meth c s₁ Bd hml0 hP hK
 obtain ⟨rfl, hZ, hh⟩ := hP
 have hx := Bd.exec
 have hby := Bd.bytes
 have hml : c.maxLocals = 3 := hml0
 have hown : s.vm.findClass "com/example/subsume/subsume/model/LinesLinePinLaw" = some m.cls := findClass_of_methodNamed Bd.named
 have hnm := (name_of_methodNamed Bd.named Bd.method).1
 have X0 : Stand p l e ({ frames := 0, cells := 0, slots := 0, locals := 0 } : Room) s m #[(.int p1), (.int (Int32.ofNat i)), (.int (Int32.ofNat ko))] below meth c s₁ [] 0 0 := Stand.of_body Bd
 have e0 : s₁.heap = h0 := by rw [← hh, Bd.state]; rfl
 have N0 := Fr.nil n0
 have p0 : Go p.tables e below (s₁.setTop (entryFrame m #[(.int p1), (.int (Int32.ofNat i)), (.int (Int32.ofNat ko))] 3)) (s₁.setTop (mkF m 0 #[.val (.int p1), .val (.int (Int32.ofNat i)), .val (.int (Int32.ofNat ko))] [])) := fun t_ k_ => castTop (ef_rm11 m p1 i ko) k_
 have p101 : Go p.tables e below _ (s₁.setTop (mkF m 2 #[.val (.int p1), .val (.int (Int32.ofNat i)), .val (.int (Int32.ofNat ko))] [(.int (Int32.ofNat ko)), (.int (Int32.ofNat i))])) := fun t_ k_ => p0 t_ (by
  refine XS.iloadN X0.here hx rfl (hb hby d11_0) rfl ?_
  refine XS.iloadN X0.here hx rfl (hb hby d11_1) rfl ?_
  exact k_)
 by_cases c102 : (Int32.ofNat i) < (Int32.ofNat ko)
 ·have p103 : Go p.tables e below _ (s₁.setTop (mkF m 5 #[.val (.int p1), .val (.int (Int32.ofNat i)), .val (.int (Int32.ofNat ko))] [])) := fun t_ k_ => p101 t_ (by
   refine XS.icmpNo X0.here hx rfl (hb hby d11_2) rfl (tlt c102).2.1 ?_
   exact k_)
  have p104 : Go p.tables e below _ (s₁.setTop (mkF m 8 #[.val (.int p1), .val (.int (Int32.ofNat i)), .val (.int (Int32.ofNat ko))] [(.int (10 : Int32)), (.int p1)])) := fun t_ k_ => p103 t_ (by
   refine XS.iloadN X0.here hx rfl (hb hby d11_5) rfl ?_
   refine XS.bipush X0.here hx rfl (hb hby d11_6) ?_
   exact k_)
  by_cases c105 : p1 = (10 : Int32)
  ·have p106 : Go p.tables e below _ (s₁.setTop (mkF m 11 #[.val (.int p1), .val (.int (Int32.ofNat i)), .val (.int (Int32.ofNat ko))] [])) := fun t_ k_ => p104 t_ (by
    refine XS.icmpNo X0.here hx rfl (hb hby d11_8) rfl (teq c105).2 ?_
    exact k_)
   have p107 : Go p.tables e below _ (s₁.setTop (mkF m 12 #[.val (.int p1), .val (.int (Int32.ofNat i)), .val (.int (Int32.ofNat ko))] [(.int (1 : Int32))])) := fun t_ k_ => p106 t_ (by
    refine XS.iconst X0.here hx rfl (hb hby d11_11) ?_
    exact k_)
   have w0 : (i < ko) := by rw [own_lt32 (by omega) (by omega)] at c102; exact c102
   obtain ⟨fs, hr, hrun, hended, hW, hsame⟩ := X0.leave (v := some (.int (1 : Int32))) (fun h => by rw [Bd.returns] at h; cases h)
   refine ⟨_, _, p107 _ (retI X0 hx Bd.returns (hb hby d11_12) hr), hrun, hended, _, _, rfl, ?_, ⟨_, rfl⟩, hW, hsame.mono (by decide) (by decide)⟩
   show Q11 Z p1 i ko h0 n0 _ s₁.heap _
   rw [e0]
   exact ⟨by simp [own_n1, w0, c105], N0, rfl⟩
  ·have p108 : Go p.tables e below _ (s₁.setTop (mkF m 13 #[.val (.int p1), .val (.int (Int32.ofNat i)), .val (.int (Int32.ofNat ko))] [])) := fun t_ k_ => p104 t_ (by
    refine XS.icmpYes X0.here hx rfl (pc0 := 8) (pc' := 13) rfl (hb hby d11_8) rfl (feq c105).2 (by decide) (by decide) ?_
    exact k_)
   have p109 : Go p.tables e below _ (s₁.setTop (mkF m 14 #[.val (.int p1), .val (.int (Int32.ofNat i)), .val (.int (Int32.ofNat ko))] [(.int (0 : Int32))])) := fun t_ k_ => p108 t_ (by
    refine XS.iconst X0.here hx rfl (hb hby d11_13) ?_
    exact k_)
   have w0 : (i < ko) := by rw [own_lt32 (by omega) (by omega)] at c102; exact c102
   obtain ⟨fs, hr, hrun, hended, hW, hsame⟩ := X0.leave (v := some (.int (0 : Int32))) (fun h => by rw [Bd.returns] at h; cases h)
   refine ⟨_, _, p109 _ (retI X0 hx Bd.returns (hb hby d11_14) hr), hrun, hended, _, _, rfl, ?_, ⟨_, rfl⟩, hW, hsame.mono (by decide) (by decide)⟩
   show Q11 Z p1 i ko h0 n0 _ s₁.heap _
   rw [e0]
   exact ⟨by simp [own_n1, w0, c105], N0, rfl⟩
 ·have p110 : Go p.tables e below _ (s₁.setTop (mkF m 13 #[.val (.int p1), .val (.int (Int32.ofNat i)), .val (.int (Int32.ofNat ko))] [])) := fun t_ k_ => p101 t_ (by
   refine XS.icmpYes X0.here hx rfl (pc0 := 2) (pc' := 13) rfl (hb hby d11_2) rfl (flt c102).2.1 (by decide) (by decide) ?_
   exact k_)
  have p111 : Go p.tables e below _ (s₁.setTop (mkF m 14 #[.val (.int p1), .val (.int (Int32.ofNat i)), .val (.int (Int32.ofNat ko))] [(.int (0 : Int32))])) := fun t_ k_ => p110 t_ (by
   refine XS.iconst X0.here hx rfl (hb hby d11_13) ?_
   exact k_)
  have w0 : ¬ (i < ko) := by rw [own_lt32 (by omega) (by omega)] at c102; exact c102
  obtain ⟨fs, hr, hrun, hended, hW, hsame⟩ := X0.leave (v := some (.int (0 : Int32))) (fun h => by rw [Bd.returns] at h; cases h)
  refine ⟨_, _, p111 _ (retI X0 hx Bd.returns (hb hby d11_14) hr), hrun, hended, _, _, rfl, ?_, ⟨_, rfl⟩, hW, hsame.mono (by decide) (by decide)⟩
  show Q11 Z p1 i ko h0 n0 _ s₁.heap _
  rw [e0]
  exact ⟨by simp [own_n1, w0], N0, rfl⟩
theorem d10_8 : decode jdk_65_method_59_code 8 = .ok (.iload 4, 2) := by decide +kernel
theorem d10_10 : decode jdk_65_method_59_code 10 = .ok (.iload 5, 2) := by decide +kernel
theorem d10_12 : decode jdk_65_method_59_code 12 = .ok (.if_icmp .gt 54, 3) := by decide +kernel
theorem d10_66 : decode jdk_65_method_59_code 66 = .ok (.iload 4, 2) := by decide +kernel
theorem d10_68 : decode jdk_65_method_59_code 68 = .ok (.iconst 1, 1) := by decide +kernel
theorem d10_69 : decode jdk_65_method_59_code 69 = .ok (.iadd, 1) := by decide +kernel
theorem d10_70 : decode jdk_65_method_59_code 70 = .ok (.ineg, 1) := by decide +kernel
theorem d10_15 : decode jdk_65_method_59_code 15 = .ok (.iload 4, 2) := by decide +kernel
theorem d10_17 : decode jdk_65_method_59_code 17 = .ok (.iload 5, 2) := by decide +kernel
theorem d10_19 : decode jdk_65_method_59_code 19 = .ok (.iadd, 1) := by decide +kernel
theorem d10_20 : decode jdk_65_method_59_code 20 = .ok (.iconst 1, 1) := by decide +kernel
theorem d10_21 : decode jdk_65_method_59_code 21 = .ok (.iushr, 1) := by decide +kernel
theorem d10_22 : decode jdk_65_method_59_code 22 = .ok (.istore 6, 2) := by decide +kernel
theorem d10_24 : decode jdk_65_method_59_code 24 = .ok (.aload_n 0, 1) := by decide +kernel
theorem d10_25 : decode jdk_65_method_59_code 25 = .ok (.iload 6, 2) := by decide +kernel
theorem d10_27 : decode jdk_65_method_59_code 27 = .ok (.iaload, 1) := by decide +kernel
theorem d10_28 : decode jdk_65_method_59_code 28 = .ok (.istore 7, 2) := by decide +kernel
theorem d10_30 : decode jdk_65_method_59_code 30 = .ok (.iload 7, 2) := by decide +kernel
theorem d10_32 : decode jdk_65_method_59_code 32 = .ok (.iload_n 3, 1) := by decide +kernel
theorem d10_33 : decode jdk_65_method_59_code 33 = .ok (.if_icmp .ge 12, 3) := by decide +kernel
theorem d10_36 : decode jdk_65_method_59_code 36 = .ok (.iload 6, 2) := by decide +kernel
theorem d10_38 : decode jdk_65_method_59_code 38 = .ok (.iconst 1, 1) := by decide +kernel
theorem d10_39 : decode jdk_65_method_59_code 39 = .ok (.iadd, 1) := by decide +kernel
theorem d10_40 : decode jdk_65_method_59_code 40 = .ok (.istore 4, 2) := by decide +kernel
theorem d10_42 : decode jdk_65_method_59_code 42 = .ok (.goto 21, 3) := by decide +kernel
theorem d10_45 : decode jdk_65_method_59_code 45 = .ok (.iload 7, 2) := by decide +kernel
theorem d10_47 : decode jdk_65_method_59_code 47 = .ok (.iload_n 3, 1) := by decide +kernel
theorem d10_48 : decode jdk_65_method_59_code 48 = .ok (.if_icmp .le 12, 3) := by decide +kernel
theorem d10_51 : decode jdk_65_method_59_code 51 = .ok (.iload 6, 2) := by decide +kernel
theorem d10_53 : decode jdk_65_method_59_code 53 = .ok (.iconst 1, 1) := by decide +kernel
theorem d10_54 : decode jdk_65_method_59_code 54 = .ok (.isub, 1) := by decide +kernel
theorem d10_55 : decode jdk_65_method_59_code 55 = .ok (.istore 5, 2) := by decide +kernel
theorem d10_57 : decode jdk_65_method_59_code 57 = .ok (.goto 6, 3) := by decide +kernel
theorem d10_60 : decode jdk_65_method_59_code 60 = .ok (.iload 6, 2) := by decide +kernel
theorem d10_63 : decode jdk_65_method_59_code 63 = .ok (.goto (-55), 3) := by decide +kernel
set_option maxRecDepth 65536 in
set_option maxHeartbeats 40000000 in
theorem lpS {p : Program} {l : Launch} {e : Env} {s : State} {m : MethodId} {args : Array Value} {below : List Frame} {meth : Method} {c : Code} (Z : State) (a0 : Array Value) (hx : p.tables.exec = Jvm.exec) (hZ : Z.Warmed39 s.vm) (hw : ∀ d ∈ tables_1, d.before a0 Z = true) (hby : c.code = jdk_65_method_59_code) (hml : c.maxLocals = 8) (hown : s.vm.findClass "java/util/Arrays" = some m.cls) (a1 : Addr) (k1 : ClassId) (cs : List Int32) (n : Nat) (ko : Nat) (h0 : Heap) (n0 : Nat) (Z0 : n0 ≤ h0.size) (V1 : Arv Z h0 a1 k1 .int (Int32.ofNat (1 + own_nl cs n)) ((own_st cs n n).map Value.int) (.int (0 : Int32))) (hn : n ≤ 8) (hko : ko ≤ n) : ∀ (k lo hi : Nat) (s6 s7 : Slot) (T : State) (locs : List Loc), hi + 1 - lo ≤ k → lo ≤ own_nl cs ko + 1 → own_nl cs ko ≤ hi → hi < (1 + own_nl cs n) → One s6 → One s7 → Stand p l e (⟨0, 0, 0, 0⟩ : Room) s m args below meth c T locs 0 0 → T.heap = h0 → Fr n0 locs → ∃ (T' : State) (L' : List Loc) (v : Int32) (Ls : Array Slot), Stand p l e (⟨0, 0, 0, 0⟩ : Room) s m args below meth c T' L' 0 0 ∧ T'.heap = h0 ∧ Fr n0 L' ∧ ((v < (0 : Int32) ∧ v = -(Int32.ofNat (own_nl cs ko + 1) + (1 : Int32))) ∨ (¬ (v < (0 : Int32)) ∧ v = Int32.ofNat (own_nl cs ko))) ∧ (Go p.tables e below (T.setTop (mkF m 8 #[.val (.ref a1), .val (.int (0 : Int32)), .val (.int (Int32.ofNat (1 + own_nl cs n))), .val (.int (Int32.ofNat ko)), .val (.int (Int32.ofNat lo)), .val (.int (Int32.ofNat hi)), s6, s7] [])) (T'.setTop (mkF m 62 Ls [.int v])) ∨ Go p.tables e below (T.setTop (mkF m 8 #[.val (.ref a1), .val (.int (0 : Int32)), .val (.int (Int32.ofNat (1 + own_nl cs n))), .val (.int (Int32.ofNat ko)), .val (.int (Int32.ofNat lo)), .val (.int (Int32.ofNat hi)), s6, s7] [])) (T'.setTop (mkF m 71 Ls [.int v]))) := by
 have hm1 := own_nl_mono' cs hko
 have hm2 := own_nl_le cs n
 intro k
 induction k with
 | zero =>
  intro lo hi s6 s7 T locs hd h1 h2 h3 o6 o7 X0 e0 N0
  have p0 : Go p.tables e below (T.setTop (mkF m 8 #[.val (.ref a1), .val (.int (0 : Int32)), .val (.int (Int32.ofNat (1 + own_nl cs n))), .val (.int (Int32.ofNat ko)), .val (.int (Int32.ofNat lo)), .val (.int (Int32.ofNat hi)), s6, s7] [])) (T.setTop (mkF m 8 #[.val (.ref a1), .val (.int (0 : Int32)), .val (.int (Int32.ofNat (1 + own_nl cs n))), .val (.int (Int32.ofNat ko)), .val (.int (Int32.ofNat lo)), .val (.int (Int32.ofNat hi)), s6, s7] [])) := fun t_ k_ => k_
  have p101 : Go p.tables e below _ (T.setTop (mkF m 12 #[.val (.ref a1), .val (.int (0 : Int32)), .val (.int (Int32.ofNat (1 + own_nl cs n))), .val (.int (Int32.ofNat ko)), .val (.int (Int32.ofNat lo)), .val (.int (Int32.ofNat hi)), s6, s7] [(.int (Int32.ofNat hi)), (.int (Int32.ofNat lo))])) := fun t_ k_ => p0 t_ (by
   refine XS.iload X0.here hx rfl (hb hby d10_8) rfl ?_
   refine XS.iload X0.here hx rfl (hb hby d10_10) rfl ?_
   exact k_)
  have c102 : ((Int32.ofNat hi) < (Int32.ofNat lo)) := (own_lt32 (by omega) (by omega)).mpr (by omega)
  have p103 : Go p.tables e below _ (T.setTop (mkF m 71 #[.val (.ref a1), .val (.int (0 : Int32)), .val (.int (Int32.ofNat (1 + own_nl cs n))), .val (.int (Int32.ofNat ko)), .val (.int (Int32.ofNat lo)), .val (.int (Int32.ofNat hi)), s6, s7] [(.int (-((Int32.ofNat lo) + (1 : Int32))))])) := fun t_ k_ => p101 t_ (by
   refine XS.icmpYes X0.here hx rfl (pc0 := 12) (pc' := 66) rfl (hb hby d10_12) rfl (tlt c102).2.2.1 (by decide) (by decide) ?_
   refine XS.iload X0.here hx rfl (hb hby d10_66) rfl ?_
   refine XS.iconst X0.here hx rfl (hb hby d10_68) ?_
   refine XS.iadd X0.here hx rfl (hb hby d10_69) rfl ?_
   refine XS.ineg X0.here hx rfl (hb hby d10_70) rfl ?_
   exact k_)
  have w2 : lo = own_nl cs ko + 1 := by omega
  exact ⟨_, _, (-((Int32.ofNat lo) + (1 : Int32))), #[.val (.ref a1), .val (.int (0 : Int32)), .val (.int (Int32.ofNat (1 + own_nl cs n))), .val (.int (Int32.ofNat ko)), .val (.int (Int32.ofNat lo)), .val (.int (Int32.ofNat hi)), s6, s7], X0, e0, N0, Or.inl ⟨(own_ngt (by omega)).1, by rw [w2]⟩, Or.inr p103⟩
 | succ k ih =>
  intro lo hi s6 s7 T locs hd h1 h2 h3 o6 o7 X0 e0 N0
  have p0 : Go p.tables e below (T.setTop (mkF m 8 #[.val (.ref a1), .val (.int (0 : Int32)), .val (.int (Int32.ofNat (1 + own_nl cs n))), .val (.int (Int32.ofNat ko)), .val (.int (Int32.ofNat lo)), .val (.int (Int32.ofNat hi)), s6, s7] [])) (T.setTop (mkF m 8 #[.val (.ref a1), .val (.int (0 : Int32)), .val (.int (Int32.ofNat (1 + own_nl cs n))), .val (.int (Int32.ofNat ko)), .val (.int (Int32.ofNat lo)), .val (.int (Int32.ofNat hi)), s6, s7] [])) := fun t_ k_ => k_
  by_cases hlh : lo ≤ hi
  ·obtain ⟨g, hg8, hg, hgn, hgo⟩ := own_sg cs n ((lo + hi) / 2) (by omega)
   have p101 : Go p.tables e below _ (T.setTop (mkF m 12 #[.val (.ref a1), .val (.int (0 : Int32)), .val (.int (Int32.ofNat (1 + own_nl cs n))), .val (.int (Int32.ofNat ko)), .val (.int (Int32.ofNat lo)), .val (.int (Int32.ofNat hi)), s6, s7] [(.int (Int32.ofNat hi)), (.int (Int32.ofNat lo))])) := fun t_ k_ => p0 t_ (by
    refine XS.iload X0.here hx rfl (hb hby d10_8) rfl ?_
    refine XS.iload X0.here hx rfl (hb hby d10_10) rfl ?_
    exact k_)
   have c102 : ¬ ((Int32.ofNat hi) < (Int32.ofNat lo)) := (fun q => by rw [own_lt32 (by omega) (by omega)] at q; omega)
   have p103 : Go p.tables e below _ (T.setTop (mkF m 24 #[.val (.ref a1), .val (.int (0 : Int32)), .val (.int (Int32.ofNat (1 + own_nl cs n))), .val (.int (Int32.ofNat ko)), .val (.int (Int32.ofNat lo)), .val (.int (Int32.ofNat hi)), .val (.int ((((Int32.ofNat lo) + (Int32.ofNat hi)).toUInt32 >>> (1 : UInt32)).toInt32)), s7] [])) := fun t_ k_ => p101 t_ (by
    refine XS.icmpNo X0.here hx rfl (hb hby d10_12) rfl (flt c102).2.2.1 ?_
    refine XS.iload X0.here hx rfl (hb hby d10_15) rfl ?_
    refine XS.iload X0.here hx rfl (hb hby d10_17) rfl ?_
    refine XS.iadd X0.here hx rfl (hb hby d10_19) rfl ?_
    refine XS.iconst X0.here hx rfl (hb hby d10_20) ?_
    refine XS.iushr X0.here hx rfl (hb hby d10_21) rfl ?_
    refine XS.istoreS X0.here hx rfl (hb hby d10_22) rfl rfl o6 ?_
    exact k_)
   have p104 : Go p.tables e below (T.setTop (mkF m 8 #[.val (.ref a1), .val (.int (0 : Int32)), .val (.int (Int32.ofNat (1 + own_nl cs n))), .val (.int (Int32.ofNat ko)), .val (.int (Int32.ofNat lo)), .val (.int (Int32.ofNat hi)), s6, s7] [])) (T.setTop (mkF m 24 #[.val (.ref a1), .val (.int (0 : Int32)), .val (.int (Int32.ofNat (1 + own_nl cs n))), .val (.int (Int32.ofNat ko)), .val (.int (Int32.ofNat lo)), .val (.int (Int32.ofNat hi)), .val (.int (Int32.ofNat ((lo + hi) / 2))), s7] [])) := by have z := p103; rw [own_mid (by omega) (by omega)] at z; exact z
   have p105 : Go p.tables e below _ (T.setTop (mkF m 27 #[.val (.ref a1), .val (.int (0 : Int32)), .val (.int (Int32.ofNat (1 + own_nl cs n))), .val (.int (Int32.ofNat ko)), .val (.int (Int32.ofNat lo)), .val (.int (Int32.ofNat hi)), .val (.int (Int32.ofNat ((lo + hi) / 2))), s7] [(.int (Int32.ofNat ((lo + hi) / 2))), (.ref a1)])) := fun t_ k_ => p104 t_ (by
    refine XS.aloadN X0.here hx rfl (hb hby d10_24) rfl rfl ?_
    refine XS.iload X0.here hx rfl (hb hby d10_25) rfl ?_
    exact k_)
   obtain ⟨cl106, Ar106, q106, S106, Ng106, H106, G106⟩ := id V1
   have hin106 := inb_of S106 (j := (Int32.ofNat ((lo + hi) / 2))) ⟨own_nn32 (by omega), (own_lt32 (by omega) (by omega)).mpr (by omega)⟩
   have hat106 := H106.at (v := (.int (Int32.ofNat g))) hin106 ((own_sm cs n ((lo + hi) / 2) (by omega)).trans (congrArg Value.int hg))
   have p107 : Go p.tables e below _ (T.setTop (mkF m 33 #[.val (.ref a1), .val (.int (0 : Int32)), .val (.int (Int32.ofNat (1 + own_nl cs n))), .val (.int (Int32.ofNat ko)), .val (.int (Int32.ofNat lo)), .val (.int (Int32.ofNat hi)), .val (.int (Int32.ofNat ((lo + hi) / 2))), .val (.int (Int32.ofNat g))] [(.int (Int32.ofNat ko)), (.int (Int32.ofNat g))])) := fun t_ k_ => p105 t_ (by
    refine X0.iaload hx (j := (Int32.ofNat ((lo + hi) / 2))) (v := (.int (Int32.ofNat g))) (by rw [e0]; exact Ar106.1) (State.isArrayOf_alike hZ.alike Ar106.2.1) Ar106.2.2 hin106 hat106 (g := (mkF m 27 #[.val (.ref a1), .val (.int (0 : Int32)), .val (.int (Int32.ofNat (1 + own_nl cs n))), .val (.int (Int32.ofNat ko)), .val (.int (Int32.ofNat lo)), .val (.int (Int32.ofNat hi)), .val (.int (Int32.ofNat ((lo + hi) / 2))), s7] [(.int (Int32.ofNat ((lo + hi) / 2))), (.ref a1)])) rfl rfl (hb hby d10_27) _ ?_
    refine XS.istoreS X0.here hx rfl (hb hby d10_28) rfl rfl o7 ?_
    refine XS.iload X0.here hx rfl (hb hby d10_30) rfl ?_
    refine XS.iloadN X0.here hx rfl (hb hby d10_32) rfl ?_
    exact k_)
   by_cases c108 : (Int32.ofNat g) < (Int32.ofNat ko)
   ·have p109 : Go p.tables e below _ (T.setTop (mkF m 36 #[.val (.ref a1), .val (.int (0 : Int32)), .val (.int (Int32.ofNat (1 + own_nl cs n))), .val (.int (Int32.ofNat ko)), .val (.int (Int32.ofNat lo)), .val (.int (Int32.ofNat hi)), .val (.int (Int32.ofNat ((lo + hi) / 2))), .val (.int (Int32.ofNat g))] [])) := fun t_ k_ => p107 t_ (by
     refine XS.icmpNo X0.here hx rfl (hb hby d10_33) rfl (tlt c108).2.1 ?_
     exact k_)
    have p110 : Go p.tables e below _ (T.setTop (mkF m 8 #[.val (.ref a1), .val (.int (0 : Int32)), .val (.int (Int32.ofNat (1 + own_nl cs n))), .val (.int (Int32.ofNat ko)), .val (.int ((Int32.ofNat ((lo + hi) / 2)) + (1 : Int32))), .val (.int (Int32.ofNat hi)), .val (.int (Int32.ofNat ((lo + hi) / 2))), .val (.int (Int32.ofNat g))] [])) := fun t_ k_ => p109 t_ (by
     refine XS.iload X0.here hx rfl (hb hby d10_36) rfl ?_
     refine XS.iconst X0.here hx rfl (hb hby d10_38) ?_
     refine XS.iadd X0.here hx rfl (hb hby d10_39) rfl ?_
     refine XS.istore X0.here hx rfl (hb hby d10_40) rfl (l' := #[.val (.ref a1), .val (.int (0 : Int32)), .val (.int (Int32.ofNat (1 + own_nl cs n))), .val (.int (Int32.ofNat ko)), .val (.int ((Int32.ofNat ((lo + hi) / 2)) + (1 : Int32))), .val (.int (Int32.ofNat hi)), .val (.int (Int32.ofNat ((lo + hi) / 2))), .val (.int (Int32.ofNat g))]) rfl ?_
     refine XS.goto X0.here hx rfl (pc0 := 42) (pc' := 63) rfl (hb hby d10_42) (by decide) (by decide) ?_
     refine XS.goto X0.here hx rfl (pc0 := 63) (pc' := 8) rfl (hb hby d10_63) (by decide) (by decide) ?_
     exact k_)
    have w1 : g < ko := by rw [own_lt32 (by omega) (by omega)] at c108; exact c108
    have w2 : ((lo + hi) / 2) ≤ own_nl cs ko := (hgo ko).mp (by omega)
    obtain ⟨T', L', v, Ls, X', e', N', hv, g'⟩ := ih (((lo + hi) / 2) + 1) hi (.val (.int (Int32.ofNat ((lo + hi) / 2)))) (.val (.int (Int32.ofNat g))) T _ (by omega) (by omega) (by omega) (by omega) (One.val rfl) (One.val rfl) X0 e0 N0
    refine ⟨T', L', v, Ls, X', e', N', hv, ?_⟩
    rcases g' with g' | g'
    ·refine Or.inl fun t_ k_ => p110 t_ ?_
     have z := g' t_ k_
     rw [own_up1 ((lo + hi) / 2)] at z; exact z
    ·refine Or.inr fun t_ k_ => p110 t_ ?_
     have z := g' t_ k_
     rw [own_up1 ((lo + hi) / 2)] at z; exact z
   ·have p111 : Go p.tables e below _ (T.setTop (mkF m 45 #[.val (.ref a1), .val (.int (0 : Int32)), .val (.int (Int32.ofNat (1 + own_nl cs n))), .val (.int (Int32.ofNat ko)), .val (.int (Int32.ofNat lo)), .val (.int (Int32.ofNat hi)), .val (.int (Int32.ofNat ((lo + hi) / 2))), .val (.int (Int32.ofNat g))] [])) := fun t_ k_ => p107 t_ (by
     refine XS.icmpYes X0.here hx rfl (pc0 := 33) (pc' := 45) rfl (hb hby d10_33) rfl (flt c108).2.1 (by decide) (by decide) ?_
     exact k_)
    have p112 : Go p.tables e below _ (T.setTop (mkF m 48 #[.val (.ref a1), .val (.int (0 : Int32)), .val (.int (Int32.ofNat (1 + own_nl cs n))), .val (.int (Int32.ofNat ko)), .val (.int (Int32.ofNat lo)), .val (.int (Int32.ofNat hi)), .val (.int (Int32.ofNat ((lo + hi) / 2))), .val (.int (Int32.ofNat g))] [(.int (Int32.ofNat ko)), (.int (Int32.ofNat g))])) := fun t_ k_ => p111 t_ (by
     refine XS.iload X0.here hx rfl (hb hby d10_45) rfl ?_
     refine XS.iloadN X0.here hx rfl (hb hby d10_47) rfl ?_
     exact k_)
    by_cases c113 : (Int32.ofNat ko) < (Int32.ofNat g)
    ·have p114 : Go p.tables e below _ (T.setTop (mkF m 51 #[.val (.ref a1), .val (.int (0 : Int32)), .val (.int (Int32.ofNat (1 + own_nl cs n))), .val (.int (Int32.ofNat ko)), .val (.int (Int32.ofNat lo)), .val (.int (Int32.ofNat hi)), .val (.int (Int32.ofNat ((lo + hi) / 2))), .val (.int (Int32.ofNat g))] [])) := fun t_ k_ => p112 t_ (by
      refine XS.icmpNo X0.here hx rfl (hb hby d10_48) rfl (tlt c113).2.2.2 ?_
      exact k_)
     have p115 : Go p.tables e below _ (T.setTop (mkF m 8 #[.val (.ref a1), .val (.int (0 : Int32)), .val (.int (Int32.ofNat (1 + own_nl cs n))), .val (.int (Int32.ofNat ko)), .val (.int (Int32.ofNat lo)), .val (.int ((Int32.ofNat ((lo + hi) / 2)) - (1 : Int32))), .val (.int (Int32.ofNat ((lo + hi) / 2))), .val (.int (Int32.ofNat g))] [])) := fun t_ k_ => p114 t_ (by
      refine XS.iload X0.here hx rfl (hb hby d10_51) rfl ?_
      refine XS.iconst X0.here hx rfl (hb hby d10_53) ?_
      refine XS.isub X0.here hx rfl (hb hby d10_54) rfl ?_
      refine XS.istore X0.here hx rfl (hb hby d10_55) rfl (l' := #[.val (.ref a1), .val (.int (0 : Int32)), .val (.int (Int32.ofNat (1 + own_nl cs n))), .val (.int (Int32.ofNat ko)), .val (.int (Int32.ofNat lo)), .val (.int ((Int32.ofNat ((lo + hi) / 2)) - (1 : Int32))), .val (.int (Int32.ofNat ((lo + hi) / 2))), .val (.int (Int32.ofNat g))]) rfl ?_
      refine XS.goto X0.here hx rfl (pc0 := 57) (pc' := 63) rfl (hb hby d10_57) (by decide) (by decide) ?_
      refine XS.goto X0.here hx rfl (pc0 := 63) (pc' := 8) rfl (hb hby d10_63) (by decide) (by decide) ?_
      exact k_)
     have w1 : ko < g := by rw [own_lt32 (by omega) (by omega)] at c113; exact c113
     have w2 : ¬ ((lo + hi) / 2) ≤ own_nl cs ko := fun q => by have z := (hgo ko).mpr q; omega
     obtain ⟨T', L', v, Ls, X', e', N', hv, g'⟩ := ih lo (((lo + hi) / 2) - 1) (.val (.int (Int32.ofNat ((lo + hi) / 2)))) (.val (.int (Int32.ofNat g))) T _ (by omega) (by omega) (by omega) (by omega) (One.val rfl) (One.val rfl) X0 e0 N0
     refine ⟨T', L', v, Ls, X', e', N', hv, ?_⟩
     rcases g' with g' | g'
     ·refine Or.inl fun t_ k_ => p115 t_ ?_
      have z := g' t_ k_
      rw [← own_dn1 (a := ((lo + hi) / 2)) (by omega) (by omega)] at z; exact z
     ·refine Or.inr fun t_ k_ => p115 t_ ?_
      have z := g' t_ k_
      rw [← own_dn1 (a := ((lo + hi) / 2)) (by omega) (by omega)] at z; exact z
    ·have p116 : Go p.tables e below _ (T.setTop (mkF m 60 #[.val (.ref a1), .val (.int (0 : Int32)), .val (.int (Int32.ofNat (1 + own_nl cs n))), .val (.int (Int32.ofNat ko)), .val (.int (Int32.ofNat lo)), .val (.int (Int32.ofNat hi)), .val (.int (Int32.ofNat ((lo + hi) / 2))), .val (.int (Int32.ofNat g))] [])) := fun t_ k_ => p112 t_ (by
      refine XS.icmpYes X0.here hx rfl (pc0 := 48) (pc' := 60) rfl (hb hby d10_48) rfl (flt c113).2.2.2 (by decide) (by decide) ?_
      exact k_)
     have p117 : Go p.tables e below _ (T.setTop (mkF m 62 #[.val (.ref a1), .val (.int (0 : Int32)), .val (.int (Int32.ofNat (1 + own_nl cs n))), .val (.int (Int32.ofNat ko)), .val (.int (Int32.ofNat lo)), .val (.int (Int32.ofNat hi)), .val (.int (Int32.ofNat ((lo + hi) / 2))), .val (.int (Int32.ofNat g))] [(.int (Int32.ofNat ((lo + hi) / 2)))])) := fun t_ k_ => p116 t_ (by
      refine XS.iload X0.here hx rfl (hb hby d10_60) rfl ?_
      exact k_)
     have w1 : g = ko := by rw [own_lt32 (by omega) (by omega)] at c108 c113; omega
     have w2 : ((lo + hi) / 2) = own_nl cs ko := by rw [← w1]; exact hgn.symm
     exact ⟨_, _, (Int32.ofNat ((lo + hi) / 2)), #[.val (.ref a1), .val (.int (0 : Int32)), .val (.int (Int32.ofNat (1 + own_nl cs n))), .val (.int (Int32.ofNat ko)), .val (.int (Int32.ofNat lo)), .val (.int (Int32.ofNat hi)), .val (.int (Int32.ofNat ((lo + hi) / 2))), .val (.int (Int32.ofNat g))], X0, e0, N0, Or.inr ⟨own_nn32 (by omega), congrArg Int32.ofNat w2⟩, Or.inl p117⟩
  ·have hl2 : hi < lo := by omega
   have p101 : Go p.tables e below _ (T.setTop (mkF m 12 #[.val (.ref a1), .val (.int (0 : Int32)), .val (.int (Int32.ofNat (1 + own_nl cs n))), .val (.int (Int32.ofNat ko)), .val (.int (Int32.ofNat lo)), .val (.int (Int32.ofNat hi)), s6, s7] [(.int (Int32.ofNat hi)), (.int (Int32.ofNat lo))])) := fun t_ k_ => p0 t_ (by
    refine XS.iload X0.here hx rfl (hb hby d10_8) rfl ?_
    refine XS.iload X0.here hx rfl (hb hby d10_10) rfl ?_
    exact k_)
   have c102 : ((Int32.ofNat hi) < (Int32.ofNat lo)) := (own_lt32 (by omega) (by omega)).mpr (by omega)
   have p103 : Go p.tables e below _ (T.setTop (mkF m 71 #[.val (.ref a1), .val (.int (0 : Int32)), .val (.int (Int32.ofNat (1 + own_nl cs n))), .val (.int (Int32.ofNat ko)), .val (.int (Int32.ofNat lo)), .val (.int (Int32.ofNat hi)), s6, s7] [(.int (-((Int32.ofNat lo) + (1 : Int32))))])) := fun t_ k_ => p101 t_ (by
    refine XS.icmpYes X0.here hx rfl (pc0 := 12) (pc' := 66) rfl (hb hby d10_12) rfl (tlt c102).2.2.1 (by decide) (by decide) ?_
    refine XS.iload X0.here hx rfl (hb hby d10_66) rfl ?_
    refine XS.iconst X0.here hx rfl (hb hby d10_68) ?_
    refine XS.iadd X0.here hx rfl (hb hby d10_69) rfl ?_
    refine XS.ineg X0.here hx rfl (hb hby d10_70) rfl ?_
    exact k_)
   have w2 : lo = own_nl cs ko + 1 := by omega
   exact ⟨_, _, (-((Int32.ofNat lo) + (1 : Int32))), #[.val (.ref a1), .val (.int (0 : Int32)), .val (.int (Int32.ofNat (1 + own_nl cs n))), .val (.int (Int32.ofNat ko)), .val (.int (Int32.ofNat lo)), .val (.int (Int32.ofNat hi)), s6, s7], X0, e0, N0, Or.inl ⟨(own_ngt (by omega)).1, by rw [w2]⟩, Or.inr p103⟩
theorem d10_0 : decode jdk_65_method_59_code 0 = .ok (.iload_n 1, 1) := by decide +kernel
theorem d10_1 : decode jdk_65_method_59_code 1 = .ok (.istore 4, 2) := by decide +kernel
theorem d10_3 : decode jdk_65_method_59_code 3 = .ok (.iload_n 2, 1) := by decide +kernel
theorem d10_4 : decode jdk_65_method_59_code 4 = .ok (.iconst 1, 1) := by decide +kernel
theorem d10_5 : decode jdk_65_method_59_code 5 = .ok (.isub, 1) := by decide +kernel
theorem d10_6 : decode jdk_65_method_59_code 6 = .ok (.istore 5, 2) := by decide +kernel
theorem d10_62 : decode jdk_65_method_59_code 62 = .ok (.ireturn, 1) := by decide +kernel
theorem d10_71 : decode jdk_65_method_59_code 71 = .ok (.ireturn, 1) := by decide +kernel
theorem pn10 : plainFor (⟨"java/util/Arrays", "binarySearch0", "([IIII)I"⟩ : MethodName) = true := plainFor_of_name (by first | (simp [plainName, overriddenIn]; done) | decide +kernel)
theorem ef_rm10 (m : MethodId) (a1 : Addr) (k1 : ClassId) (cs : List Int32) (n : Nat) (ko : Nat) : entryFrame m #[(.ref a1), (.int (0 : Int32)), (.int (Int32.ofNat (1 + own_nl cs n))), (.int (Int32.ofNat ko))] 8 = mkF m 0 #[.val (.ref a1), .val (.int (0 : Int32)), .val (.int (Int32.ofNat (1 + own_nl cs n))), .val (.int (Int32.ofNat ko)), .unset, .unset, .unset, .unset] [] := by first | (simp [entryFrame, mkF, argsToLocals, Value.category]; done) | rfl
def Q10 (Z : State) (a1 : Addr) (k1 : ClassId) (cs : List Int32) (n : Nat) (ko : Nat) (h0 : Heap) (n0 : Nat) (v : Option Value) (h : Heap) (L : List Loc) : Prop := ∃ (rv : Int32), v = some (.int rv) ∧ Fr n0 L ∧ (h = h0) ∧ (((rv < (0 : Int32) ∧ rv = -(Int32.ofNat (own_nl cs ko + 1) + (1 : Int32))) ∨ (¬ (rv < (0 : Int32)) ∧ rv = Int32.ofNat (own_nl cs ko))))
set_option maxRecDepth 65536 in
set_option maxHeartbeats 40000000 in
theorem rm10 (l : Launch) (Z : State) (a0 : Array Value) (hw : ∀ d ∈ tables_1, d.before a0 Z = true) (ws : List Jvm.Cond) (a1 : Addr) (k1 : ClassId) (cs : List Int32) (n : Nat) (ko : Nat) (h0 : Heap) (n0 : Nat) (Z0 : n0 ≤ h0.size) (V1 : Arv Z h0 a1 k1 .int (Int32.ofNat (1 + own_nl cs n)) ((own_st cs n n).map Value.int) (.int (0 : Int32))) (hn : n ≤ 8) (hko : ko ≤ n) :
  MetFree l (⟨"java/util/Arrays", "binarySearch0", "([IIII)I"⟩ : MethodName) (head1 (Jvm.Cond.code (⟨"java/util/Arrays", "binarySearch0", "([IIII)I"⟩ : MethodName) jdk_65_method_59_code 8 (some .int) :: ws) ({ frames := 0, cells := 0, slots := 0, locals := 0 } : Room)) (fun a U => a = #[(.ref a1), (.int (0 : Int32)), (.int (Int32.ofNat (1 + own_nl cs n))), (.int (Int32.ofNat ko))] ∧ Z.Warmed39 U.vm ∧ U.heap = h0) (fun _ _ _ _ _ => True) (fun _ U o U' => ∃ v L, o = .returned v ∧ Q10 Z a1 k1 cs n ko h0 n0 v U'.heap L ∧ FrameEnd U o U' L ({ frames := 0, cells := 0, slots := 0, locals := 0 } : Room).cells ({ frames := 0, cells := 0, slots := 0, locals := 0 } : Room).slots) := by
 refine MetFree.of_bodySF pn10 hisR ?_
 intro p e s m args below meth c s₁ Bd hml0 hP hK
 obtain ⟨rfl, hZ, hh⟩ := hP
 have hx := Bd.exec
 have hby := Bd.bytes
 have hml : c.maxLocals = 8 := hml0
 have hown : s.vm.findClass "java/util/Arrays" = some m.cls := findClass_of_methodNamed Bd.named
 have hnm := (name_of_methodNamed Bd.named Bd.method).1
 have X0 : Stand p l e ({ frames := 0, cells := 0, slots := 0, locals := 0 } : Room) s m #[(.ref a1), (.int (0 : Int32)), (.int (Int32.ofNat (1 + own_nl cs n))), (.int (Int32.ofNat ko))] below meth c s₁ [] 0 0 := Stand.of_body Bd
 have e0 : s₁.heap = h0 := by rw [← hh, Bd.state]; rfl
 have N0 := Fr.nil n0
 have p0 : Go p.tables e below (s₁.setTop (entryFrame m #[(.ref a1), (.int (0 : Int32)), (.int (Int32.ofNat (1 + own_nl cs n))), (.int (Int32.ofNat ko))] 8)) (s₁.setTop (mkF m 0 #[.val (.ref a1), .val (.int (0 : Int32)), .val (.int (Int32.ofNat (1 + own_nl cs n))), .val (.int (Int32.ofNat ko)), .unset, .unset, .unset, .unset] [])) := fun t_ k_ => castTop (ef_rm10 m a1 k1 cs n ko) k_
 have p101 : Go p.tables e below _ (s₁.setTop (mkF m 8 #[.val (.ref a1), .val (.int (0 : Int32)), .val (.int (Int32.ofNat (1 + own_nl cs n))), .val (.int (Int32.ofNat ko)), .val (.int (0 : Int32)), .val (.int ((Int32.ofNat (1 + own_nl cs n)) - (1 : Int32))), .unset, .unset] [])) := fun t_ k_ => p0 t_ (by
  refine XS.iloadN X0.here hx rfl (hb hby d10_0) rfl ?_
  refine XS.istore X0.here hx rfl (hb hby d10_1) rfl (l' := #[.val (.ref a1), .val (.int (0 : Int32)), .val (.int (Int32.ofNat (1 + own_nl cs n))), .val (.int (Int32.ofNat ko)), .val (.int (0 : Int32)), .unset, .unset, .unset]) rfl ?_
  refine XS.iloadN X0.here hx rfl (hb hby d10_3) rfl ?_
  refine XS.iconst X0.here hx rfl (hb hby d10_4) ?_
  refine XS.isub X0.here hx rfl (hb hby d10_5) rfl ?_
  refine XS.istore X0.here hx rfl (hb hby d10_6) rfl (l' := #[.val (.ref a1), .val (.int (0 : Int32)), .val (.int (Int32.ofNat (1 + own_nl cs n))), .val (.int (Int32.ofNat ko)), .val (.int (0 : Int32)), .val (.int ((Int32.ofNat (1 + own_nl cs n)) - (1 : Int32))), .unset, .unset]) rfl ?_
  exact k_)
 have hm1 := own_nl_mono' cs hko
 have hm2 := own_nl_le cs n
 have p102 : Go p.tables e below (s₁.setTop (entryFrame m #[(.ref a1), (.int (0 : Int32)), (.int (Int32.ofNat (1 + own_nl cs n))), (.int (Int32.ofNat ko))] 8)) (s₁.setTop (mkF m 8 #[.val (.ref a1), .val (.int (0 : Int32)), .val (.int (Int32.ofNat (1 + own_nl cs n))), .val (.int (Int32.ofNat ko)), .val (.int (Int32.ofNat 0)), .val (.int (Int32.ofNat (own_nl cs n))), .unset, .unset] [])) := by have z := p101; rw [Nat.add_comm 1 (own_nl cs n), own_up1, Int32.add_sub_cancel, ← own_up1, Nat.add_comm (own_nl cs n) 1] at z; exact z
 obtain ⟨T9, L9, v, Ls, X9, e9, N9, hv, g9⟩ := lpS Z a0 hx hZ hw hby hml hown a1 k1 cs n ko h0 n0 Z0 V1 hn hko (own_nl cs n + 1) 0 (own_nl cs n) .unset .unset s₁ _ (by omega) (by omega) (by omega) (by omega) One.u One.u X0 e0 N0
 rcases g9 with g9 | g9
 ·obtain ⟨fs, hr, hrun, hended, hW, hsame⟩ := X9.leave (v := some (.int v)) (fun h => by rw [Bd.returns] at h; cases h)
  refine ⟨_, _, (gc p102 g9) _ (retI X9 hx Bd.returns (hb hby d10_62) hr), hrun, hended, _, _, rfl, ?_, ⟨_, rfl⟩, hW, hsame.mono (by decide) (by decide)⟩
  show Q10 Z a1 k1 cs n ko h0 n0 _ T9.heap _
  rw [e9]
  exact ⟨v, rfl, N9, rfl, hv⟩
 ·obtain ⟨fs, hr, hrun, hended, hW, hsame⟩ := X9.leave (v := some (.int v)) (fun h => by rw [Bd.returns] at h; cases h)
  refine ⟨_, _, (gc p102 g9) _ (retI X9 hx Bd.returns (hb hby d10_71) hr), hrun, hended, _, _, rfl, ?_, ⟨_, rfl⟩, hW, hsame.mono (by decide) (by decide)⟩
  show Q10 Z a1 k1 cs n ko h0 n0 _ T9.heap _
  rw [e9]
  exact ⟨v, rfl, N9, rfl, hv⟩
theorem d9_0 : decode jdk_65_method_57_code 0 = .ok (.aload_n 0, 1) := by decide +kernel
theorem d9_1 : decode jdk_65_method_57_code 1 = .ok (.iconst 0, 1) := by decide +kernel
theorem d9_2 : decode jdk_65_method_57_code 2 = .ok (.aload_n 0, 1) := by decide +kernel
theorem d9_3 : decode jdk_65_method_57_code 3 = .ok (.arraylength, 1) := by decide +kernel
theorem d9_4 : decode jdk_65_method_57_code 4 = .ok (.iload_n 1, 1) := by decide +kernel
theorem d9_5 : decode jdk_65_method_57_code 5 = .ok (.invokestatic 209, 3) := by decide +kernel
theorem d9_8 : decode jdk_65_method_57_code 8 = .ok (.ireturn, 1) := by decide +kernel
theorem pd11 : parseMethodDescriptor "([IIII)I" = some ⟨[(.array .int), .int, .int, .int], some .int⟩ := by decide +kernel
theorem pn9 : plainFor (⟨"java/util/Arrays", "binarySearch", "([II)I"⟩ : MethodName) = true := plainFor_of_name (by first | (simp [plainName, overriddenIn]; done) | decide +kernel)
theorem ef_rm9 (m : MethodId) (a1 : Addr) (k1 : ClassId) (cs : List Int32) (n : Nat) (ko : Nat) : entryFrame m #[(.ref a1), (.int (Int32.ofNat ko))] 2 = mkF m 0 #[.val (.ref a1), .val (.int (Int32.ofNat ko))] [] := by first | (simp [entryFrame, mkF, argsToLocals, Value.category]; done) | rfl
def Q9 (Z : State) (a1 : Addr) (k1 : ClassId) (cs : List Int32) (n : Nat) (ko : Nat) (h0 : Heap) (n0 : Nat) (v : Option Value) (h : Heap) (L : List Loc) : Prop := ∃ (rv : Int32), v = some (.int rv) ∧ Fr n0 L ∧ (h = h0) ∧ (((rv < (0 : Int32) ∧ rv = -(Int32.ofNat (own_nl cs ko + 1) + (1 : Int32))) ∨ (¬ (rv < (0 : Int32)) ∧ rv = Int32.ofNat (own_nl cs ko))))
set_option maxRecDepth 65536 in
set_option maxHeartbeats 40000000 in
theorem rm9 (l : Launch) (Z : State) (a0 : Array Value) (hw : ∀ d ∈ tables_1, d.before a0 Z = true) (ws : List Jvm.Cond) (a1 : Addr) (k1 : ClassId) (cs : List Int32) (n : Nat) (ko : Nat) (h0 : Heap) (n0 : Nat) (Z0 : n0 ≤ h0.size) (V1 : Arv Z h0 a1 k1 .int (Int32.ofNat (1 + own_nl cs n)) ((own_st cs n n).map Value.int) (.int (0 : Int32))) (hn : n ≤ 8) (hko : ko ≤ n) :
  MetFree l (⟨"java/util/Arrays", "binarySearch", "([II)I"⟩ : MethodName) (head1 (Jvm.Cond.code (⟨"java/util/Arrays", "binarySearch", "([II)I"⟩ : MethodName) jdk_65_method_57_code 2 (some .int) :: ws) ({ frames := 1, cells := 0, slots := 0, locals := 19 } : Room)) (fun a U => a = #[(.ref a1), (.int (Int32.ofNat ko))] ∧ Z.Warmed39 U.vm ∧ U.heap = h0) (fun _ _ _ _ _ => True) (fun _ U o U' => ∃ v L, o = .returned v ∧ Q9 Z a1 k1 cs n ko h0 n0 v U'.heap L ∧ FrameEnd U o U' L ({ frames := 1, cells := 0, slots := 0, locals := 19 } : Room).cells ({ frames := 1, cells := 0, slots := 0, locals := 19 } : Room).slots) := by
 refine MetFree.of_bodySF pn9 hisR ?_
 intro p e s m args below meth c s₁ Bd hml0 hP hK
 obtain ⟨rfl, hZ, hh⟩ := hP
 have hx := Bd.exec
 have hby := Bd.bytes
 have hml : c.maxLocals = 2 := hml0
 have hown : s.vm.findClass "java/util/Arrays" = some m.cls := findClass_of_methodNamed Bd.named
 have hnm := (name_of_methodNamed Bd.named Bd.method).1
 have X0 : Stand p l e ({ frames := 1, cells := 0, slots := 0, locals := 19 } : Room) s m #[(.ref a1), (.int (Int32.ofNat ko))] below meth c s₁ [] 0 0 := Stand.of_body Bd
 have e0 : s₁.heap = h0 := by rw [← hh, Bd.state]; rfl
 have N0 := Fr.nil n0
 have p0 : Go p.tables e below (s₁.setTop (entryFrame m #[(.ref a1), (.int (Int32.ofNat ko))] 2)) (s₁.setTop (mkF m 0 #[.val (.ref a1), .val (.int (Int32.ofNat ko))] [])) := fun t_ k_ => castTop (ef_rm9 m a1 k1 cs n ko) k_
 have p101 : Go p.tables e below _ (s₁.setTop (mkF m 3 #[.val (.ref a1), .val (.int (Int32.ofNat ko))] [(.ref a1), (.int (0 : Int32)), (.ref a1)])) := fun t_ k_ => p0 t_ (by
  refine XS.aloadN X0.here hx rfl (hb hby d9_0) rfl rfl ?_
  refine XS.iconst X0.here hx rfl (hb hby d9_1) ?_
  refine XS.aloadN X0.here hx rfl (hb hby d9_2) rfl rfl ?_
  exact k_)
 obtain ⟨cl102, Ar102, -, S102, Ng102, -, -⟩ := id V1
 have p103 : Go p.tables e below _ (s₁.setTop (mkF m 5 #[.val (.ref a1), .val (.int (Int32.ofNat ko))] [(.int (Int32.ofNat ko)), (.int (Int32.ofNat (1 + own_nl cs n))), (.int (0 : Int32)), (.ref a1)])) := fun t_ k_ => p101 t_ (by
  refine X0.arraylength hx (by rw [e0]; exact Ar102.1) (State.isArrayOf_alike hZ.alike Ar102.2.1) (g := (mkF m 3 #[.val (.ref a1), .val (.int (Int32.ofNat ko))] [(.ref a1), (.int (0 : Int32)), (.ref a1)])) rfl rfl (hb hby d9_3) _ ?_
  rw [len_of S102 Ng102]
  show Steps p.tables e below (s₁.setTop (mkF m 4 #[.val (.ref a1), .val (.int (Int32.ofNat ko))] [(.int (Int32.ofNat (1 + own_nl cs n))), (.int (0 : Int32)), (.ref a1)])) _
  refine XS.iloadN X0.here hx rfl (hb hby d9_4) rfl ?_
  exact k_)
 obtain ⟨_, _, ⟨T104, L104, k104, n104⟩, -, X104, ⟨Lc104, hQ104, l104, y104, z104⟩, st104⟩ := Jvm.LawKit.callS X0 hx (y := (⟨"java/util/Arrays", "binarySearch0", "([IIII)I"⟩ : MethodName)) hown (mvT hZ (own_w hw 60 rfl)) (mvT hZ (own_w hw 61 rfl)) (mvT hZ (own_w hw 58 rfl)) (mvT hZ (own_w hw 62 rfl)) (by decide) (backOf (W := 0) (rm10 l Z a0 hw [] a1 k1 cs n ko h0 n0 (Nat.le_trans Z0 (Keep.refl h0 []).1) V1 hn hko) hZ (own_w hw 62 rfl) (own_w hw 58 rfl) (by decide) (by decide)) (g := (mkF m 5 #[.val (.ref a1), .val (.int (Int32.ofNat ko))] [(.int (Int32.ofNat ko)), (.int (Int32.ofNat (1 + own_nl cs n))), (.int (0 : Int32)), (.ref a1)])) rfl (by rw [hml]; rfl) (argsL := [(.ref a1), (.int (0 : Int32)), (.int (Int32.ofNat (1 + own_nl cs n))), (.int (Int32.ofNat ko))]) (rest := []) (lenOf pd11 rfl) rfl (by show 2 * 0 + _ ≤ _; exact Nat.le_of_eq rfl) (hb hby d9_5) (fun _ _ => ⟨rfl, e0, (by decide : 0 + 0 ≤ _), (by decide : 0 + 0 ≤ _)⟩)
 dsimp only [Pt.U, Pt.locs, Pt.cells, Pt.slots] at X104 l104 y104 z104 st104 hQ104
 subst l104 y104 z104
 obtain ⟨x105, rfl, N104q, q104_hh, q104_sp⟩ := hQ104
 have N104 := Fr.app N0 N104q
 obtain ⟨fs, hr, hrun, hended, hW, hsame⟩ := X104.leave (v := some (.int x105)) (fun h => by rw [Bd.returns] at h; cases h)
 refine ⟨_, _, (gc p103 st104) _ (retI X104 hx Bd.returns (hb hby d9_8) hr), hrun, hended, _, _, rfl, ?_, ⟨_, rfl⟩, hW, hsame.mono (by decide) (by decide)⟩
 show Q9 Z a1 k1 cs n ko h0 n0 _ T104.heap _
 rw [q104_hh]
 exact ⟨x105, rfl, N104, rfl, q104_sp⟩
theorem d8_0 : decode prog_16_method_3_code 0 = .ok (.aload_n 0, 1) := by decide +kernel
theorem d8_1 : decode prog_16_method_3_code 1 = .ok (.getfield 23, 3) := by decide +kernel
theorem d8_4 : decode prog_16_method_3_code 4 = .ok (.iload_n 1, 1) := by decide +kernel
theorem d8_5 : decode prog_16_method_3_code 5 = .ok (.invokestatic 31, 3) := by decide +kernel
theorem d8_8 : decode prog_16_method_3_code 8 = .ok (.istore_n 2, 1) := by decide +kernel
theorem d8_9 : decode prog_16_method_3_code 9 = .ok (.iload_n 2, 1) := by decide +kernel
theorem d8_10 : decode prog_16_method_3_code 10 = .ok (.ifCond .lt 9, 3) := by decide +kernel
theorem d8_13 : decode prog_16_method_3_code 13 = .ok (.iload_n 2, 1) := by decide +kernel
theorem d8_14 : decode prog_16_method_3_code 14 = .ok (.iconst 1, 1) := by decide +kernel
theorem d8_15 : decode prog_16_method_3_code 15 = .ok (.iadd, 1) := by decide +kernel
theorem d8_16 : decode prog_16_method_3_code 16 = .ok (.goto 7, 3) := by decide +kernel
theorem d8_19 : decode prog_16_method_3_code 19 = .ok (.iload_n 2, 1) := by decide +kernel
theorem d8_20 : decode prog_16_method_3_code 20 = .ok (.ineg, 1) := by decide +kernel
theorem d8_21 : decode prog_16_method_3_code 21 = .ok (.iconst 1, 1) := by decide +kernel
theorem d8_22 : decode prog_16_method_3_code 22 = .ok (.isub, 1) := by decide +kernel
theorem d8_23 : decode prog_16_method_3_code 23 = .ok (.ireturn, 1) := by decide +kernel
theorem pd12 : parseMethodDescriptor "([II)I" = some ⟨[(.array .int), .int], some .int⟩ := by decide +kernel
theorem pn8 : plainFor (⟨"com/example/subsume/subsume/model/Lines", "line", "(I)I"⟩ : MethodName) = true := plainFor_of_name (by first | (simp [plainName, overriddenIn]; done) | decide +kernel)
theorem ef_rm8 (m : MethodId) (a1 : Addr) (bs : Addr) (k1 : ClassId) (cs : List Int32) (n : Nat) (ko : Nat) : entryFrame m #[(.ref a1), (.int (Int32.ofNat ko))] 3 = mkF m 0 #[.val (.ref a1), .val (.int (Int32.ofNat ko)), .unset] [] := by first | (simp [entryFrame, mkF, argsToLocals, Value.category]; done) | rfl
def Q8 (Z : State) (a1 : Addr) (bs : Addr) (k1 : ClassId) (cs : List Int32) (n : Nat) (ko : Nat) (h0 : Heap) (n0 : Nat) (v : Option Value) (h : Heap) (L : List Loc) : Prop := v = some (.int (Int32.ofNat (own_nl cs ko + 1))) ∧ Fr n0 L ∧ (h = h0)
set_option maxRecDepth 65536 in
set_option maxHeartbeats 40000000 in
theorem rm8 (l : Launch) (Z : State) (a0 : Array Value) (hw : ∀ d ∈ tables_1, d.before a0 Z = true) (ws : List Jvm.Cond) (a1 : Addr) (bs : Addr) (k1 : ClassId) (cs : List Int32) (n : Nat) (ko : Nat) (h0 : Heap) (n0 : Nat) (Z0 : n0 ≤ h0.size) (S1 : Fld Z h0 a1 "com/example/subsume/subsume/model/Lines" "starts" "[I" (.ref bs)) (V1 : Arv Z h0 bs k1 .int (Int32.ofNat (1 + own_nl cs n)) ((own_st cs n n).map Value.int) (.int (0 : Int32))) (hn : n ≤ 8) (hko : ko ≤ n) :
  MetFree l (⟨"com/example/subsume/subsume/model/Lines", "line", "(I)I"⟩ : MethodName) (head1 (Jvm.Cond.code (⟨"com/example/subsume/subsume/model/Lines", "line", "(I)I"⟩ : MethodName) prog_16_method_3_code 3 (some .int) :: ws) ({ frames := 2, cells := 0, slots := 0, locals := 32 } : Room)) (fun a U => a = #[(.ref a1), (.int (Int32.ofNat ko))] ∧ Z.Warmed39 U.vm ∧ U.heap = h0) (fun _ _ _ _ _ => True) (fun _ U o U' => ∃ v L, o = .returned v ∧ Q8 Z a1 bs k1 cs n ko h0 n0 v U'.heap L ∧ FrameEnd U o U' L ({ frames := 2, cells := 0, slots := 0, locals := 32 } : Room).cells ({ frames := 2, cells := 0, slots := 0, locals := 32 } : Room).slots) := by
 refine MetFree.of_bodySF pn8 hisR ?_
 intro p e s m args below meth c s₁ Bd hml0 hP hK
 obtain ⟨rfl, hZ, hh⟩ := hP
 have hx := Bd.exec
 have hby := Bd.bytes
 have hml : c.maxLocals = 3 := hml0
 have hown : s.vm.findClass "com/example/subsume/subsume/model/Lines" = some m.cls := findClass_of_methodNamed Bd.named
 have hnm := (name_of_methodNamed Bd.named Bd.method).1
 have X0 : Stand p l e ({ frames := 2, cells := 0, slots := 0, locals := 32 } : Room) s m #[(.ref a1), (.int (Int32.ofNat ko))] below meth c s₁ [] 0 0 := Stand.of_body Bd
 have e0 : s₁.heap = h0 := by rw [← hh, Bd.state]; rfl
 have N0 := Fr.nil n0
 have p0 : Go p.tables e below (s₁.setTop (entryFrame m #[(.ref a1), (.int (Int32.ofNat ko))] 3)) (s₁.setTop (mkF m 0 #[.val (.ref a1), .val (.int (Int32.ofNat ko)), .unset] [])) := fun t_ k_ => castTop (ef_rm8 m a1 bs k1 cs n ko) k_
 have p101 : Go p.tables e below _ (s₁.setTop (mkF m 1 #[.val (.ref a1), .val (.int (Int32.ofNat ko)), .unset] [(.ref a1)])) := fun t_ k_ => p0 t_ (by
  refine XS.aloadN X0.here hx rfl (hb hby d8_0) rfl rfl ?_
  exact k_)
 obtain ⟨T102, X102, e102, st102⟩ := getF X0 hx hZ hown (host := "") (Or.inl (own_w hw 49 rfl)) Via.refl e0 S1 (g := (mkF m 1 #[.val (.ref a1), .val (.int (Int32.ofNat ko)), .unset] [(.ref a1)])) rfl rfl (hb hby d8_1)
 have p103 : Go p.tables e below _ (T102.setTop (mkF m 5 #[.val (.ref a1), .val (.int (Int32.ofNat ko)), .unset] [(.int (Int32.ofNat ko)), (.ref bs)])) := fun t_ k_ => (gc p101 st102) t_ (by
  refine XS.iloadN X102.here hx rfl (hb hby d8_4) rfl ?_
  exact k_)
 obtain ⟨_, _, ⟨T104, L104, k104, n104⟩, -, X104, ⟨Lc104, hQ104, l104, y104, z104⟩, st104⟩ := Jvm.LawKit.callS X102 hx (y := (⟨"java/util/Arrays", "binarySearch", "([II)I"⟩ : MethodName)) hown (mvT hZ (own_w hw 56 rfl)) (mvT hZ (own_w hw 57 rfl)) (mvT hZ (own_w hw 58 rfl)) (mvT hZ (own_w hw 59 rfl)) (by decide) (backOf (W := 0) (rm9 l Z a0 hw [] bs k1 cs n ko h0 n0 (Nat.le_trans Z0 (Keep.refl h0 []).1) V1 hn hko) hZ (own_w hw 59 rfl) (own_w hw 58 rfl) (by decide) (by decide)) (g := (mkF m 5 #[.val (.ref a1), .val (.int (Int32.ofNat ko)), .unset] [(.int (Int32.ofNat ko)), (.ref bs)])) rfl (by rw [hml]; rfl) (argsL := [(.ref bs), (.int (Int32.ofNat ko))]) (rest := []) (lenOf pd12 rfl) rfl (by show 2 * 0 + _ ≤ _; exact Nat.le_of_eq rfl) (hb hby d8_5) (fun _ _ => ⟨rfl, e102, (by decide : 0 + 0 ≤ _), (by decide : 0 + 0 ≤ _)⟩)
 dsimp only [Pt.U, Pt.locs, Pt.cells, Pt.slots] at X104 l104 y104 z104 st104 hQ104
 subst l104 y104 z104
 obtain ⟨x105, rfl, N104q, q104_hh, q104_sp⟩ := hQ104
 have N104 := Fr.app N0 N104q
 have p106 : Go p.tables e below _ (T104.setTop (mkF m 10 #[.val (.ref a1), .val (.int (Int32.ofNat ko)), .val (.int x105)] [(.int x105)])) := fun t_ k_ => (gc p103 st104) t_ (by
  refine XS.istoreN X104.here hx rfl (hb hby d8_8) rfl (l' := #[.val (.ref a1), .val (.int (Int32.ofNat ko)), .val (.int x105)]) rfl ?_
  refine XS.iloadN X104.here hx rfl (hb hby d8_9) rfl ?_
  exact k_)
 by_cases c107 : x105 < (0 : Int32)
 ·have p108 : Go p.tables e below _ (T104.setTop (mkF m 19 #[.val (.ref a1), .val (.int (Int32.ofNat ko)), .val (.int x105)] [])) := fun t_ k_ => p106 t_ (by
   refine XS.ifYes X104.here hx rfl (pc0 := 10) (pc' := 19) rfl (hb hby d8_10) rfl ((if0 _ _).trans (tlt c107).1) (by decide) (by decide) ?_
   exact k_)
  have p109 : Go p.tables e below _ (T104.setTop (mkF m 23 #[.val (.ref a1), .val (.int (Int32.ofNat ko)), .val (.int x105)] [(.int ((-x105) - (1 : Int32)))])) := fun t_ k_ => p108 t_ (by
   refine XS.iloadN X104.here hx rfl (hb hby d8_19) rfl ?_
   refine XS.ineg X104.here hx rfl (hb hby d8_20) rfl ?_
   refine XS.iconst X104.here hx rfl (hb hby d8_21) ?_
   refine XS.isub X104.here hx rfl (hb hby d8_22) rfl ?_
   exact k_)
  have hm1 := own_nl_mono' cs hko
  have hm2 := own_nl_le cs n
  have hv : ((-x105) - (1 : Int32)) = Int32.ofNat (own_nl cs ko + 1) := by rcases q104_sp with ⟨a, b⟩ | ⟨a, b⟩; rw [b]; exact (own_ngt (by omega)).2; exact absurd c107 a
  obtain ⟨fs, hr, hrun, hended, hW, hsame⟩ := X104.leave (v := some (.int ((-x105) - (1 : Int32)))) (fun h => by rw [Bd.returns] at h; cases h)
  refine ⟨_, _, p109 _ (retI X104 hx Bd.returns (hb hby d8_23) hr), hrun, hended, _, _, rfl, ?_, ⟨_, rfl⟩, hW, hsame.mono (by decide) (by decide)⟩
  show Q8 Z a1 bs k1 cs n ko h0 n0 _ T104.heap _
  rw [q104_hh]
  exact ⟨congrArg (fun q => some (Value.int q)) hv, N104, rfl⟩
 ·have p110 : Go p.tables e below _ (T104.setTop (mkF m 13 #[.val (.ref a1), .val (.int (Int32.ofNat ko)), .val (.int x105)] [])) := fun t_ k_ => p106 t_ (by
   refine XS.ifNo X104.here hx rfl (hb hby d8_10) rfl ((if0 _ _).trans (flt c107).1) ?_
   exact k_)
  have p111 : Go p.tables e below _ (T104.setTop (mkF m 23 #[.val (.ref a1), .val (.int (Int32.ofNat ko)), .val (.int x105)] [(.int (x105 + (1 : Int32)))])) := fun t_ k_ => p110 t_ (by
   refine XS.iloadN X104.here hx rfl (hb hby d8_13) rfl ?_
   refine XS.iconst X104.here hx rfl (hb hby d8_14) ?_
   refine XS.iadd X104.here hx rfl (hb hby d8_15) rfl ?_
   refine XS.goto X104.here hx rfl (pc0 := 16) (pc' := 23) rfl (hb hby d8_16) (by decide) (by decide) ?_
   exact k_)
  have hm1 := own_nl_mono' cs hko
  have hm2 := own_nl_le cs n
  have hv : (x105 + (1 : Int32)) = Int32.ofNat (own_nl cs ko + 1) := by rcases q104_sp with ⟨a, b⟩ | ⟨a, b⟩; exact absurd a c107; rw [b]; exact (own_up1 _).symm
  obtain ⟨fs, hr, hrun, hended, hW, hsame⟩ := X104.leave (v := some (.int (x105 + (1 : Int32)))) (fun h => by rw [Bd.returns] at h; cases h)
  refine ⟨_, _, p111 _ (retI X104 hx Bd.returns (hb hby d8_23) hr), hrun, hended, _, _, rfl, ?_, ⟨_, rfl⟩, hW, hsame.mono (by decide) (by decide)⟩
  show Q8 Z a1 bs k1 cs n ko h0 n0 _ T104.heap _
  rw [q104_hh]
  exact ⟨congrArg (fun q => some (Value.int q)) hv, N104, rfl⟩
theorem pd13 : parseMethodDescriptor "(JI)C" = some ⟨[.long, .int], some .char⟩ := by decide +kernel
theorem pd14 : parseMethodDescriptor "([C)V" = some ⟨[(.array .char)], none⟩ := by decide +kernel
theorem pd15 : parseMethodDescriptor "(Ljava/lang/String;)V" = some ⟨[(.object "java/lang/String")], none⟩ := by decide +kernel
theorem pd16 : parseMethodDescriptor "(I)I" = some ⟨[.int], some .int⟩ := by decide +kernel
theorem pd17 : parseMethodDescriptor "(CII)I" = some ⟨[.char, .int, .int], some .int⟩ := by decide +kernel
theorem pn0 : plainFor (⟨"com/example/subsume/subsume/model/LinesLinePinLaw", "law", "(IJI)Z"⟩ : MethodName) = true := plainFor_of_name (by first | (simp [plainName, overriddenIn]; done) | decide +kernel)
theorem ef_rm0 (m : MethodId) (p1 : Int32) (q2 : Int64) (p3 : Int32) (cs1 : Int32) (fm : Value) : entryFrame m #[(.int p1), (.long q2), (.int p3)] maxLocals = mkF m 0 #[.val (.int p1), .val (.long q2), .second, .val (.int p3), .unset, .unset, .unset, .unset, .unset, .unset, .unset, .unset, .unset, .unset, .unset, .unset, .unset] [] := by first | (simp [entryFrame, mkF, argsToLocals, Value.category, maxLocals]; done) | rfl
def Q0 (Z : State) (p1 : Int32) (q2 : Int64) (p3 : Int32) (cs1 : Int32) (fm : Value) (h0 : Heap) (n0 : Nat) (v : Option Value) (h : Heap) (L : List Loc) : Prop := v = some (.int (1 : Int32)) ∧ Fr n0 L
set_option maxRecDepth 65536 in
set_option maxHeartbeats 40000000 in
theorem rm0 (l : Launch) (Z : State) (a0 : Array Value) (hw : ∀ d ∈ tables_1, d.before a0 Z = true) (ws : List Jvm.Cond) (p1 : Int32) (q2 : Int64) (p3 : Int32) (cs1 : Int32) (fm : Value) (h0 : Heap) (n0 : Nat) (Z0 : n0 ≤ h0.size) (O1 : Old Z n0 h0) (G : own_G Z cs1 fm) (hcw : Jvm.Lit.compactW.before a0 Z = true) (hheld : Jvm.Lit.constHeld Z "java/lang/String" 7) :
  MetFree l x (head1 (Jvm.Cond.code x code maxLocals ret :: ws) room_1) (fun a U => a = #[(.int p1), (.long q2), (.int p3)] ∧ Z.Warmed39 U.vm ∧ U.heap = h0 ∧ IB Z U.vm []) (fun _ _ _ _ _ => True) (fun _ U o U' => ∃ v L, o = .returned v ∧ Q0 Z p1 q2 p3 cs1 fm h0 n0 v U'.heap L ∧ ReturnedEndW U o U' L room_1.cells room_1.slots) := by
 refine MetFree.of_bodySF pn0 hisR ?_
 intro p e s m args below meth c s₁ Bd hml0 hP hK
 obtain ⟨rfl, hZ, hh, I0⟩ := hP
 have hx := Bd.exec
 have hby := Bd.bytes
 have hml : c.maxLocals = 17 := hml0
 have hown : s.vm.findClass "com/example/subsume/subsume/model/LinesLinePinLaw" = some m.cls := findClass_of_methodNamed Bd.named
 have hnm := (name_of_methodNamed Bd.named Bd.method).1
 have X0 : Stand p l e room_1 s m #[(.int p1), (.long q2), (.int p3)] below meth c s₁ [] 0 0 := Stand.of_body Bd
 have e0 : s₁.heap = h0 := by rw [← hh, Bd.state]; rfl
 have N0 := Fr.nil n0
 have p0 : Go p.tables e below (s₁.setTop (entryFrame m #[(.int p1), (.long q2), (.int p3)] maxLocals)) (s₁.setTop (mkF m 0 #[.val (.int p1), .val (.long q2), .second, .val (.int p3), .unset, .unset, .unset, .unset, .unset, .unset, .unset, .unset, .unset, .unset, .unset, .unset, .unset] [])) := fun t_ k_ => castTop (ef_rm0 m p1 q2 p3 cs1 fm) k_
 have hkp : ∀ (b : Addr) (cl : Cell), Z.heap[b]? = some cl → s.heap[b]? = some cl := fun b cl q => by rw [hh]; exact O1.2.2 b cl q
 have p101 : Go p.tables e below _ (s₁.setTop (mkF m 11 #[.val (.int p1), .val (.long q2), .second, .val (.int p3), .val (.int ((p1 &&& (2147483647 : Int32)) % (7 : Int32))), .unset, .unset, .unset, .unset, .unset, .unset, .unset, .unset, .unset, .unset, .unset, .unset] [(.int (0 : Int32)), (.long q2)])) := fun t_ k_ => p0 t_ (by
  refine XS.iloadN X0.here hx rfl (hb hby at_0) rfl ?_
  refine X0.ldcInt hx hown (mvT hZ (own_w hw 0 rfl)) (g := (mkF m 1 #[.val (.int p1), .val (.long q2), .second, .val (.int p3), .unset, .unset, .unset, .unset, .unset, .unset, .unset, .unset, .unset, .unset, .unset, .unset, .unset] [(.int p1)])) rfl (hb hby at_1) _ ?_
  refine XS.iand X0.here hx rfl (hb hby at_3) rfl ?_
  refine XS.bipush X0.here hx rfl (hb hby at_4) ?_
  refine Jvm.RoadKit.iremM X0 hx rfl (hb hby at_6) rfl (by decide) ?_
  refine XS.istore X0.here hx rfl (hb hby at_7) rfl (l' := #[.val (.int p1), .val (.long q2), .second, .val (.int p3), .val (.int ((p1 &&& (2147483647 : Int32)) % (7 : Int32))), .unset, .unset, .unset, .unset, .unset, .unset, .unset, .unset, .unset, .unset, .unset, .unset]) rfl ?_
  refine XS.lloadN X0.here hx rfl (hb hby at_9) rfl ?_
  refine XS.iconst X0.here hx rfl (hb hby at_10) ?_
  exact k_)
 obtain ⟨_, _, ⟨T102, L102, k102, n102⟩, -, X102, ⟨Lc102, hQ102, l102, y102, z102⟩, st102⟩ := Jvm.LawKit.callS X0 hx (y := (⟨"com/example/subsume/subsume/model/LinesLinePinLaw", "ch", "(JI)C"⟩ : MethodName)) hown (mvT hZ (own_w hw 1 rfl)) (mvT hZ (own_w hw 2 rfl)) (mvT hZ (own_w hw 3 rfl)) (mvT hZ (own_w hw 4 rfl)) (by decide) (backOf (W := 0) (rm1 l Z a0 hw [] q2 (0 : Int32) h0 n0 (Nat.le_trans Z0 (Keep.refl h0 []).1) ) hZ (own_w hw 4 rfl) (own_w hw 3 rfl) (by decide) (by decide)) (g := (mkF m 11 #[.val (.int p1), .val (.long q2), .second, .val (.int p3), .val (.int ((p1 &&& (2147483647 : Int32)) % (7 : Int32))), .unset, .unset, .unset, .unset, .unset, .unset, .unset, .unset, .unset, .unset, .unset, .unset] [(.int (0 : Int32)), (.long q2)])) rfl (by rw [hml]; rfl) (argsL := [(.long q2), (.int (0 : Int32))]) (rest := []) (lenOf pd13 rfl) rfl (by show 2 * 0 + _ ≤ _; exact Nat.le_of_eq rfl) (hb hby at_11) (fun _ _ => ⟨rfl, e0, (by decide : 0 + 0 ≤ _), (by decide : 0 + 0 ≤ _)⟩)
 dsimp only [Pt.U, Pt.locs, Pt.cells, Pt.slots] at X102 l102 y102 z102 st102 hQ102
 subst l102 y102 z102
 obtain ⟨x103, rfl, N102q, q102_hh, q102_ra, q102_rb⟩ := hQ102
 have N102 := Fr.app N0 N102q
 have p104 : Go p.tables e below _ (T102.setTop (mkF m 16 #[.val (.int p1), .val (.long q2), .second, .val (.int p3), .val (.int ((p1 &&& (2147483647 : Int32)) % (7 : Int32))), .val (.int x103), .unset, .unset, .unset, .unset, .unset, .unset, .unset, .unset, .unset, .unset, .unset] [])) := fun t_ k_ => (gc p101 st102) t_ (by
  refine XS.istore X102.here hx rfl (hb hby at_14) rfl (l' := #[.val (.int p1), .val (.long q2), .second, .val (.int p3), .val (.int ((p1 &&& (2147483647 : Int32)) % (7 : Int32))), .val (.int x103), .unset, .unset, .unset, .unset, .unset, .unset, .unset, .unset, .unset, .unset, .unset]) rfl ?_
  exact k_)
 have ra0 := q102_ra
 have rb0 := q102_rb
 have p105 : Go p.tables e below _ (T102.setTop (mkF m 18 #[.val (.int p1), .val (.long q2), .second, .val (.int p3), .val (.int ((p1 &&& (2147483647 : Int32)) % (7 : Int32))), .val (.int x103), .unset, .unset, .unset, .unset, .unset, .unset, .unset, .unset, .unset, .unset, .unset] [(.int (1 : Int32)), (.long q2)])) := fun t_ k_ => p104 t_ (by
  refine XS.lloadN X102.here hx rfl (hb hby at_16) rfl ?_
  refine XS.iconst X102.here hx rfl (hb hby at_17) ?_
  exact k_)
 obtain ⟨_, _, ⟨T106, L106, k106, n106⟩, -, X106, ⟨Lc106, hQ106, l106, y106, z106⟩, st106⟩ := Jvm.LawKit.callS X102 hx (y := (⟨"com/example/subsume/subsume/model/LinesLinePinLaw", "ch", "(JI)C"⟩ : MethodName)) hown (mvT hZ (own_w hw 1 rfl)) (mvT hZ (own_w hw 2 rfl)) (mvT hZ (own_w hw 3 rfl)) (mvT hZ (own_w hw 4 rfl)) (by decide) (backOf (W := 0) (rm1 l Z a0 hw [] q2 (1 : Int32) h0 n0 (Nat.le_trans Z0 (Keep.refl h0 []).1) ) hZ (own_w hw 4 rfl) (own_w hw 3 rfl) (by decide) (by decide)) (g := (mkF m 18 #[.val (.int p1), .val (.long q2), .second, .val (.int p3), .val (.int ((p1 &&& (2147483647 : Int32)) % (7 : Int32))), .val (.int x103), .unset, .unset, .unset, .unset, .unset, .unset, .unset, .unset, .unset, .unset, .unset] [(.int (1 : Int32)), (.long q2)])) rfl (by rw [hml]; rfl) (argsL := [(.long q2), (.int (1 : Int32))]) (rest := []) (lenOf pd13 rfl) rfl (by show 2 * 0 + _ ≤ _; exact Nat.le_of_eq rfl) (hb hby at_18) (fun _ _ => ⟨rfl, q102_hh, (by decide : 0 + 0 ≤ _), (by decide : 0 + 0 ≤ _)⟩)
 dsimp only [Pt.U, Pt.locs, Pt.cells, Pt.slots] at X106 l106 y106 z106 st106 hQ106
 subst l106 y106 z106
 obtain ⟨x107, rfl, N106q, q106_hh, q106_ra, q106_rb⟩ := hQ106
 have N106 := Fr.app N102 N106q
 have p108 : Go p.tables e below _ (T106.setTop (mkF m 23 #[.val (.int p1), .val (.long q2), .second, .val (.int p3), .val (.int ((p1 &&& (2147483647 : Int32)) % (7 : Int32))), .val (.int x103), .val (.int x107), .unset, .unset, .unset, .unset, .unset, .unset, .unset, .unset, .unset, .unset] [])) := fun t_ k_ => (gc p105 st106) t_ (by
  refine XS.istore X106.here hx rfl (hb hby at_21) rfl (l' := #[.val (.int p1), .val (.long q2), .second, .val (.int p3), .val (.int ((p1 &&& (2147483647 : Int32)) % (7 : Int32))), .val (.int x103), .val (.int x107), .unset, .unset, .unset, .unset, .unset, .unset, .unset, .unset, .unset, .unset]) rfl ?_
  exact k_)
 have ra1 := q106_ra
 have rb1 := q106_rb
 have p109 : Go p.tables e below _ (T106.setTop (mkF m 25 #[.val (.int p1), .val (.long q2), .second, .val (.int p3), .val (.int ((p1 &&& (2147483647 : Int32)) % (7 : Int32))), .val (.int x103), .val (.int x107), .unset, .unset, .unset, .unset, .unset, .unset, .unset, .unset, .unset, .unset] [(.int (2 : Int32)), (.long q2)])) := fun t_ k_ => p108 t_ (by
  refine XS.lloadN X106.here hx rfl (hb hby at_23) rfl ?_
  refine XS.iconst X106.here hx rfl (hb hby at_24) ?_
  exact k_)
 obtain ⟨_, _, ⟨T110, L110, k110, n110⟩, -, X110, ⟨Lc110, hQ110, l110, y110, z110⟩, st110⟩ := Jvm.LawKit.callS X106 hx (y := (⟨"com/example/subsume/subsume/model/LinesLinePinLaw", "ch", "(JI)C"⟩ : MethodName)) hown (mvT hZ (own_w hw 1 rfl)) (mvT hZ (own_w hw 2 rfl)) (mvT hZ (own_w hw 3 rfl)) (mvT hZ (own_w hw 4 rfl)) (by decide) (backOf (W := 0) (rm1 l Z a0 hw [] q2 (2 : Int32) h0 n0 (Nat.le_trans Z0 (Keep.refl h0 []).1) ) hZ (own_w hw 4 rfl) (own_w hw 3 rfl) (by decide) (by decide)) (g := (mkF m 25 #[.val (.int p1), .val (.long q2), .second, .val (.int p3), .val (.int ((p1 &&& (2147483647 : Int32)) % (7 : Int32))), .val (.int x103), .val (.int x107), .unset, .unset, .unset, .unset, .unset, .unset, .unset, .unset, .unset, .unset] [(.int (2 : Int32)), (.long q2)])) rfl (by rw [hml]; rfl) (argsL := [(.long q2), (.int (2 : Int32))]) (rest := []) (lenOf pd13 rfl) rfl (by show 2 * 0 + _ ≤ _; exact Nat.le_of_eq rfl) (hb hby at_25) (fun _ _ => ⟨rfl, q106_hh, (by decide : 0 + 0 ≤ _), (by decide : 0 + 0 ≤ _)⟩)
 dsimp only [Pt.U, Pt.locs, Pt.cells, Pt.slots] at X110 l110 y110 z110 st110 hQ110
 subst l110 y110 z110
 obtain ⟨x111, rfl, N110q, q110_hh, q110_ra, q110_rb⟩ := hQ110
 have N110 := Fr.app N106 N110q
 have p112 : Go p.tables e below _ (T110.setTop (mkF m 30 #[.val (.int p1), .val (.long q2), .second, .val (.int p3), .val (.int ((p1 &&& (2147483647 : Int32)) % (7 : Int32))), .val (.int x103), .val (.int x107), .val (.int x111), .unset, .unset, .unset, .unset, .unset, .unset, .unset, .unset, .unset] [])) := fun t_ k_ => (gc p109 st110) t_ (by
  refine XS.istore X110.here hx rfl (hb hby at_28) rfl (l' := #[.val (.int p1), .val (.long q2), .second, .val (.int p3), .val (.int ((p1 &&& (2147483647 : Int32)) % (7 : Int32))), .val (.int x103), .val (.int x107), .val (.int x111), .unset, .unset, .unset, .unset, .unset, .unset, .unset, .unset, .unset]) rfl ?_
  exact k_)
 have ra2 := q110_ra
 have rb2 := q110_rb
 have p113 : Go p.tables e below _ (T110.setTop (mkF m 32 #[.val (.int p1), .val (.long q2), .second, .val (.int p3), .val (.int ((p1 &&& (2147483647 : Int32)) % (7 : Int32))), .val (.int x103), .val (.int x107), .val (.int x111), .unset, .unset, .unset, .unset, .unset, .unset, .unset, .unset, .unset] [(.int (3 : Int32)), (.long q2)])) := fun t_ k_ => p112 t_ (by
  refine XS.lloadN X110.here hx rfl (hb hby at_30) rfl ?_
  refine XS.iconst X110.here hx rfl (hb hby at_31) ?_
  exact k_)
 obtain ⟨_, _, ⟨T114, L114, k114, n114⟩, -, X114, ⟨Lc114, hQ114, l114, y114, z114⟩, st114⟩ := Jvm.LawKit.callS X110 hx (y := (⟨"com/example/subsume/subsume/model/LinesLinePinLaw", "ch", "(JI)C"⟩ : MethodName)) hown (mvT hZ (own_w hw 1 rfl)) (mvT hZ (own_w hw 2 rfl)) (mvT hZ (own_w hw 3 rfl)) (mvT hZ (own_w hw 4 rfl)) (by decide) (backOf (W := 0) (rm1 l Z a0 hw [] q2 (3 : Int32) h0 n0 (Nat.le_trans Z0 (Keep.refl h0 []).1) ) hZ (own_w hw 4 rfl) (own_w hw 3 rfl) (by decide) (by decide)) (g := (mkF m 32 #[.val (.int p1), .val (.long q2), .second, .val (.int p3), .val (.int ((p1 &&& (2147483647 : Int32)) % (7 : Int32))), .val (.int x103), .val (.int x107), .val (.int x111), .unset, .unset, .unset, .unset, .unset, .unset, .unset, .unset, .unset] [(.int (3 : Int32)), (.long q2)])) rfl (by rw [hml]; rfl) (argsL := [(.long q2), (.int (3 : Int32))]) (rest := []) (lenOf pd13 rfl) rfl (by show 2 * 0 + _ ≤ _; exact Nat.le_of_eq rfl) (hb hby at_32) (fun _ _ => ⟨rfl, q110_hh, (by decide : 0 + 0 ≤ _), (by decide : 0 + 0 ≤ _)⟩)
 dsimp only [Pt.U, Pt.locs, Pt.cells, Pt.slots] at X114 l114 y114 z114 st114 hQ114
 subst l114 y114 z114
 obtain ⟨x115, rfl, N114q, q114_hh, q114_ra, q114_rb⟩ := hQ114
 have N114 := Fr.app N110 N114q
 have p116 : Go p.tables e below _ (T114.setTop (mkF m 37 #[.val (.int p1), .val (.long q2), .second, .val (.int p3), .val (.int ((p1 &&& (2147483647 : Int32)) % (7 : Int32))), .val (.int x103), .val (.int x107), .val (.int x111), .val (.int x115), .unset, .unset, .unset, .unset, .unset, .unset, .unset, .unset] [])) := fun t_ k_ => (gc p113 st114) t_ (by
  refine XS.istore X114.here hx rfl (hb hby at_35) rfl (l' := #[.val (.int p1), .val (.long q2), .second, .val (.int p3), .val (.int ((p1 &&& (2147483647 : Int32)) % (7 : Int32))), .val (.int x103), .val (.int x107), .val (.int x111), .val (.int x115), .unset, .unset, .unset, .unset, .unset, .unset, .unset, .unset]) rfl ?_
  exact k_)
 have ra3 := q114_ra
 have rb3 := q114_rb
 have p117 : Go p.tables e below _ (T114.setTop (mkF m 39 #[.val (.int p1), .val (.long q2), .second, .val (.int p3), .val (.int ((p1 &&& (2147483647 : Int32)) % (7 : Int32))), .val (.int x103), .val (.int x107), .val (.int x111), .val (.int x115), .unset, .unset, .unset, .unset, .unset, .unset, .unset, .unset] [(.int (4 : Int32)), (.long q2)])) := fun t_ k_ => p116 t_ (by
  refine XS.lloadN X114.here hx rfl (hb hby at_37) rfl ?_
  refine XS.iconst X114.here hx rfl (hb hby at_38) ?_
  exact k_)
 obtain ⟨_, _, ⟨T118, L118, k118, n118⟩, -, X118, ⟨Lc118, hQ118, l118, y118, z118⟩, st118⟩ := Jvm.LawKit.callS X114 hx (y := (⟨"com/example/subsume/subsume/model/LinesLinePinLaw", "ch", "(JI)C"⟩ : MethodName)) hown (mvT hZ (own_w hw 1 rfl)) (mvT hZ (own_w hw 2 rfl)) (mvT hZ (own_w hw 3 rfl)) (mvT hZ (own_w hw 4 rfl)) (by decide) (backOf (W := 0) (rm1 l Z a0 hw [] q2 (4 : Int32) h0 n0 (Nat.le_trans Z0 (Keep.refl h0 []).1) ) hZ (own_w hw 4 rfl) (own_w hw 3 rfl) (by decide) (by decide)) (g := (mkF m 39 #[.val (.int p1), .val (.long q2), .second, .val (.int p3), .val (.int ((p1 &&& (2147483647 : Int32)) % (7 : Int32))), .val (.int x103), .val (.int x107), .val (.int x111), .val (.int x115), .unset, .unset, .unset, .unset, .unset, .unset, .unset, .unset] [(.int (4 : Int32)), (.long q2)])) rfl (by rw [hml]; rfl) (argsL := [(.long q2), (.int (4 : Int32))]) (rest := []) (lenOf pd13 rfl) rfl (by show 2 * 0 + _ ≤ _; exact Nat.le_of_eq rfl) (hb hby at_39) (fun _ _ => ⟨rfl, q114_hh, (by decide : 0 + 0 ≤ _), (by decide : 0 + 0 ≤ _)⟩)
 dsimp only [Pt.U, Pt.locs, Pt.cells, Pt.slots] at X118 l118 y118 z118 st118 hQ118
 subst l118 y118 z118
 obtain ⟨x119, rfl, N118q, q118_hh, q118_ra, q118_rb⟩ := hQ118
 have N118 := Fr.app N114 N118q
 have p120 : Go p.tables e below _ (T118.setTop (mkF m 44 #[.val (.int p1), .val (.long q2), .second, .val (.int p3), .val (.int ((p1 &&& (2147483647 : Int32)) % (7 : Int32))), .val (.int x103), .val (.int x107), .val (.int x111), .val (.int x115), .val (.int x119), .unset, .unset, .unset, .unset, .unset, .unset, .unset] [])) := fun t_ k_ => (gc p117 st118) t_ (by
  refine XS.istore X118.here hx rfl (hb hby at_42) rfl (l' := #[.val (.int p1), .val (.long q2), .second, .val (.int p3), .val (.int ((p1 &&& (2147483647 : Int32)) % (7 : Int32))), .val (.int x103), .val (.int x107), .val (.int x111), .val (.int x115), .val (.int x119), .unset, .unset, .unset, .unset, .unset, .unset, .unset]) rfl ?_
  exact k_)
 have ra4 := q118_ra
 have rb4 := q118_rb
 have p121 : Go p.tables e below _ (T118.setTop (mkF m 46 #[.val (.int p1), .val (.long q2), .second, .val (.int p3), .val (.int ((p1 &&& (2147483647 : Int32)) % (7 : Int32))), .val (.int x103), .val (.int x107), .val (.int x111), .val (.int x115), .val (.int x119), .unset, .unset, .unset, .unset, .unset, .unset, .unset] [(.int (5 : Int32)), (.long q2)])) := fun t_ k_ => p120 t_ (by
  refine XS.lloadN X118.here hx rfl (hb hby at_44) rfl ?_
  refine XS.iconst X118.here hx rfl (hb hby at_45) ?_
  exact k_)
 obtain ⟨_, _, ⟨T122, L122, k122, n122⟩, -, X122, ⟨Lc122, hQ122, l122, y122, z122⟩, st122⟩ := Jvm.LawKit.callS X118 hx (y := (⟨"com/example/subsume/subsume/model/LinesLinePinLaw", "ch", "(JI)C"⟩ : MethodName)) hown (mvT hZ (own_w hw 1 rfl)) (mvT hZ (own_w hw 2 rfl)) (mvT hZ (own_w hw 3 rfl)) (mvT hZ (own_w hw 4 rfl)) (by decide) (backOf (W := 0) (rm1 l Z a0 hw [] q2 (5 : Int32) h0 n0 (Nat.le_trans Z0 (Keep.refl h0 []).1) ) hZ (own_w hw 4 rfl) (own_w hw 3 rfl) (by decide) (by decide)) (g := (mkF m 46 #[.val (.int p1), .val (.long q2), .second, .val (.int p3), .val (.int ((p1 &&& (2147483647 : Int32)) % (7 : Int32))), .val (.int x103), .val (.int x107), .val (.int x111), .val (.int x115), .val (.int x119), .unset, .unset, .unset, .unset, .unset, .unset, .unset] [(.int (5 : Int32)), (.long q2)])) rfl (by rw [hml]; rfl) (argsL := [(.long q2), (.int (5 : Int32))]) (rest := []) (lenOf pd13 rfl) rfl (by show 2 * 0 + _ ≤ _; exact Nat.le_of_eq rfl) (hb hby at_46) (fun _ _ => ⟨rfl, q118_hh, (by decide : 0 + 0 ≤ _), (by decide : 0 + 0 ≤ _)⟩)
 dsimp only [Pt.U, Pt.locs, Pt.cells, Pt.slots] at X122 l122 y122 z122 st122 hQ122
 subst l122 y122 z122
 obtain ⟨x123, rfl, N122q, q122_hh, q122_ra, q122_rb⟩ := hQ122
 have N122 := Fr.app N118 N122q
 have p124 : Go p.tables e below _ (T122.setTop (mkF m 51 #[.val (.int p1), .val (.long q2), .second, .val (.int p3), .val (.int ((p1 &&& (2147483647 : Int32)) % (7 : Int32))), .val (.int x103), .val (.int x107), .val (.int x111), .val (.int x115), .val (.int x119), .val (.int x123), .unset, .unset, .unset, .unset, .unset, .unset] [])) := fun t_ k_ => (gc p121 st122) t_ (by
  refine XS.istore X122.here hx rfl (hb hby at_49) rfl (l' := #[.val (.int p1), .val (.long q2), .second, .val (.int p3), .val (.int ((p1 &&& (2147483647 : Int32)) % (7 : Int32))), .val (.int x103), .val (.int x107), .val (.int x111), .val (.int x115), .val (.int x119), .val (.int x123), .unset, .unset, .unset, .unset, .unset, .unset]) rfl ?_
  exact k_)
 have ra5 := q122_ra
 have rb5 := q122_rb
 obtain ⟨nn, hnn⟩ : ∃ z, z = ((p1 &&& (2147483647 : Int32)) % (7 : Int32)) := ⟨_, rfl⟩
 have p125 : Go p.tables e below (s₁.setTop (entryFrame m #[(.int p1), (.long q2), (.int p3)] maxLocals)) (T122.setTop (mkF m 51 #[.val (.int p1), .val (.long q2), .second, .val (.int p3), .val (.int nn), .val (.int x103), .val (.int x107), .val (.int x111), .val (.int x115), .val (.int x119), .val (.int x123), .unset, .unset, .unset, .unset, .unset, .unset] [])) := by rw [hnn]; exact p124
 rcases (hnn ▸ own_rem7 p1 : nn = 0 ∨ nn = 1 ∨ nn = 2 ∨ nn = 3 ∨ nn = 4 ∨ nn = 5 ∨ nn = 6) with ro | ro | ro | ro | ro | ro | ro
 ·have p126 : Go p.tables e below (s₁.setTop (entryFrame m #[(.int p1), (.long q2), (.int p3)] maxLocals)) (T122.setTop (mkF m 51 #[.val (.int p1), .val (.long q2), .second, .val (.int p3), .val (.int (0 : Int32)), .val (.int x103), .val (.int x107), .val (.int x111), .val (.int x115), .val (.int x119), .val (.int x123), .unset, .unset, .unset, .unset, .unset, .unset] [])) := by have z := p125; rw [ro] at z; exact z
  have p127 : Go p.tables e below _ (T122.setTop (mkF m 57 #[.val (.int p1), .val (.long q2), .second, .val (.int p3), .val (.int (0 : Int32)), .val (.int x103), .val (.int x107), .val (.int x111), .val (.int x115), .val (.int x119), .val (.int x123), .unset, .unset, .unset, .unset, .unset, .unset] [(.int (0 : Int32))])) := fun t_ k_ => p126 t_ (by
   refine XS.iload X122.here hx rfl (hb hby at_51) rfl ?_
   refine XS.ifNo X122.here hx rfl (hb hby at_53) rfl ((if0 _ _).trans (teq (by decide : ((0 : Int32) = (0 : Int32)))).2) ?_
   refine XS.iconst X122.here hx rfl (hb hby at_56) ?_
   exact k_)
  obtain ⟨T128, h128, k128, X128, e128, E128, A128, st128⟩ := newP X122 hx hZ (own_w hw 6 rfl) q122_hh (g := (mkF m 57 #[.val (.int p1), .val (.long q2), .second, .val (.int p3), .val (.int (0 : Int32)), .val (.int x103), .val (.int x107), .val (.int x111), .val (.int x115), .val (.int x119), .val (.int x123), .unset, .unset, .unset, .unset, .unset, .unset] [(.int (0 : Int32))])) rfl (hb hby at_57) rfl (by decide) (cap := 0) (by decide) (by decide) (by decide) (by decide)
  obtain ⟨b128, g128⟩ : ∃ z, z = h0.size := ⟨_, rfl⟩
  rw [← g128] at A128 st128
  have ge_b128 : n0 ≤ b128 := Nat.le_trans (Nat.le_trans Z0 (Keep.refl h0 []).1) (Nat.le_of_eq g128.symm)
  have sz_b128 : h0.size ≤ b128 := Nat.le_trans (Keep.refl h0 []).1 (Nat.le_of_eq g128.symm)
  have K129 : Keep h0 h128 [] := (Keep.refl h0 []).ext E128
  have V128 : Arv Z h128 b128 k128 .char (0 : Int32) [] (.int (0 : Int32)) := Arv.new A128 (by decide)
  have p130 : Go p.tables e below _ (T128.setTop (mkF m 245 #[.val (.int p1), .val (.long q2), .second, .val (.int p3), .val (.int (0 : Int32)), .val (.int x103), .val (.int x107), .val (.int x111), .val (.int x115), .val (.int x119), .val (.int x123), .val (.ref b128), .unset, .unset, .unset, .unset, .unset] [])) := fun t_ k_ => (gc p127 st128) t_ (by
   refine XS.astore X128.here hx rfl (hb hby at_59) rfl rfl (l' := #[.val (.int p1), .val (.long q2), .second, .val (.int p3), .val (.int (0 : Int32)), .val (.int x103), .val (.int x107), .val (.int x111), .val (.int x115), .val (.int x119), .val (.int x123), .val (.ref b128), .unset, .unset, .unset, .unset, .unset]) rfl ?_
   refine XS.goto X128.here hx rfl (pc0 := 61) (pc' := 245) rfl (hb hby at_61) (by decide) (by decide) ?_
   exact k_)
  obtain ⟨T131, h131, X131, e131, E131, A131, D131, -, st131⟩ := newO X128 hx hZ hown (own_w hw 7 rfl) (own_w hw 8 rfl) (own_w hw 9 rfl) e128 (g := (mkF m 245 #[.val (.int p1), .val (.long q2), .second, .val (.int p3), .val (.int (0 : Int32)), .val (.int x103), .val (.int x107), .val (.int x111), .val (.int x115), .val (.int x119), .val (.int x123), .val (.ref b128), .unset, .unset, .unset, .unset, .unset] [])) rfl (hb hby at_245) (by decide) (by decide)
  obtain ⟨b131, g131⟩ : ∃ z, z = h128.size := ⟨_, rfl⟩
  rw [← g131] at A131 D131 st131
  have ne_b128_b131 : b128 ≠ b131 := Nat.ne_of_lt (Nat.lt_of_lt_of_le V128.lt (Nat.le_of_eq g131.symm))
  have ge_b131 : n0 ≤ b131 := Nat.le_trans (Nat.le_trans Z0 K129.1) (Nat.le_of_eq g131.symm)
  have sz_b131 : h0.size ≤ b131 := Nat.le_trans K129.1 (Nat.le_of_eq g131.symm)
  have K132 : Keep h0 h131 [] := K129.ext E131
  have F131_value : Fld Z h131 b131 "java/lang/String" "value" "[B" .null := D131 (Or.inr (own_w hw 22 rfl)) (ty := (.array .byte)) (by decide)
  have F131_coder : Fld Z h131 b131 "java/lang/String" "coder" "B" (.int (0 : Int32)) := D131 (Or.inr (own_w hw 23 rfl)) (ty := .byte) (by decide)
  have p133 : Go p.tables e below _ (T131.setTop (mkF m 251 #[.val (.int p1), .val (.long q2), .second, .val (.int p3), .val (.int (0 : Int32)), .val (.int x103), .val (.int x107), .val (.int x111), .val (.int x115), .val (.int x119), .val (.int x123), .val (.ref b128), .unset, .unset, .unset, .unset, .unset] [(.ref b128), (.ref b131), (.ref b131)])) := fun t_ k_ => (gc p130 st131) t_ (by
   refine XS.dup X131.here hx rfl (hb hby at_248) rfl rfl ?_
   refine XS.aload X131.here hx rfl (hb hby at_249) rfl rfl ?_
   exact k_)
  have f134 := ((O1.ext E128).ext E131)
  have f135 := (V128.ext E131)
  obtain ⟨_, _, ⟨T136, L136, k136, n136⟩, -, X136, S136, -, ⟨Lc136, hQ136, l136, y136, z136⟩, st136⟩ := X131.specialBackS hx (y := (⟨"java/lang/String", "<init>", "([C)V"⟩ : MethodName)) rfl hown (mvT hZ (own_w hw 10 rfl)) (mvT hZ (own_w hw 11 rfl)) (mvT hZ (own_w hw 12 rfl)) (by decide) (backOfI (W := 1) (rm2_E l Z a0 hw [] b131 b128 k128 cs1 fm h131 n0 (Nat.le_trans Z0 K132.1) f134 G hcw hheld F131_coder F131_value A131 ge_b131 f135) hZ I0 (own_w hw 12 rfl) (own_w hw 9 rfl) (by decide) (by decide)) (g := (mkF m 251 #[.val (.int p1), .val (.long q2), .second, .val (.int p3), .val (.int (0 : Int32)), .val (.int x103), .val (.int x107), .val (.int x111), .val (.int x115), .val (.int x119), .val (.int x123), .val (.ref b128), .unset, .unset, .unset, .unset, .unset] [(.ref b128), (.ref b131), (.ref b131)])) rfl (by rw [hml]; rfl) (Steps.refl _) (a := b131) (argsL := [(.ref b128)]) (rest := [(.ref b131)]) (lenOf pd14 rfl) rfl (by show 2 * 0 + _ ≤ _; exact Nat.le_of_eq rfl) (hb hby at_251) (fun _ _ => ⟨rfl, e131, (by decide : 2 + 2 ≤ _), (by decide : 4 + 4 ≤ _)⟩)
  dsimp only [Pt.U, Pt.locs, Pt.cells, Pt.slots] at X136 l136 y136 z136 st136 hQ136 S136
  subst l136 y136 z136
  have hZ136 : Z.Warmed39 (s.setVm T136.vm).vm := State.Warmed39.trans (t := s) hZ S136.1
  have hown136 : (s.setVm T136.vm).vm.findClass "com/example/subsume/subsume/model/LinesLinePinLaw" = some m.cls := by rw [show (s.setVm T136.vm).vm = T136.vm from rfl, S136.1.alike.findClass]; exact hown
  have kb136 := Nat.le_refl T136.heap.size
  obtain ⟨x137, x138, rfl, N136q, q136_K, q136_E, q136_c, q136_v, q136_V⟩ := hQ136
  have N136 := Fr.app N122 N136q
  have K139 : Keep h0 T136.heap [] := K132.trans q136_K (allS (Or.inr sz_b131) all0)
  have p140 : Go p.tables e below _ (T136.setTop (mkF m 267 #[.val (.int p1), .val (.long q2), .second, .val (.int p3), .val (.int (0 : Int32)), .val (.int x103), .val (.int x107), .val (.int x111), .val (.int x115), .val (.int x119), .val (.int x123), .val (.ref b128), .val (.ref b131), .val (.int ((p3 &&& (2147483647 : Int32)) % (1 : Int32))), .unset, .unset, .unset] [])) := fun t_ k_ => (gcT p133 st136) t_ (by
   refine XS.astore X136.here hx rfl (hb hby at_254) rfl rfl (l' := #[.val (.int p1), .val (.long q2), .second, .val (.int p3), .val (.int (0 : Int32)), .val (.int x103), .val (.int x107), .val (.int x111), .val (.int x115), .val (.int x119), .val (.int x123), .val (.ref b128), .val (.ref b131), .unset, .unset, .unset, .unset]) rfl ?_
   refine XS.iloadN X136.here hx rfl (hb hby at_256) rfl ?_
   refine X136.ldcInt hx hown136 (mvT hZ136 (own_w hw 0 rfl)) (g := (mkF m 257 #[.val (.int p1), .val (.long q2), .second, .val (.int p3), .val (.int (0 : Int32)), .val (.int x103), .val (.int x107), .val (.int x111), .val (.int x115), .val (.int x119), .val (.int x123), .val (.ref b128), .val (.ref b131), .unset, .unset, .unset, .unset] [(.int p3)])) rfl (hb hby at_257) _ ?_
   refine XS.iand X136.here hx rfl (hb hby at_259) rfl ?_
   refine XS.iload X136.here hx rfl (hb hby at_260) rfl ?_
   refine XS.iconst X136.here hx rfl (hb hby at_262) ?_
   refine XS.iadd X136.here hx rfl (hb hby at_263) rfl ?_
   refine Jvm.RoadKit.iremM X136 hx rfl (hb hby at_264) rfl (by decide) ?_
   refine XS.istore X136.here hx rfl (hb hby at_265) rfl (l' := #[.val (.int p1), .val (.long q2), .second, .val (.int p3), .val (.int (0 : Int32)), .val (.int x103), .val (.int x107), .val (.int x111), .val (.int x115), .val (.int x119), .val (.int x123), .val (.ref b128), .val (.ref b131), .val (.int ((p3 &&& (2147483647 : Int32)) % (1 : Int32))), .unset, .unset, .unset]) rfl ?_
   exact k_)
  obtain ⟨ko, hko, hkz⟩ := own_modk p3 0 (by decide)
  have p141 : Go p.tables e below (s₁.setTop (entryFrame m #[(.int p1), (.long q2), (.int p3)] maxLocals)) (T136.setTop (mkF m 267 #[.val (.int p1), .val (.long q2), .second, .val (.int p3), .val (.int (0 : Int32)), .val (.int x103), .val (.int x107), .val (.int x111), .val (.int x115), .val (.int x119), .val (.int x123), .val (.ref b128), .val (.ref b131), .val (.int (Int32.ofNat ko)), .unset, .unset, .unset] [])) := by have z := p140; rw [← hkz]; exact z
  obtain ⟨T142, h142, X142, e142, E142, A142, D142, -, st142⟩ := newO X136 hx hZ136 hown136 (own_w hw 28 rfl) (own_w hw 29 rfl) (own_w hw 30 rfl) rfl (g := (mkF m 267 #[.val (.int p1), .val (.long q2), .second, .val (.int p3), .val (.int (0 : Int32)), .val (.int x103), .val (.int x107), .val (.int x111), .val (.int x115), .val (.int x119), .val (.int x123), .val (.ref b128), .val (.ref b131), .val (.int (Int32.ofNat ko)), .unset, .unset, .unset] [])) rfl (hb hby at_267) (by decide) (by decide)
  obtain ⟨b142, g142⟩ : ∃ z, z = T136.heap.size := ⟨_, rfl⟩
  rw [← g142] at A142 D142 st142
  have f143 := (f135.keep q136_K (ninS ne_b128_b131 nin0))
  have ne_b128_b142 : b128 ≠ b142 := Nat.ne_of_lt (Nat.lt_of_lt_of_le f143.lt (Nat.le_of_eq g142.symm))
  have ne_b131_b142 : b131 ≠ b142 := Nat.ne_of_lt (Nat.lt_of_lt_of_le q136_E.lt (Nat.le_of_eq g142.symm))
  have ne_x137_b142 : x137 ≠ b142 := Nat.ne_of_lt (Nat.lt_of_lt_of_le q136_V.lt (Nat.le_of_eq g142.symm))
  have ge_b142 : n0 ≤ b142 := Nat.le_trans (Nat.le_trans Z0 K139.1) (Nat.le_of_eq g142.symm)
  have sz_b142 : h0.size ≤ b142 := Nat.le_trans K139.1 (Nat.le_of_eq g142.symm)
  have K144 : Keep h0 h142 [] := K139.ext E142
  have F142_text : Fld Z h142 b142 "com/example/subsume/subsume/model/Lines" "text" "Ljava/lang/String;" .null := D142 (Or.inr (own_w hw 36 rfl)) (ty := (.object "java/lang/String")) (by decide)
  have F142_starts : Fld Z h142 b142 "com/example/subsume/subsume/model/Lines" "starts" "[I" .null := D142 (Or.inr (own_w hw 50 rfl)) (ty := (.array .int)) (by decide)
  have p145 : Go p.tables e below _ (T142.setTop (mkF m 273 #[.val (.int p1), .val (.long q2), .second, .val (.int p3), .val (.int (0 : Int32)), .val (.int x103), .val (.int x107), .val (.int x111), .val (.int x115), .val (.int x119), .val (.int x123), .val (.ref b128), .val (.ref b131), .val (.int (Int32.ofNat ko)), .unset, .unset, .unset] [(.ref b131), (.ref b142), (.ref b142)])) := fun t_ k_ => (gc p141 st142) t_ (by
   refine XS.dup X142.here hx rfl (hb hby at_270) rfl rfl ?_
   refine XS.aload X142.here hx rfl (hb hby at_271) rfl rfl ?_
   exact k_)
  have HBp : ∀ i, i < 0 → ∃ b : Int32, ([] : List Value).getD ((Int32.ofNat i)).toNatClampNeg (.int (0 : Int32)) = .int b ∧ own_c8 b = own_at [] i := by
   intro i hi
   omega
  have f146 := (f143.ext E142)
  have f147 := (q136_E.ext E142)
  have f148 := (q136_V.ext E142)
  have f149 := ((f134.keep q136_K (allS ge_b131 all0)).ext E142)
  have f150 := (q136_c.ext E142)
  have f151 := (q136_v.ext E142)
  obtain ⟨_, _, ⟨T152, L152, k152, n152⟩, -, X152, ⟨Lc152, hQ152, l152, y152, z152⟩, st152⟩ := X142.specialBack hx (y := (⟨"com/example/subsume/subsume/model/Lines", "<init>", "(Ljava/lang/String;)V"⟩ : MethodName)) rfl hown136 (mvT hZ136 (own_w hw 31 rfl)) (mvT hZ136 (own_w hw 32 rfl)) (mvT hZ136 (own_w hw 33 rfl)) (by decide) (backOf (W := 1) (rm5_0 l Z a0 hw [] b142 b131 x137 x138 (0 : Int32) [] [] 0 cs1 fm h142 n0 (Nat.le_trans Z0 K144.1) f149 G f147 f150 f151 f148 F142_starts F142_text A142 ge_b142 (Ne.symm ne_b131_b142) (Ne.symm ne_x137_b142) (by decide) (by decide) HBp rfl) hZ136 (own_w hw 33 rfl) (own_w hw 30 rfl) (by decide) (by decide)) (g := (mkF m 273 #[.val (.int p1), .val (.long q2), .second, .val (.int p3), .val (.int (0 : Int32)), .val (.int x103), .val (.int x107), .val (.int x111), .val (.int x115), .val (.int x119), .val (.int x123), .val (.ref b128), .val (.ref b131), .val (.int (Int32.ofNat ko)), .unset, .unset, .unset] [(.ref b131), (.ref b142), (.ref b142)])) rfl (by rw [hml]; rfl) (Steps.refl _) (a := b142) (argsL := [(.ref b131)]) (rest := [(.ref b142)]) (lenOf pd15 rfl) rfl (by show 2 * 0 + _ ≤ _; exact Nat.le_of_eq rfl) (hb hby at_273) (fun _ _ => ⟨rfl, e142, (by decide : 5 + 1 ≤ _), (by decide : 10 + 9 ≤ _)⟩)
  dsimp only [Pt.U, Pt.locs, Pt.cells, Pt.slots] at X152 l152 y152 z152 st152 hQ152
  subst l152 y152 z152
  obtain ⟨x153, x154, rfl, N152q, q152_K, q152_E, q152_t, q152_s, q152_V, q152_g, q152_z, q152_n⟩ := hQ152
  have N152 := Fr.app N136 N152q
  have K155 : Keep h0 T152.heap [] := K144.trans q152_K (allS (Or.inr sz_b142) all0)
  have ne_b128_x153 : b128 ≠ x153 := Nat.ne_of_lt (Nat.lt_of_lt_of_le f146.lt q152_z)
  have ne_b131_x153 : b131 ≠ x153 := Nat.ne_of_lt (Nat.lt_of_lt_of_le f147.lt q152_z)
  have ne_x137_x153 : x137 ≠ x153 := Nat.ne_of_lt (Nat.lt_of_lt_of_le f148.lt q152_z)
  have ne_b142_x153 : b142 ≠ x153 := Nat.ne_of_lt (Nat.lt_of_lt_of_le A142.lt q152_z)
  have p156 : Go p.tables e below _ (T152.setTop (mkF m 282 #[.val (.int p1), .val (.long q2), .second, .val (.int p3), .val (.int (0 : Int32)), .val (.int x103), .val (.int x107), .val (.int x111), .val (.int x115), .val (.int x119), .val (.int x123), .val (.ref b128), .val (.ref b131), .val (.int (Int32.ofNat ko)), .val (.ref b142), .unset, .unset] [(.int (Int32.ofNat ko)), (.ref b142)])) := fun t_ k_ => (gcT p145 st152) t_ (by
   refine XS.astore X152.here hx rfl (hb hby at_276) rfl rfl (l' := #[.val (.int p1), .val (.long q2), .second, .val (.int p3), .val (.int (0 : Int32)), .val (.int x103), .val (.int x107), .val (.int x111), .val (.int x115), .val (.int x119), .val (.int x123), .val (.ref b128), .val (.ref b131), .val (.int (Int32.ofNat ko)), .val (.ref b142), .unset, .unset]) rfl ?_
   refine XS.aload X152.here hx rfl (hb hby at_278) rfl rfl ?_
   refine XS.iload X152.here hx rfl (hb hby at_280) rfl ?_
   exact k_)
  obtain ⟨cq157, kq157, q157a, q157b, q157c⟩ := isOf hZ136 rfl q152_E
  obtain ⟨_, _, ⟨T157, L157, k157, n157⟩, -, X157, ⟨Lc157, hQ157, l157, y157, z157⟩, st157⟩ := X152.virtualBack hx (y := (⟨"com/example/subsume/subsume/model/Lines", "line", "(I)I"⟩ : MethodName)) (z := (⟨"com/example/subsume/subsume/model/Lines", "line", "(I)I"⟩ : MethodName)) hown136 (mvT hZ136 (own_w hw 51 rfl)) (mvT hZ136 (own_w hw 52 rfl)) (notFace_of_selects (args := #[]) (mvT hZ136 (own_w hw 54 rfl))) (mvT hZ136 (own_w hw 54 rfl)) (mvT hZ136 (own_w hw 53 rfl)) (by decide) (backOf (W := 0) (rm8 l Z a0 hw [] b142 x153 x154 [] 0 ko T152.heap n0 (Nat.le_trans Z0 K155.1) q152_s q152_V (by decide) hko) hZ136 (own_w hw 55 rfl) (own_w hw 30 rfl) (by decide) (by decide)) q157a q157c (g := (mkF m 282 #[.val (.int p1), .val (.long q2), .second, .val (.int p3), .val (.int (0 : Int32)), .val (.int x103), .val (.int x107), .val (.int x111), .val (.int x115), .val (.int x119), .val (.int x123), .val (.ref b128), .val (.ref b131), .val (.int (Int32.ofNat ko)), .val (.ref b142), .unset, .unset] [(.int (Int32.ofNat ko)), (.ref b142)])) rfl (by rw [hml]; rfl) (Steps.refl _) (argsL := [(.int (Int32.ofNat ko))]) (rest := []) (lenOf pd16 rfl) rfl (by show 2 * 0 + _ ≤ _; exact Nat.le_of_eq rfl) (hb hby at_282) (fun _ _ => ⟨rfl, rfl, (by decide : 6 + 0 ≤ _), (by decide : 19 + 0 ≤ _)⟩)
  dsimp only [Pt.U, Pt.locs, Pt.cells, Pt.slots] at X157 l157 y157 z157 st157 hQ157
  subst l157 y157 z157
  obtain ⟨rfl, N157q, q157_hh⟩ := hQ157
  have N157 := Fr.app N152 N157q
  have p158 : Go p.tables e below _ (T157.setTop (mkF m 292 #[.val (.int p1), .val (.long q2), .second, .val (.int p3), .val (.int (0 : Int32)), .val (.int x103), .val (.int x107), .val (.int x111), .val (.int x115), .val (.int x119), .val (.int x123), .val (.ref b128), .val (.ref b131), .val (.int (Int32.ofNat ko)), .val (.ref b142), .val (.int (Int32.ofNat (own_nl [] ko + 1))), .unset] [(.int (Int32.ofNat ko)), (.int (0 : Int32)), (.int x103)])) := fun t_ k_ => (gcT p156 st157) t_ (by
   refine XS.istore X157.here hx rfl (hb hby at_285) rfl (l' := #[.val (.int p1), .val (.long q2), .second, .val (.int p3), .val (.int (0 : Int32)), .val (.int x103), .val (.int x107), .val (.int x111), .val (.int x115), .val (.int x119), .val (.int x123), .val (.ref b128), .val (.ref b131), .val (.int (Int32.ofNat ko)), .val (.ref b142), .val (.int (Int32.ofNat (own_nl [] ko + 1))), .unset]) rfl ?_
   refine XS.iload X157.here hx rfl (hb hby at_287) rfl ?_
   refine XS.iconst X157.here hx rfl (hb hby at_289) ?_
   refine XS.iload X157.here hx rfl (hb hby at_290) rfl ?_
   exact k_)
  obtain ⟨_, _, ⟨T159, L159, k159, n159⟩, -, X159, ⟨Lc159, hQ159, l159, y159, z159⟩, st159⟩ := Jvm.LawKit.callS X157 hx (y := (⟨"com/example/subsume/subsume/model/LinesLinePinLaw", "nl", "(CII)I"⟩ : MethodName)) hown136 (mvT hZ136 (own_w hw 63 rfl)) (mvT hZ136 (own_w hw 64 rfl)) (mvT hZ136 (own_w hw 3 rfl)) (mvT hZ136 (own_w hw 65 rfl)) (by decide) (backOf (W := 0) (rm11 l Z a0 hw [] x103 0 ko T152.heap n0 (Nat.le_trans Z0 K155.1) (by decide) (by omega)) hZ136 (own_w hw 65 rfl) (own_w hw 3 rfl) (by decide) (by decide)) (g := (mkF m 292 #[.val (.int p1), .val (.long q2), .second, .val (.int p3), .val (.int (0 : Int32)), .val (.int x103), .val (.int x107), .val (.int x111), .val (.int x115), .val (.int x119), .val (.int x123), .val (.ref b128), .val (.ref b131), .val (.int (Int32.ofNat ko)), .val (.ref b142), .val (.int (Int32.ofNat (own_nl [] ko + 1))), .unset] [(.int (Int32.ofNat ko)), (.int (0 : Int32)), (.int x103)])) rfl (by rw [hml]; rfl) (argsL := [(.int x103), (.int (0 : Int32)), (.int (Int32.ofNat ko))]) (rest := []) (lenOf pd17 rfl) rfl (by show 2 * 0 + _ ≤ _; exact Nat.le_of_eq rfl) (hb hby at_292) (fun _ _ => ⟨rfl, q157_hh, (by decide : 6 + 0 ≤ _), (by decide : 19 + 0 ≤ _)⟩)
  dsimp only [Pt.U, Pt.locs, Pt.cells, Pt.slots] at X159 l159 y159 z159 st159 hQ159
  subst l159 y159 z159
  obtain ⟨rfl, N159q, q159_hh⟩ := hQ159
  have N159 := Fr.app N157 N159q
  have p160 : Go p.tables e below _ (T159.setTop (mkF m 300 #[.val (.int p1), .val (.long q2), .second, .val (.int p3), .val (.int (0 : Int32)), .val (.int x103), .val (.int x107), .val (.int x111), .val (.int x115), .val (.int x119), .val (.int x123), .val (.ref b128), .val (.ref b131), .val (.int (Int32.ofNat ko)), .val (.ref b142), .val (.int (Int32.ofNat (own_nl [] ko + 1))), .unset] [(.int (Int32.ofNat ko)), (.int (1 : Int32)), (.int x107), (.int (own_n1 x103 0 ko))])) := fun t_ k_ => (gc p158 st159) t_ (by
   refine XS.iload X159.here hx rfl (hb hby at_295) rfl ?_
   refine XS.iconst X159.here hx rfl (hb hby at_297) ?_
   refine XS.iload X159.here hx rfl (hb hby at_298) rfl ?_
   exact k_)
  obtain ⟨_, _, ⟨T161, L161, k161, n161⟩, -, X161, ⟨Lc161, hQ161, l161, y161, z161⟩, st161⟩ := Jvm.LawKit.callS X159 hx (y := (⟨"com/example/subsume/subsume/model/LinesLinePinLaw", "nl", "(CII)I"⟩ : MethodName)) hown136 (mvT hZ136 (own_w hw 63 rfl)) (mvT hZ136 (own_w hw 64 rfl)) (mvT hZ136 (own_w hw 3 rfl)) (mvT hZ136 (own_w hw 65 rfl)) (by decide) (backOf (W := 1) (rm11 l Z a0 hw [] x107 1 ko T152.heap n0 (Nat.le_trans Z0 K155.1) (by decide) (by omega)) hZ136 (own_w hw 65 rfl) (own_w hw 3 rfl) (by decide) (by decide)) (g := (mkF m 300 #[.val (.int p1), .val (.long q2), .second, .val (.int p3), .val (.int (0 : Int32)), .val (.int x103), .val (.int x107), .val (.int x111), .val (.int x115), .val (.int x119), .val (.int x123), .val (.ref b128), .val (.ref b131), .val (.int (Int32.ofNat ko)), .val (.ref b142), .val (.int (Int32.ofNat (own_nl [] ko + 1))), .unset] [(.int (Int32.ofNat ko)), (.int (1 : Int32)), (.int x107), (.int (own_n1 x103 0 ko))])) rfl (by rw [hml]; rfl) (argsL := [(.int x107), (.int (1 : Int32)), (.int (Int32.ofNat ko))]) (rest := [(.int (own_n1 x103 0 ko))]) (lenOf pd17 rfl) rfl (by show 2 * 0 + _ ≤ _; exact Nat.le_of_eq rfl) (hb hby at_300) (fun _ _ => ⟨rfl, q159_hh, (by decide : 6 + 0 ≤ _), (by decide : 19 + 0 ≤ _)⟩)
  dsimp only [Pt.U, Pt.locs, Pt.cells, Pt.slots] at X161 l161 y161 z161 st161 hQ161
  subst l161 y161 z161
  obtain ⟨rfl, N161q, q161_hh⟩ := hQ161
  have N161 := Fr.app N159 N161q
  have p162 : Go p.tables e below _ (T161.setTop (mkF m 309 #[.val (.int p1), .val (.long q2), .second, .val (.int p3), .val (.int (0 : Int32)), .val (.int x103), .val (.int x107), .val (.int x111), .val (.int x115), .val (.int x119), .val (.int x123), .val (.ref b128), .val (.ref b131), .val (.int (Int32.ofNat ko)), .val (.ref b142), .val (.int (Int32.ofNat (own_nl [] ko + 1))), .unset] [(.int (Int32.ofNat ko)), (.int (2 : Int32)), (.int x111), (.int ((own_n1 x103 0 ko) + (own_n1 x107 1 ko)))])) := fun t_ k_ => (gc p160 st161) t_ (by
   refine XS.iadd X161.here hx rfl (hb hby at_303) rfl ?_
   refine XS.iload X161.here hx rfl (hb hby at_304) rfl ?_
   refine XS.iconst X161.here hx rfl (hb hby at_306) ?_
   refine XS.iload X161.here hx rfl (hb hby at_307) rfl ?_
   exact k_)
  obtain ⟨_, _, ⟨T163, L163, k163, n163⟩, -, X163, ⟨Lc163, hQ163, l163, y163, z163⟩, st163⟩ := Jvm.LawKit.callS X161 hx (y := (⟨"com/example/subsume/subsume/model/LinesLinePinLaw", "nl", "(CII)I"⟩ : MethodName)) hown136 (mvT hZ136 (own_w hw 63 rfl)) (mvT hZ136 (own_w hw 64 rfl)) (mvT hZ136 (own_w hw 3 rfl)) (mvT hZ136 (own_w hw 65 rfl)) (by decide) (backOf (W := 1) (rm11 l Z a0 hw [] x111 2 ko T152.heap n0 (Nat.le_trans Z0 K155.1) (by decide) (by omega)) hZ136 (own_w hw 65 rfl) (own_w hw 3 rfl) (by decide) (by decide)) (g := (mkF m 309 #[.val (.int p1), .val (.long q2), .second, .val (.int p3), .val (.int (0 : Int32)), .val (.int x103), .val (.int x107), .val (.int x111), .val (.int x115), .val (.int x119), .val (.int x123), .val (.ref b128), .val (.ref b131), .val (.int (Int32.ofNat ko)), .val (.ref b142), .val (.int (Int32.ofNat (own_nl [] ko + 1))), .unset] [(.int (Int32.ofNat ko)), (.int (2 : Int32)), (.int x111), (.int ((own_n1 x103 0 ko) + (own_n1 x107 1 ko)))])) rfl (by rw [hml]; rfl) (argsL := [(.int x111), (.int (2 : Int32)), (.int (Int32.ofNat ko))]) (rest := [(.int ((own_n1 x103 0 ko) + (own_n1 x107 1 ko)))]) (lenOf pd17 rfl) rfl (by show 2 * 0 + _ ≤ _; exact Nat.le_of_eq rfl) (hb hby at_309) (fun _ _ => ⟨rfl, q161_hh, (by decide : 6 + 0 ≤ _), (by decide : 19 + 0 ≤ _)⟩)
  dsimp only [Pt.U, Pt.locs, Pt.cells, Pt.slots] at X163 l163 y163 z163 st163 hQ163
  subst l163 y163 z163
  obtain ⟨rfl, N163q, q163_hh⟩ := hQ163
  have N163 := Fr.app N161 N163q
  have p164 : Go p.tables e below _ (T163.setTop (mkF m 318 #[.val (.int p1), .val (.long q2), .second, .val (.int p3), .val (.int (0 : Int32)), .val (.int x103), .val (.int x107), .val (.int x111), .val (.int x115), .val (.int x119), .val (.int x123), .val (.ref b128), .val (.ref b131), .val (.int (Int32.ofNat ko)), .val (.ref b142), .val (.int (Int32.ofNat (own_nl [] ko + 1))), .unset] [(.int (Int32.ofNat ko)), (.int (3 : Int32)), (.int x115), (.int (((own_n1 x103 0 ko) + (own_n1 x107 1 ko)) + (own_n1 x111 2 ko)))])) := fun t_ k_ => (gc p162 st163) t_ (by
   refine XS.iadd X163.here hx rfl (hb hby at_312) rfl ?_
   refine XS.iload X163.here hx rfl (hb hby at_313) rfl ?_
   refine XS.iconst X163.here hx rfl (hb hby at_315) ?_
   refine XS.iload X163.here hx rfl (hb hby at_316) rfl ?_
   exact k_)
  obtain ⟨_, _, ⟨T165, L165, k165, n165⟩, -, X165, ⟨Lc165, hQ165, l165, y165, z165⟩, st165⟩ := Jvm.LawKit.callS X163 hx (y := (⟨"com/example/subsume/subsume/model/LinesLinePinLaw", "nl", "(CII)I"⟩ : MethodName)) hown136 (mvT hZ136 (own_w hw 63 rfl)) (mvT hZ136 (own_w hw 64 rfl)) (mvT hZ136 (own_w hw 3 rfl)) (mvT hZ136 (own_w hw 65 rfl)) (by decide) (backOf (W := 1) (rm11 l Z a0 hw [] x115 3 ko T152.heap n0 (Nat.le_trans Z0 K155.1) (by decide) (by omega)) hZ136 (own_w hw 65 rfl) (own_w hw 3 rfl) (by decide) (by decide)) (g := (mkF m 318 #[.val (.int p1), .val (.long q2), .second, .val (.int p3), .val (.int (0 : Int32)), .val (.int x103), .val (.int x107), .val (.int x111), .val (.int x115), .val (.int x119), .val (.int x123), .val (.ref b128), .val (.ref b131), .val (.int (Int32.ofNat ko)), .val (.ref b142), .val (.int (Int32.ofNat (own_nl [] ko + 1))), .unset] [(.int (Int32.ofNat ko)), (.int (3 : Int32)), (.int x115), (.int (((own_n1 x103 0 ko) + (own_n1 x107 1 ko)) + (own_n1 x111 2 ko)))])) rfl (by rw [hml]; rfl) (argsL := [(.int x115), (.int (3 : Int32)), (.int (Int32.ofNat ko))]) (rest := [(.int (((own_n1 x103 0 ko) + (own_n1 x107 1 ko)) + (own_n1 x111 2 ko)))]) (lenOf pd17 rfl) rfl (by show 2 * 0 + _ ≤ _; exact Nat.le_of_eq rfl) (hb hby at_318) (fun _ _ => ⟨rfl, q163_hh, (by decide : 6 + 0 ≤ _), (by decide : 19 + 0 ≤ _)⟩)
  dsimp only [Pt.U, Pt.locs, Pt.cells, Pt.slots] at X165 l165 y165 z165 st165 hQ165
  subst l165 y165 z165
  obtain ⟨rfl, N165q, q165_hh⟩ := hQ165
  have N165 := Fr.app N163 N165q
  have p166 : Go p.tables e below _ (T165.setTop (mkF m 327 #[.val (.int p1), .val (.long q2), .second, .val (.int p3), .val (.int (0 : Int32)), .val (.int x103), .val (.int x107), .val (.int x111), .val (.int x115), .val (.int x119), .val (.int x123), .val (.ref b128), .val (.ref b131), .val (.int (Int32.ofNat ko)), .val (.ref b142), .val (.int (Int32.ofNat (own_nl [] ko + 1))), .unset] [(.int (Int32.ofNat ko)), (.int (4 : Int32)), (.int x119), (.int ((((own_n1 x103 0 ko) + (own_n1 x107 1 ko)) + (own_n1 x111 2 ko)) + (own_n1 x115 3 ko)))])) := fun t_ k_ => (gc p164 st165) t_ (by
   refine XS.iadd X165.here hx rfl (hb hby at_321) rfl ?_
   refine XS.iload X165.here hx rfl (hb hby at_322) rfl ?_
   refine XS.iconst X165.here hx rfl (hb hby at_324) ?_
   refine XS.iload X165.here hx rfl (hb hby at_325) rfl ?_
   exact k_)
  obtain ⟨_, _, ⟨T167, L167, k167, n167⟩, -, X167, ⟨Lc167, hQ167, l167, y167, z167⟩, st167⟩ := Jvm.LawKit.callS X165 hx (y := (⟨"com/example/subsume/subsume/model/LinesLinePinLaw", "nl", "(CII)I"⟩ : MethodName)) hown136 (mvT hZ136 (own_w hw 63 rfl)) (mvT hZ136 (own_w hw 64 rfl)) (mvT hZ136 (own_w hw 3 rfl)) (mvT hZ136 (own_w hw 65 rfl)) (by decide) (backOf (W := 1) (rm11 l Z a0 hw [] x119 4 ko T152.heap n0 (Nat.le_trans Z0 K155.1) (by decide) (by omega)) hZ136 (own_w hw 65 rfl) (own_w hw 3 rfl) (by decide) (by decide)) (g := (mkF m 327 #[.val (.int p1), .val (.long q2), .second, .val (.int p3), .val (.int (0 : Int32)), .val (.int x103), .val (.int x107), .val (.int x111), .val (.int x115), .val (.int x119), .val (.int x123), .val (.ref b128), .val (.ref b131), .val (.int (Int32.ofNat ko)), .val (.ref b142), .val (.int (Int32.ofNat (own_nl [] ko + 1))), .unset] [(.int (Int32.ofNat ko)), (.int (4 : Int32)), (.int x119), (.int ((((own_n1 x103 0 ko) + (own_n1 x107 1 ko)) + (own_n1 x111 2 ko)) + (own_n1 x115 3 ko)))])) rfl (by rw [hml]; rfl) (argsL := [(.int x119), (.int (4 : Int32)), (.int (Int32.ofNat ko))]) (rest := [(.int ((((own_n1 x103 0 ko) + (own_n1 x107 1 ko)) + (own_n1 x111 2 ko)) + (own_n1 x115 3 ko)))]) (lenOf pd17 rfl) rfl (by show 2 * 0 + _ ≤ _; exact Nat.le_of_eq rfl) (hb hby at_327) (fun _ _ => ⟨rfl, q165_hh, (by decide : 6 + 0 ≤ _), (by decide : 19 + 0 ≤ _)⟩)
  dsimp only [Pt.U, Pt.locs, Pt.cells, Pt.slots] at X167 l167 y167 z167 st167 hQ167
  subst l167 y167 z167
  obtain ⟨rfl, N167q, q167_hh⟩ := hQ167
  have N167 := Fr.app N165 N167q
  have p168 : Go p.tables e below _ (T167.setTop (mkF m 336 #[.val (.int p1), .val (.long q2), .second, .val (.int p3), .val (.int (0 : Int32)), .val (.int x103), .val (.int x107), .val (.int x111), .val (.int x115), .val (.int x119), .val (.int x123), .val (.ref b128), .val (.ref b131), .val (.int (Int32.ofNat ko)), .val (.ref b142), .val (.int (Int32.ofNat (own_nl [] ko + 1))), .unset] [(.int (Int32.ofNat ko)), (.int (5 : Int32)), (.int x123), (.int (((((own_n1 x103 0 ko) + (own_n1 x107 1 ko)) + (own_n1 x111 2 ko)) + (own_n1 x115 3 ko)) + (own_n1 x119 4 ko)))])) := fun t_ k_ => (gc p166 st167) t_ (by
   refine XS.iadd X167.here hx rfl (hb hby at_330) rfl ?_
   refine XS.iload X167.here hx rfl (hb hby at_331) rfl ?_
   refine XS.iconst X167.here hx rfl (hb hby at_333) ?_
   refine XS.iload X167.here hx rfl (hb hby at_334) rfl ?_
   exact k_)
  obtain ⟨_, _, ⟨T169, L169, k169, n169⟩, -, X169, ⟨Lc169, hQ169, l169, y169, z169⟩, st169⟩ := Jvm.LawKit.callS X167 hx (y := (⟨"com/example/subsume/subsume/model/LinesLinePinLaw", "nl", "(CII)I"⟩ : MethodName)) hown136 (mvT hZ136 (own_w hw 63 rfl)) (mvT hZ136 (own_w hw 64 rfl)) (mvT hZ136 (own_w hw 3 rfl)) (mvT hZ136 (own_w hw 65 rfl)) (by decide) (backOf (W := 1) (rm11 l Z a0 hw [] x123 5 ko T152.heap n0 (Nat.le_trans Z0 K155.1) (by decide) (by omega)) hZ136 (own_w hw 65 rfl) (own_w hw 3 rfl) (by decide) (by decide)) (g := (mkF m 336 #[.val (.int p1), .val (.long q2), .second, .val (.int p3), .val (.int (0 : Int32)), .val (.int x103), .val (.int x107), .val (.int x111), .val (.int x115), .val (.int x119), .val (.int x123), .val (.ref b128), .val (.ref b131), .val (.int (Int32.ofNat ko)), .val (.ref b142), .val (.int (Int32.ofNat (own_nl [] ko + 1))), .unset] [(.int (Int32.ofNat ko)), (.int (5 : Int32)), (.int x123), (.int (((((own_n1 x103 0 ko) + (own_n1 x107 1 ko)) + (own_n1 x111 2 ko)) + (own_n1 x115 3 ko)) + (own_n1 x119 4 ko)))])) rfl (by rw [hml]; rfl) (argsL := [(.int x123), (.int (5 : Int32)), (.int (Int32.ofNat ko))]) (rest := [(.int (((((own_n1 x103 0 ko) + (own_n1 x107 1 ko)) + (own_n1 x111 2 ko)) + (own_n1 x115 3 ko)) + (own_n1 x119 4 ko)))]) (lenOf pd17 rfl) rfl (by show 2 * 0 + _ ≤ _; exact Nat.le_of_eq rfl) (hb hby at_336) (fun _ _ => ⟨rfl, q167_hh, (by decide : 6 + 0 ≤ _), (by decide : 19 + 0 ≤ _)⟩)
  dsimp only [Pt.U, Pt.locs, Pt.cells, Pt.slots] at X169 l169 y169 z169 st169 hQ169
  subst l169 y169 z169
  obtain ⟨rfl, N169q, q169_hh⟩ := hQ169
  have N169 := Fr.app N167 N169q
  have p170 : Go p.tables e below _ (T169.setTop (mkF m 348 #[.val (.int p1), .val (.long q2), .second, .val (.int p3), .val (.int (0 : Int32)), .val (.int x103), .val (.int x107), .val (.int x111), .val (.int x115), .val (.int x119), .val (.int x123), .val (.ref b128), .val (.ref b131), .val (.int (Int32.ofNat ko)), .val (.ref b142), .val (.int (Int32.ofNat (own_nl [] ko + 1))), .val (.int ((((((own_n1 x103 0 ko) + (own_n1 x107 1 ko)) + (own_n1 x111 2 ko)) + (own_n1 x115 3 ko)) + (own_n1 x119 4 ko)) + (own_n1 x123 5 ko)))] [(.int ((1 : Int32) + ((((((own_n1 x103 0 ko) + (own_n1 x107 1 ko)) + (own_n1 x111 2 ko)) + (own_n1 x115 3 ko)) + (own_n1 x119 4 ko)) + (own_n1 x123 5 ko)))), (.int (Int32.ofNat (own_nl [] ko + 1)))])) := fun t_ k_ => (gc p168 st169) t_ (by
   refine XS.iadd X169.here hx rfl (hb hby at_339) rfl ?_
   refine XS.istore X169.here hx rfl (hb hby at_340) rfl (l' := #[.val (.int p1), .val (.long q2), .second, .val (.int p3), .val (.int (0 : Int32)), .val (.int x103), .val (.int x107), .val (.int x111), .val (.int x115), .val (.int x119), .val (.int x123), .val (.ref b128), .val (.ref b131), .val (.int (Int32.ofNat ko)), .val (.ref b142), .val (.int (Int32.ofNat (own_nl [] ko + 1))), .val (.int ((((((own_n1 x103 0 ko) + (own_n1 x107 1 ko)) + (own_n1 x111 2 ko)) + (own_n1 x115 3 ko)) + (own_n1 x119 4 ko)) + (own_n1 x123 5 ko)))]) rfl ?_
   refine XS.iload X169.here hx rfl (hb hby at_342) rfl ?_
   refine XS.iconst X169.here hx rfl (hb hby at_344) ?_
   refine XS.iload X169.here hx rfl (hb hby at_345) rfl ?_
   refine XS.iadd X169.here hx rfl (hb hby at_347) rfl ?_
   exact k_)
  have c171 : ((Int32.ofNat (own_nl [] ko + 1)) = ((1 : Int32) + ((((((own_n1 x103 0 ko) + (own_n1 x107 1 ko)) + (own_n1 x111 2 ko)) + (own_n1 x115 3 ko)) + (own_n1 x119 4 ko)) + (own_n1 x123 5 ko)))) := own_fin0 x103 x107 x111 x115 x119 x123 ko hko
  have p172 : Go p.tables e below _ (T169.setTop (mkF m 356 #[.val (.int p1), .val (.long q2), .second, .val (.int p3), .val (.int (0 : Int32)), .val (.int x103), .val (.int x107), .val (.int x111), .val (.int x115), .val (.int x119), .val (.int x123), .val (.ref b128), .val (.ref b131), .val (.int (Int32.ofNat ko)), .val (.ref b142), .val (.int (Int32.ofNat (own_nl [] ko + 1))), .val (.int ((((((own_n1 x103 0 ko) + (own_n1 x107 1 ko)) + (own_n1 x111 2 ko)) + (own_n1 x115 3 ko)) + (own_n1 x119 4 ko)) + (own_n1 x123 5 ko)))] [(.int (1 : Int32))])) := fun t_ k_ => p170 t_ (by
   refine XS.icmpNo X169.here hx rfl (hb hby at_348) rfl (teq c171).2 ?_
   refine XS.iconst X169.here hx rfl (hb hby at_351) ?_
   refine XS.goto X169.here hx rfl (pc0 := 352) (pc' := 356) rfl (hb hby at_352) (by decide) (by decide) ?_
   exact k_)
  have f173 := (Nat.le_trans (Nat.le_trans kb136 E142.1) q152_K.1)
  obtain ⟨fs, hr, hrun, hended, hRW⟩ := X169.leaveW (s := s) S136 (by rw [q169_hh]; exact f173) (v := some (.int (1 : Int32))) (fun h => by rw [Bd.returns] at h; cases h)
  refine ⟨_, _, p172 _ (retN X169 hx (t := .boolean) Bd.returns (by simp) (hb hby at_356) hr), hrun, hended, _, _, rfl, ?_, hRW.1, hRW.2.1, hRW.2.2.1, hRW.2.2.2.mono (by decide) (by decide)⟩
  show Q0 Z p1 q2 p3 cs1 fm h0 n0 _ T169.heap _
  rw [q169_hh]
  exact ⟨rfl, N169⟩
 ·have p174 : Go p.tables e below (s₁.setTop (entryFrame m #[(.int p1), (.long q2), (.int p3)] maxLocals)) (T122.setTop (mkF m 51 #[.val (.int p1), .val (.long q2), .second, .val (.int p3), .val (.int (1 : Int32)), .val (.int x103), .val (.int x107), .val (.int x111), .val (.int x115), .val (.int x119), .val (.int x123), .unset, .unset, .unset, .unset, .unset, .unset] [])) := by have z := p125; rw [ro] at z; exact z
  have p175 : Go p.tables e below _ (T122.setTop (mkF m 71 #[.val (.int p1), .val (.long q2), .second, .val (.int p3), .val (.int (1 : Int32)), .val (.int x103), .val (.int x107), .val (.int x111), .val (.int x115), .val (.int x119), .val (.int x123), .unset, .unset, .unset, .unset, .unset, .unset] [(.int (1 : Int32))])) := fun t_ k_ => p174 t_ (by
   refine XS.iload X122.here hx rfl (hb hby at_51) rfl ?_
   refine XS.ifYes X122.here hx rfl (pc0 := 53) (pc' := 64) rfl (hb hby at_53) rfl ((if0 _ _).trans (feq (by decide : ¬ ((1 : Int32) = (0 : Int32)))).2) (by decide) (by decide) ?_
   refine XS.iload X122.here hx rfl (hb hby at_64) rfl ?_
   refine XS.iconst X122.here hx rfl (hb hby at_66) ?_
   refine XS.icmpNo X122.here hx rfl (hb hby at_67) rfl (teq (by decide : ((1 : Int32) = (1 : Int32)))).2 ?_
   refine XS.iconst X122.here hx rfl (hb hby at_70) ?_
   exact k_)
  obtain ⟨T176, h176, k176, X176, e176, E176, A176, st176⟩ := newP X122 hx hZ (own_w hw 6 rfl) q122_hh (g := (mkF m 71 #[.val (.int p1), .val (.long q2), .second, .val (.int p3), .val (.int (1 : Int32)), .val (.int x103), .val (.int x107), .val (.int x111), .val (.int x115), .val (.int x119), .val (.int x123), .unset, .unset, .unset, .unset, .unset, .unset] [(.int (1 : Int32))])) rfl (hb hby at_71) rfl (by decide) (cap := 1) (by decide) (by decide) (by decide) (by decide)
  obtain ⟨b176, g176⟩ : ∃ z, z = h0.size := ⟨_, rfl⟩
  rw [← g176] at A176 st176
  have ge_b176 : n0 ≤ b176 := Nat.le_trans (Nat.le_trans Z0 (Keep.refl h0 []).1) (Nat.le_of_eq g176.symm)
  have sz_b176 : h0.size ≤ b176 := Nat.le_trans (Keep.refl h0 []).1 (Nat.le_of_eq g176.symm)
  have K177 : Keep h0 h176 [] := (Keep.refl h0 []).ext E176
  have V176 : Arv Z h176 b176 k176 .char (1 : Int32) [(.int (0 : Int32))] (.int (0 : Int32)) := (Arv.new A176 (by decide)).pad (pad_rep [] (.int (0 : Int32)) 1)
  have p178 : Go p.tables e below _ (T176.setTop (mkF m 77 #[.val (.int p1), .val (.long q2), .second, .val (.int p3), .val (.int (1 : Int32)), .val (.int x103), .val (.int x107), .val (.int x111), .val (.int x115), .val (.int x119), .val (.int x123), .unset, .unset, .unset, .unset, .unset, .unset] [(.int x103), (.int (0 : Int32)), (.ref b176), (.ref b176)])) := fun t_ k_ => (gc p175 st176) t_ (by
   refine XS.dup X176.here hx rfl (hb hby at_73) rfl rfl ?_
   refine XS.iconst X176.here hx rfl (hb hby at_74) ?_
   refine XS.iload X176.here hx rfl (hb hby at_75) rfl ?_
   exact k_)
  obtain ⟨cl179, Ar179, q179, S179, Ng179, H179, G179⟩ := id V176
  have hin179 := inb_of S179 (j := (0 : Int32)) ⟨by decide, by decide⟩
  obtain ⟨T179, h179, X179, e179, W179, st179⟩ := stC X176 hx hZ e176 Ar179 (j := (0 : Int32)) hin179 (g := (mkF m 77 #[.val (.int p1), .val (.long q2), .second, .val (.int p3), .val (.int (1 : Int32)), .val (.int x103), .val (.int x107), .val (.int x111), .val (.int x115), .val (.int x119), .val (.int x123), .unset, .unset, .unset, .unset, .unset, .unset] [(.int x103), (.int (0 : Int32)), (.ref b176), (.ref b176)])) rfl rfl (hb hby at_77)
  have K180 : Keep h0 h179 [] := K177.wr W179 (Or.inr sz_b176)
  have N179 := Fr.snoc X179 N122 ge_b176
  have V179 : Arv Z h179 b176 k176 .char (1 : Int32) [(.int (nar .char x103))] (.int (0 : Int32)) := Arv.set Ar179 q179 S179 Ng179 H179 G179 (fits_nar_char _) W179 0 rfl (Nat.le_of_ble_eq_true rfl)
  have p181 : Go p.tables e below _ (T179.setTop (mkF m 245 #[.val (.int p1), .val (.long q2), .second, .val (.int p3), .val (.int (1 : Int32)), .val (.int x103), .val (.int x107), .val (.int x111), .val (.int x115), .val (.int x119), .val (.int x123), .val (.ref b176), .unset, .unset, .unset, .unset, .unset] [])) := fun t_ k_ => (gc p178 st179) t_ (by
   refine XS.astore X179.here hx rfl (hb hby at_78) rfl rfl (l' := #[.val (.int p1), .val (.long q2), .second, .val (.int p3), .val (.int (1 : Int32)), .val (.int x103), .val (.int x107), .val (.int x111), .val (.int x115), .val (.int x119), .val (.int x123), .val (.ref b176), .unset, .unset, .unset, .unset, .unset]) rfl ?_
   refine XS.goto X179.here hx rfl (pc0 := 80) (pc' := 245) rfl (hb hby at_80) (by decide) (by decide) ?_
   exact k_)
  obtain ⟨T182, h182, X182, e182, E182, A182, D182, -, st182⟩ := newO X179 hx hZ hown (own_w hw 7 rfl) (own_w hw 8 rfl) (own_w hw 9 rfl) e179 (g := (mkF m 245 #[.val (.int p1), .val (.long q2), .second, .val (.int p3), .val (.int (1 : Int32)), .val (.int x103), .val (.int x107), .val (.int x111), .val (.int x115), .val (.int x119), .val (.int x123), .val (.ref b176), .unset, .unset, .unset, .unset, .unset] [])) rfl (hb hby at_245) (by decide) (by decide)
  obtain ⟨b182, g182⟩ : ∃ z, z = h179.size := ⟨_, rfl⟩
  rw [← g182] at A182 D182 st182
  have ne_b176_b182 : b176 ≠ b182 := Nat.ne_of_lt (Nat.lt_of_lt_of_le V179.lt (Nat.le_of_eq g182.symm))
  have ge_b182 : n0 ≤ b182 := Nat.le_trans (Nat.le_trans Z0 K180.1) (Nat.le_of_eq g182.symm)
  have sz_b182 : h0.size ≤ b182 := Nat.le_trans K180.1 (Nat.le_of_eq g182.symm)
  have K183 : Keep h0 h182 [] := K180.ext E182
  have F182_value : Fld Z h182 b182 "java/lang/String" "value" "[B" .null := D182 (Or.inr (own_w hw 22 rfl)) (ty := (.array .byte)) (by decide)
  have F182_coder : Fld Z h182 b182 "java/lang/String" "coder" "B" (.int (0 : Int32)) := D182 (Or.inr (own_w hw 23 rfl)) (ty := .byte) (by decide)
  have p184 : Go p.tables e below _ (T182.setTop (mkF m 251 #[.val (.int p1), .val (.long q2), .second, .val (.int p3), .val (.int (1 : Int32)), .val (.int x103), .val (.int x107), .val (.int x111), .val (.int x115), .val (.int x119), .val (.int x123), .val (.ref b176), .unset, .unset, .unset, .unset, .unset] [(.ref b176), (.ref b182), (.ref b182)])) := fun t_ k_ => (gc p181 st182) t_ (by
   refine XS.dup X182.here hx rfl (hb hby at_248) rfl rfl ?_
   refine XS.aload X182.here hx rfl (hb hby at_249) rfl rfl ?_
   exact k_)
  have f185 := (V179.ext E182)
  have f186 : Arv Z h182 b176 k176 .char (1 : Int32) [(.int x103)] (.int (0 : Int32)) := by have z := f185; rw [own_narc _ ra0 (own_le255 rb0)] at z; exact z
  have f187 := (((O1.ext E176).wr W179 ge_b176).ext E182)
  obtain ⟨_, _, ⟨T188, L188, k188, n188⟩, -, X188, ⟨Lc188, hQ188, l188, y188, z188⟩, st188⟩ := X182.specialBack hx (y := (⟨"java/lang/String", "<init>", "([C)V"⟩ : MethodName)) rfl hown (mvT hZ (own_w hw 10 rfl)) (mvT hZ (own_w hw 11 rfl)) (mvT hZ (own_w hw 12 rfl)) (by decide) (backOf (W := 1) (rm2_L1 l Z a0 hw [] b182 b176 k176 x103 cs1 fm h182 n0 (Nat.le_trans Z0 K183.1) f187 G F182_coder F182_value A182 f186 (Ne.symm ne_b176_b182) ge_b182 rb0) hZ (own_w hw 12 rfl) (own_w hw 9 rfl) (by decide) (by decide)) (g := (mkF m 251 #[.val (.int p1), .val (.long q2), .second, .val (.int p3), .val (.int (1 : Int32)), .val (.int x103), .val (.int x107), .val (.int x111), .val (.int x115), .val (.int x119), .val (.int x123), .val (.ref b176), .unset, .unset, .unset, .unset, .unset] [(.ref b176), (.ref b182), (.ref b182)])) rfl (by rw [hml]; rfl) (Steps.refl _) (a := b182) (argsL := [(.ref b176)]) (rest := [(.ref b182)]) (lenOf pd14 rfl) rfl (by show 2 * 0 + _ ≤ _; exact Nat.le_of_eq rfl) (hb hby at_251) (fun _ _ => ⟨rfl, e182, (by decide : 2 + 1 ≤ _), (by decide : 5 + 1 ≤ _)⟩)
  dsimp only [Pt.U, Pt.locs, Pt.cells, Pt.slots] at X188 l188 y188 z188 st188 hQ188
  subst l188 y188 z188
  obtain ⟨x189, x190, rfl, N188q, q188_K, q188_E, q188_c, q188_v, q188_g, q188_z, q188_V, q188_n⟩ := hQ188
  have N188 := Fr.app N179 N188q
  have K191 : Keep h0 T188.heap [] := K183.trans q188_K (allS (Or.inr sz_b182) all0)
  have ne_b176_x189 : b176 ≠ x189 := Nat.ne_of_lt (Nat.lt_of_lt_of_le f186.lt q188_z)
  have ne_b182_x189 : b182 ≠ x189 := Nat.ne_of_lt (Nat.lt_of_lt_of_le A182.lt q188_z)
  have p192 : Go p.tables e below _ (T188.setTop (mkF m 267 #[.val (.int p1), .val (.long q2), .second, .val (.int p3), .val (.int (1 : Int32)), .val (.int x103), .val (.int x107), .val (.int x111), .val (.int x115), .val (.int x119), .val (.int x123), .val (.ref b176), .val (.ref b182), .val (.int ((p3 &&& (2147483647 : Int32)) % (2 : Int32))), .unset, .unset, .unset] [])) := fun t_ k_ => (gcT p184 st188) t_ (by
   refine XS.astore X188.here hx rfl (hb hby at_254) rfl rfl (l' := #[.val (.int p1), .val (.long q2), .second, .val (.int p3), .val (.int (1 : Int32)), .val (.int x103), .val (.int x107), .val (.int x111), .val (.int x115), .val (.int x119), .val (.int x123), .val (.ref b176), .val (.ref b182), .unset, .unset, .unset, .unset]) rfl ?_
   refine XS.iloadN X188.here hx rfl (hb hby at_256) rfl ?_
   refine X188.ldcInt hx hown (mvT hZ (own_w hw 0 rfl)) (g := (mkF m 257 #[.val (.int p1), .val (.long q2), .second, .val (.int p3), .val (.int (1 : Int32)), .val (.int x103), .val (.int x107), .val (.int x111), .val (.int x115), .val (.int x119), .val (.int x123), .val (.ref b176), .val (.ref b182), .unset, .unset, .unset, .unset] [(.int p3)])) rfl (hb hby at_257) _ ?_
   refine XS.iand X188.here hx rfl (hb hby at_259) rfl ?_
   refine XS.iload X188.here hx rfl (hb hby at_260) rfl ?_
   refine XS.iconst X188.here hx rfl (hb hby at_262) ?_
   refine XS.iadd X188.here hx rfl (hb hby at_263) rfl ?_
   refine Jvm.RoadKit.iremM X188 hx rfl (hb hby at_264) rfl (by decide) ?_
   refine XS.istore X188.here hx rfl (hb hby at_265) rfl (l' := #[.val (.int p1), .val (.long q2), .second, .val (.int p3), .val (.int (1 : Int32)), .val (.int x103), .val (.int x107), .val (.int x111), .val (.int x115), .val (.int x119), .val (.int x123), .val (.ref b176), .val (.ref b182), .val (.int ((p3 &&& (2147483647 : Int32)) % (2 : Int32))), .unset, .unset, .unset]) rfl ?_
   exact k_)
  obtain ⟨ko, hko, hkz⟩ := own_modk p3 1 (by decide)
  have p193 : Go p.tables e below (s₁.setTop (entryFrame m #[(.int p1), (.long q2), (.int p3)] maxLocals)) (T188.setTop (mkF m 267 #[.val (.int p1), .val (.long q2), .second, .val (.int p3), .val (.int (1 : Int32)), .val (.int x103), .val (.int x107), .val (.int x111), .val (.int x115), .val (.int x119), .val (.int x123), .val (.ref b176), .val (.ref b182), .val (.int (Int32.ofNat ko)), .unset, .unset, .unset] [])) := by have z := p192; rw [← hkz]; exact z
  obtain ⟨T194, h194, X194, e194, E194, A194, D194, -, st194⟩ := newO X188 hx hZ hown (own_w hw 28 rfl) (own_w hw 29 rfl) (own_w hw 30 rfl) rfl (g := (mkF m 267 #[.val (.int p1), .val (.long q2), .second, .val (.int p3), .val (.int (1 : Int32)), .val (.int x103), .val (.int x107), .val (.int x111), .val (.int x115), .val (.int x119), .val (.int x123), .val (.ref b176), .val (.ref b182), .val (.int (Int32.ofNat ko)), .unset, .unset, .unset] [])) rfl (hb hby at_267) (by decide) (by decide)
  obtain ⟨b194, g194⟩ : ∃ z, z = T188.heap.size := ⟨_, rfl⟩
  rw [← g194] at A194 D194 st194
  have f195 := (f186.keep q188_K (ninS ne_b176_b182 nin0))
  have ne_b176_b194 : b176 ≠ b194 := Nat.ne_of_lt (Nat.lt_of_lt_of_le f195.lt (Nat.le_of_eq g194.symm))
  have ne_b182_b194 : b182 ≠ b194 := Nat.ne_of_lt (Nat.lt_of_lt_of_le q188_E.lt (Nat.le_of_eq g194.symm))
  have ne_x189_b194 : x189 ≠ b194 := Nat.ne_of_lt (Nat.lt_of_lt_of_le q188_V.lt (Nat.le_of_eq g194.symm))
  have ge_b194 : n0 ≤ b194 := Nat.le_trans (Nat.le_trans Z0 K191.1) (Nat.le_of_eq g194.symm)
  have sz_b194 : h0.size ≤ b194 := Nat.le_trans K191.1 (Nat.le_of_eq g194.symm)
  have K196 : Keep h0 h194 [] := K191.ext E194
  have F194_text : Fld Z h194 b194 "com/example/subsume/subsume/model/Lines" "text" "Ljava/lang/String;" .null := D194 (Or.inr (own_w hw 36 rfl)) (ty := (.object "java/lang/String")) (by decide)
  have F194_starts : Fld Z h194 b194 "com/example/subsume/subsume/model/Lines" "starts" "[I" .null := D194 (Or.inr (own_w hw 50 rfl)) (ty := (.array .int)) (by decide)
  have p197 : Go p.tables e below _ (T194.setTop (mkF m 273 #[.val (.int p1), .val (.long q2), .second, .val (.int p3), .val (.int (1 : Int32)), .val (.int x103), .val (.int x107), .val (.int x111), .val (.int x115), .val (.int x119), .val (.int x123), .val (.ref b176), .val (.ref b182), .val (.int (Int32.ofNat ko)), .unset, .unset, .unset] [(.ref b182), (.ref b194), (.ref b194)])) := fun t_ k_ => (gc p193 st194) t_ (by
   refine XS.dup X194.here hx rfl (hb hby at_270) rfl rfl ?_
   refine XS.aload X194.here hx rfl (hb hby at_271) rfl rfl ?_
   exact k_)
  have HBp : ∀ i, i < 1 → ∃ b : Int32, ([(.int (own_xl x103))] : List Value).getD ((Int32.ofNat i)).toNatClampNeg (.int (0 : Int32)) = .int b ∧ own_c8 b = own_at [x103] i := by
   intro i hi
   rcases (by omega : i = 0) with rfl
   ·exact ⟨_, rfl, own_l8 _ ra0 rb0⟩
  have f198 := (f195.ext E194)
  have f199 := (q188_E.ext E194)
  have f200 := (q188_V.ext E194)
  have f201 := ((f187.keep q188_K (allS ge_b182 all0)).ext E194)
  have f202 := (q188_c.ext E194)
  have f203 := (q188_v.ext E194)
  obtain ⟨_, _, ⟨T204, L204, k204, n204⟩, -, X204, ⟨Lc204, hQ204, l204, y204, z204⟩, st204⟩ := X194.specialBack hx (y := (⟨"com/example/subsume/subsume/model/Lines", "<init>", "(Ljava/lang/String;)V"⟩ : MethodName)) rfl hown (mvT hZ (own_w hw 31 rfl)) (mvT hZ (own_w hw 32 rfl)) (mvT hZ (own_w hw 33 rfl)) (by decide) (backOf (W := 1) (rm5_0 l Z a0 hw [] b194 b182 x189 x190 (1 : Int32) [(.int (own_xl x103))] [x103] 1 cs1 fm h194 n0 (Nat.le_trans Z0 K196.1) f201 G f199 f202 f203 f200 F194_starts F194_text A194 ge_b194 (Ne.symm ne_b182_b194) (Ne.symm ne_x189_b194) (by decide) (by decide) HBp rfl) hZ (own_w hw 33 rfl) (own_w hw 30 rfl) (by decide) (by decide)) (g := (mkF m 273 #[.val (.int p1), .val (.long q2), .second, .val (.int p3), .val (.int (1 : Int32)), .val (.int x103), .val (.int x107), .val (.int x111), .val (.int x115), .val (.int x119), .val (.int x123), .val (.ref b176), .val (.ref b182), .val (.int (Int32.ofNat ko)), .unset, .unset, .unset] [(.ref b182), (.ref b194), (.ref b194)])) rfl (by rw [hml]; rfl) (Steps.refl _) (a := b194) (argsL := [(.ref b182)]) (rest := [(.ref b194)]) (lenOf pd15 rfl) rfl (by show 2 * 0 + _ ≤ _; exact Nat.le_of_eq rfl) (hb hby at_273) (fun _ _ => ⟨rfl, e194, (by decide : 4 + 1 ≤ _), (by decide : 8 + 9 ≤ _)⟩)
  dsimp only [Pt.U, Pt.locs, Pt.cells, Pt.slots] at X204 l204 y204 z204 st204 hQ204
  subst l204 y204 z204
  obtain ⟨x205, x206, rfl, N204q, q204_K, q204_E, q204_t, q204_s, q204_V, q204_g, q204_z, q204_n⟩ := hQ204
  have N204 := Fr.app N188 N204q
  have K207 : Keep h0 T204.heap [] := K196.trans q204_K (allS (Or.inr sz_b194) all0)
  have ne_b176_x205 : b176 ≠ x205 := Nat.ne_of_lt (Nat.lt_of_lt_of_le f198.lt q204_z)
  have ne_b182_x205 : b182 ≠ x205 := Nat.ne_of_lt (Nat.lt_of_lt_of_le f199.lt q204_z)
  have ne_x189_x205 : x189 ≠ x205 := Nat.ne_of_lt (Nat.lt_of_lt_of_le f200.lt q204_z)
  have ne_b194_x205 : b194 ≠ x205 := Nat.ne_of_lt (Nat.lt_of_lt_of_le A194.lt q204_z)
  have p208 : Go p.tables e below _ (T204.setTop (mkF m 282 #[.val (.int p1), .val (.long q2), .second, .val (.int p3), .val (.int (1 : Int32)), .val (.int x103), .val (.int x107), .val (.int x111), .val (.int x115), .val (.int x119), .val (.int x123), .val (.ref b176), .val (.ref b182), .val (.int (Int32.ofNat ko)), .val (.ref b194), .unset, .unset] [(.int (Int32.ofNat ko)), (.ref b194)])) := fun t_ k_ => (gcT p197 st204) t_ (by
   refine XS.astore X204.here hx rfl (hb hby at_276) rfl rfl (l' := #[.val (.int p1), .val (.long q2), .second, .val (.int p3), .val (.int (1 : Int32)), .val (.int x103), .val (.int x107), .val (.int x111), .val (.int x115), .val (.int x119), .val (.int x123), .val (.ref b176), .val (.ref b182), .val (.int (Int32.ofNat ko)), .val (.ref b194), .unset, .unset]) rfl ?_
   refine XS.aload X204.here hx rfl (hb hby at_278) rfl rfl ?_
   refine XS.iload X204.here hx rfl (hb hby at_280) rfl ?_
   exact k_)
  obtain ⟨cq209, kq209, q209a, q209b, q209c⟩ := isOf hZ rfl q204_E
  obtain ⟨_, _, ⟨T209, L209, k209, n209⟩, -, X209, ⟨Lc209, hQ209, l209, y209, z209⟩, st209⟩ := X204.virtualBack hx (y := (⟨"com/example/subsume/subsume/model/Lines", "line", "(I)I"⟩ : MethodName)) (z := (⟨"com/example/subsume/subsume/model/Lines", "line", "(I)I"⟩ : MethodName)) hown (mvT hZ (own_w hw 51 rfl)) (mvT hZ (own_w hw 52 rfl)) (notFace_of_selects (args := #[]) (mvT hZ (own_w hw 54 rfl))) (mvT hZ (own_w hw 54 rfl)) (mvT hZ (own_w hw 53 rfl)) (by decide) (backOf (W := 0) (rm8 l Z a0 hw [] b194 x205 x206 [x103] 1 ko T204.heap n0 (Nat.le_trans Z0 K207.1) q204_s q204_V (by decide) hko) hZ (own_w hw 55 rfl) (own_w hw 30 rfl) (by decide) (by decide)) q209a q209c (g := (mkF m 282 #[.val (.int p1), .val (.long q2), .second, .val (.int p3), .val (.int (1 : Int32)), .val (.int x103), .val (.int x107), .val (.int x111), .val (.int x115), .val (.int x119), .val (.int x123), .val (.ref b176), .val (.ref b182), .val (.int (Int32.ofNat ko)), .val (.ref b194), .unset, .unset] [(.int (Int32.ofNat ko)), (.ref b194)])) rfl (by rw [hml]; rfl) (Steps.refl _) (argsL := [(.int (Int32.ofNat ko))]) (rest := []) (lenOf pd16 rfl) rfl (by show 2 * 0 + _ ≤ _; exact Nat.le_of_eq rfl) (hb hby at_282) (fun _ _ => ⟨rfl, rfl, (by decide : 5 + 0 ≤ _), (by decide : 17 + 0 ≤ _)⟩)
  dsimp only [Pt.U, Pt.locs, Pt.cells, Pt.slots] at X209 l209 y209 z209 st209 hQ209
  subst l209 y209 z209
  obtain ⟨rfl, N209q, q209_hh⟩ := hQ209
  have N209 := Fr.app N204 N209q
  have p210 : Go p.tables e below _ (T209.setTop (mkF m 292 #[.val (.int p1), .val (.long q2), .second, .val (.int p3), .val (.int (1 : Int32)), .val (.int x103), .val (.int x107), .val (.int x111), .val (.int x115), .val (.int x119), .val (.int x123), .val (.ref b176), .val (.ref b182), .val (.int (Int32.ofNat ko)), .val (.ref b194), .val (.int (Int32.ofNat (own_nl [x103] ko + 1))), .unset] [(.int (Int32.ofNat ko)), (.int (0 : Int32)), (.int x103)])) := fun t_ k_ => (gcT p208 st209) t_ (by
   refine XS.istore X209.here hx rfl (hb hby at_285) rfl (l' := #[.val (.int p1), .val (.long q2), .second, .val (.int p3), .val (.int (1 : Int32)), .val (.int x103), .val (.int x107), .val (.int x111), .val (.int x115), .val (.int x119), .val (.int x123), .val (.ref b176), .val (.ref b182), .val (.int (Int32.ofNat ko)), .val (.ref b194), .val (.int (Int32.ofNat (own_nl [x103] ko + 1))), .unset]) rfl ?_
   refine XS.iload X209.here hx rfl (hb hby at_287) rfl ?_
   refine XS.iconst X209.here hx rfl (hb hby at_289) ?_
   refine XS.iload X209.here hx rfl (hb hby at_290) rfl ?_
   exact k_)
  obtain ⟨_, _, ⟨T211, L211, k211, n211⟩, -, X211, ⟨Lc211, hQ211, l211, y211, z211⟩, st211⟩ := Jvm.LawKit.callS X209 hx (y := (⟨"com/example/subsume/subsume/model/LinesLinePinLaw", "nl", "(CII)I"⟩ : MethodName)) hown (mvT hZ (own_w hw 63 rfl)) (mvT hZ (own_w hw 64 rfl)) (mvT hZ (own_w hw 3 rfl)) (mvT hZ (own_w hw 65 rfl)) (by decide) (backOf (W := 0) (rm11 l Z a0 hw [] x103 0 ko T204.heap n0 (Nat.le_trans Z0 K207.1) (by decide) (by omega)) hZ (own_w hw 65 rfl) (own_w hw 3 rfl) (by decide) (by decide)) (g := (mkF m 292 #[.val (.int p1), .val (.long q2), .second, .val (.int p3), .val (.int (1 : Int32)), .val (.int x103), .val (.int x107), .val (.int x111), .val (.int x115), .val (.int x119), .val (.int x123), .val (.ref b176), .val (.ref b182), .val (.int (Int32.ofNat ko)), .val (.ref b194), .val (.int (Int32.ofNat (own_nl [x103] ko + 1))), .unset] [(.int (Int32.ofNat ko)), (.int (0 : Int32)), (.int x103)])) rfl (by rw [hml]; rfl) (argsL := [(.int x103), (.int (0 : Int32)), (.int (Int32.ofNat ko))]) (rest := []) (lenOf pd17 rfl) rfl (by show 2 * 0 + _ ≤ _; exact Nat.le_of_eq rfl) (hb hby at_292) (fun _ _ => ⟨rfl, q209_hh, (by decide : 5 + 0 ≤ _), (by decide : 17 + 0 ≤ _)⟩)
  dsimp only [Pt.U, Pt.locs, Pt.cells, Pt.slots] at X211 l211 y211 z211 st211 hQ211
  subst l211 y211 z211
  obtain ⟨rfl, N211q, q211_hh⟩ := hQ211
  have N211 := Fr.app N209 N211q
  have p212 : Go p.tables e below _ (T211.setTop (mkF m 300 #[.val (.int p1), .val (.long q2), .second, .val (.int p3), .val (.int (1 : Int32)), .val (.int x103), .val (.int x107), .val (.int x111), .val (.int x115), .val (.int x119), .val (.int x123), .val (.ref b176), .val (.ref b182), .val (.int (Int32.ofNat ko)), .val (.ref b194), .val (.int (Int32.ofNat (own_nl [x103] ko + 1))), .unset] [(.int (Int32.ofNat ko)), (.int (1 : Int32)), (.int x107), (.int (own_n1 x103 0 ko))])) := fun t_ k_ => (gc p210 st211) t_ (by
   refine XS.iload X211.here hx rfl (hb hby at_295) rfl ?_
   refine XS.iconst X211.here hx rfl (hb hby at_297) ?_
   refine XS.iload X211.here hx rfl (hb hby at_298) rfl ?_
   exact k_)
  obtain ⟨_, _, ⟨T213, L213, k213, n213⟩, -, X213, ⟨Lc213, hQ213, l213, y213, z213⟩, st213⟩ := Jvm.LawKit.callS X211 hx (y := (⟨"com/example/subsume/subsume/model/LinesLinePinLaw", "nl", "(CII)I"⟩ : MethodName)) hown (mvT hZ (own_w hw 63 rfl)) (mvT hZ (own_w hw 64 rfl)) (mvT hZ (own_w hw 3 rfl)) (mvT hZ (own_w hw 65 rfl)) (by decide) (backOf (W := 1) (rm11 l Z a0 hw [] x107 1 ko T204.heap n0 (Nat.le_trans Z0 K207.1) (by decide) (by omega)) hZ (own_w hw 65 rfl) (own_w hw 3 rfl) (by decide) (by decide)) (g := (mkF m 300 #[.val (.int p1), .val (.long q2), .second, .val (.int p3), .val (.int (1 : Int32)), .val (.int x103), .val (.int x107), .val (.int x111), .val (.int x115), .val (.int x119), .val (.int x123), .val (.ref b176), .val (.ref b182), .val (.int (Int32.ofNat ko)), .val (.ref b194), .val (.int (Int32.ofNat (own_nl [x103] ko + 1))), .unset] [(.int (Int32.ofNat ko)), (.int (1 : Int32)), (.int x107), (.int (own_n1 x103 0 ko))])) rfl (by rw [hml]; rfl) (argsL := [(.int x107), (.int (1 : Int32)), (.int (Int32.ofNat ko))]) (rest := [(.int (own_n1 x103 0 ko))]) (lenOf pd17 rfl) rfl (by show 2 * 0 + _ ≤ _; exact Nat.le_of_eq rfl) (hb hby at_300) (fun _ _ => ⟨rfl, q211_hh, (by decide : 5 + 0 ≤ _), (by decide : 17 + 0 ≤ _)⟩)
  dsimp only [Pt.U, Pt.locs, Pt.cells, Pt.slots] at X213 l213 y213 z213 st213 hQ213
  subst l213 y213 z213
  obtain ⟨rfl, N213q, q213_hh⟩ := hQ213
  have N213 := Fr.app N211 N213q
  have p214 : Go p.tables e below _ (T213.setTop (mkF m 309 #[.val (.int p1), .val (.long q2), .second, .val (.int p3), .val (.int (1 : Int32)), .val (.int x103), .val (.int x107), .val (.int x111), .val (.int x115), .val (.int x119), .val (.int x123), .val (.ref b176), .val (.ref b182), .val (.int (Int32.ofNat ko)), .val (.ref b194), .val (.int (Int32.ofNat (own_nl [x103] ko + 1))), .unset] [(.int (Int32.ofNat ko)), (.int (2 : Int32)), (.int x111), (.int ((own_n1 x103 0 ko) + (own_n1 x107 1 ko)))])) := fun t_ k_ => (gc p212 st213) t_ (by
   refine XS.iadd X213.here hx rfl (hb hby at_303) rfl ?_
   refine XS.iload X213.here hx rfl (hb hby at_304) rfl ?_
   refine XS.iconst X213.here hx rfl (hb hby at_306) ?_
   refine XS.iload X213.here hx rfl (hb hby at_307) rfl ?_
   exact k_)
  obtain ⟨_, _, ⟨T215, L215, k215, n215⟩, -, X215, ⟨Lc215, hQ215, l215, y215, z215⟩, st215⟩ := Jvm.LawKit.callS X213 hx (y := (⟨"com/example/subsume/subsume/model/LinesLinePinLaw", "nl", "(CII)I"⟩ : MethodName)) hown (mvT hZ (own_w hw 63 rfl)) (mvT hZ (own_w hw 64 rfl)) (mvT hZ (own_w hw 3 rfl)) (mvT hZ (own_w hw 65 rfl)) (by decide) (backOf (W := 1) (rm11 l Z a0 hw [] x111 2 ko T204.heap n0 (Nat.le_trans Z0 K207.1) (by decide) (by omega)) hZ (own_w hw 65 rfl) (own_w hw 3 rfl) (by decide) (by decide)) (g := (mkF m 309 #[.val (.int p1), .val (.long q2), .second, .val (.int p3), .val (.int (1 : Int32)), .val (.int x103), .val (.int x107), .val (.int x111), .val (.int x115), .val (.int x119), .val (.int x123), .val (.ref b176), .val (.ref b182), .val (.int (Int32.ofNat ko)), .val (.ref b194), .val (.int (Int32.ofNat (own_nl [x103] ko + 1))), .unset] [(.int (Int32.ofNat ko)), (.int (2 : Int32)), (.int x111), (.int ((own_n1 x103 0 ko) + (own_n1 x107 1 ko)))])) rfl (by rw [hml]; rfl) (argsL := [(.int x111), (.int (2 : Int32)), (.int (Int32.ofNat ko))]) (rest := [(.int ((own_n1 x103 0 ko) + (own_n1 x107 1 ko)))]) (lenOf pd17 rfl) rfl (by show 2 * 0 + _ ≤ _; exact Nat.le_of_eq rfl) (hb hby at_309) (fun _ _ => ⟨rfl, q213_hh, (by decide : 5 + 0 ≤ _), (by decide : 17 + 0 ≤ _)⟩)
  dsimp only [Pt.U, Pt.locs, Pt.cells, Pt.slots] at X215 l215 y215 z215 st215 hQ215
  subst l215 y215 z215
  obtain ⟨rfl, N215q, q215_hh⟩ := hQ215
  have N215 := Fr.app N213 N215q
  have p216 : Go p.tables e below _ (T215.setTop (mkF m 318 #[.val (.int p1), .val (.long q2), .second, .val (.int p3), .val (.int (1 : Int32)), .val (.int x103), .val (.int x107), .val (.int x111), .val (.int x115), .val (.int x119), .val (.int x123), .val (.ref b176), .val (.ref b182), .val (.int (Int32.ofNat ko)), .val (.ref b194), .val (.int (Int32.ofNat (own_nl [x103] ko + 1))), .unset] [(.int (Int32.ofNat ko)), (.int (3 : Int32)), (.int x115), (.int (((own_n1 x103 0 ko) + (own_n1 x107 1 ko)) + (own_n1 x111 2 ko)))])) := fun t_ k_ => (gc p214 st215) t_ (by
   refine XS.iadd X215.here hx rfl (hb hby at_312) rfl ?_
   refine XS.iload X215.here hx rfl (hb hby at_313) rfl ?_
   refine XS.iconst X215.here hx rfl (hb hby at_315) ?_
   refine XS.iload X215.here hx rfl (hb hby at_316) rfl ?_
   exact k_)
  obtain ⟨_, _, ⟨T217, L217, k217, n217⟩, -, X217, ⟨Lc217, hQ217, l217, y217, z217⟩, st217⟩ := Jvm.LawKit.callS X215 hx (y := (⟨"com/example/subsume/subsume/model/LinesLinePinLaw", "nl", "(CII)I"⟩ : MethodName)) hown (mvT hZ (own_w hw 63 rfl)) (mvT hZ (own_w hw 64 rfl)) (mvT hZ (own_w hw 3 rfl)) (mvT hZ (own_w hw 65 rfl)) (by decide) (backOf (W := 1) (rm11 l Z a0 hw [] x115 3 ko T204.heap n0 (Nat.le_trans Z0 K207.1) (by decide) (by omega)) hZ (own_w hw 65 rfl) (own_w hw 3 rfl) (by decide) (by decide)) (g := (mkF m 318 #[.val (.int p1), .val (.long q2), .second, .val (.int p3), .val (.int (1 : Int32)), .val (.int x103), .val (.int x107), .val (.int x111), .val (.int x115), .val (.int x119), .val (.int x123), .val (.ref b176), .val (.ref b182), .val (.int (Int32.ofNat ko)), .val (.ref b194), .val (.int (Int32.ofNat (own_nl [x103] ko + 1))), .unset] [(.int (Int32.ofNat ko)), (.int (3 : Int32)), (.int x115), (.int (((own_n1 x103 0 ko) + (own_n1 x107 1 ko)) + (own_n1 x111 2 ko)))])) rfl (by rw [hml]; rfl) (argsL := [(.int x115), (.int (3 : Int32)), (.int (Int32.ofNat ko))]) (rest := [(.int (((own_n1 x103 0 ko) + (own_n1 x107 1 ko)) + (own_n1 x111 2 ko)))]) (lenOf pd17 rfl) rfl (by show 2 * 0 + _ ≤ _; exact Nat.le_of_eq rfl) (hb hby at_318) (fun _ _ => ⟨rfl, q215_hh, (by decide : 5 + 0 ≤ _), (by decide : 17 + 0 ≤ _)⟩)
  dsimp only [Pt.U, Pt.locs, Pt.cells, Pt.slots] at X217 l217 y217 z217 st217 hQ217
  subst l217 y217 z217
  obtain ⟨rfl, N217q, q217_hh⟩ := hQ217
  have N217 := Fr.app N215 N217q
  have p218 : Go p.tables e below _ (T217.setTop (mkF m 327 #[.val (.int p1), .val (.long q2), .second, .val (.int p3), .val (.int (1 : Int32)), .val (.int x103), .val (.int x107), .val (.int x111), .val (.int x115), .val (.int x119), .val (.int x123), .val (.ref b176), .val (.ref b182), .val (.int (Int32.ofNat ko)), .val (.ref b194), .val (.int (Int32.ofNat (own_nl [x103] ko + 1))), .unset] [(.int (Int32.ofNat ko)), (.int (4 : Int32)), (.int x119), (.int ((((own_n1 x103 0 ko) + (own_n1 x107 1 ko)) + (own_n1 x111 2 ko)) + (own_n1 x115 3 ko)))])) := fun t_ k_ => (gc p216 st217) t_ (by
   refine XS.iadd X217.here hx rfl (hb hby at_321) rfl ?_
   refine XS.iload X217.here hx rfl (hb hby at_322) rfl ?_
   refine XS.iconst X217.here hx rfl (hb hby at_324) ?_
   refine XS.iload X217.here hx rfl (hb hby at_325) rfl ?_
   exact k_)
  obtain ⟨_, _, ⟨T219, L219, k219, n219⟩, -, X219, ⟨Lc219, hQ219, l219, y219, z219⟩, st219⟩ := Jvm.LawKit.callS X217 hx (y := (⟨"com/example/subsume/subsume/model/LinesLinePinLaw", "nl", "(CII)I"⟩ : MethodName)) hown (mvT hZ (own_w hw 63 rfl)) (mvT hZ (own_w hw 64 rfl)) (mvT hZ (own_w hw 3 rfl)) (mvT hZ (own_w hw 65 rfl)) (by decide) (backOf (W := 1) (rm11 l Z a0 hw [] x119 4 ko T204.heap n0 (Nat.le_trans Z0 K207.1) (by decide) (by omega)) hZ (own_w hw 65 rfl) (own_w hw 3 rfl) (by decide) (by decide)) (g := (mkF m 327 #[.val (.int p1), .val (.long q2), .second, .val (.int p3), .val (.int (1 : Int32)), .val (.int x103), .val (.int x107), .val (.int x111), .val (.int x115), .val (.int x119), .val (.int x123), .val (.ref b176), .val (.ref b182), .val (.int (Int32.ofNat ko)), .val (.ref b194), .val (.int (Int32.ofNat (own_nl [x103] ko + 1))), .unset] [(.int (Int32.ofNat ko)), (.int (4 : Int32)), (.int x119), (.int ((((own_n1 x103 0 ko) + (own_n1 x107 1 ko)) + (own_n1 x111 2 ko)) + (own_n1 x115 3 ko)))])) rfl (by rw [hml]; rfl) (argsL := [(.int x119), (.int (4 : Int32)), (.int (Int32.ofNat ko))]) (rest := [(.int ((((own_n1 x103 0 ko) + (own_n1 x107 1 ko)) + (own_n1 x111 2 ko)) + (own_n1 x115 3 ko)))]) (lenOf pd17 rfl) rfl (by show 2 * 0 + _ ≤ _; exact Nat.le_of_eq rfl) (hb hby at_327) (fun _ _ => ⟨rfl, q217_hh, (by decide : 5 + 0 ≤ _), (by decide : 17 + 0 ≤ _)⟩)
  dsimp only [Pt.U, Pt.locs, Pt.cells, Pt.slots] at X219 l219 y219 z219 st219 hQ219
  subst l219 y219 z219
  obtain ⟨rfl, N219q, q219_hh⟩ := hQ219
  have N219 := Fr.app N217 N219q
  have p220 : Go p.tables e below _ (T219.setTop (mkF m 336 #[.val (.int p1), .val (.long q2), .second, .val (.int p3), .val (.int (1 : Int32)), .val (.int x103), .val (.int x107), .val (.int x111), .val (.int x115), .val (.int x119), .val (.int x123), .val (.ref b176), .val (.ref b182), .val (.int (Int32.ofNat ko)), .val (.ref b194), .val (.int (Int32.ofNat (own_nl [x103] ko + 1))), .unset] [(.int (Int32.ofNat ko)), (.int (5 : Int32)), (.int x123), (.int (((((own_n1 x103 0 ko) + (own_n1 x107 1 ko)) + (own_n1 x111 2 ko)) + (own_n1 x115 3 ko)) + (own_n1 x119 4 ko)))])) := fun t_ k_ => (gc p218 st219) t_ (by
   refine XS.iadd X219.here hx rfl (hb hby at_330) rfl ?_
   refine XS.iload X219.here hx rfl (hb hby at_331) rfl ?_
   refine XS.iconst X219.here hx rfl (hb hby at_333) ?_
   refine XS.iload X219.here hx rfl (hb hby at_334) rfl ?_
   exact k_)
  obtain ⟨_, _, ⟨T221, L221, k221, n221⟩, -, X221, ⟨Lc221, hQ221, l221, y221, z221⟩, st221⟩ := Jvm.LawKit.callS X219 hx (y := (⟨"com/example/subsume/subsume/model/LinesLinePinLaw", "nl", "(CII)I"⟩ : MethodName)) hown (mvT hZ (own_w hw 63 rfl)) (mvT hZ (own_w hw 64 rfl)) (mvT hZ (own_w hw 3 rfl)) (mvT hZ (own_w hw 65 rfl)) (by decide) (backOf (W := 1) (rm11 l Z a0 hw [] x123 5 ko T204.heap n0 (Nat.le_trans Z0 K207.1) (by decide) (by omega)) hZ (own_w hw 65 rfl) (own_w hw 3 rfl) (by decide) (by decide)) (g := (mkF m 336 #[.val (.int p1), .val (.long q2), .second, .val (.int p3), .val (.int (1 : Int32)), .val (.int x103), .val (.int x107), .val (.int x111), .val (.int x115), .val (.int x119), .val (.int x123), .val (.ref b176), .val (.ref b182), .val (.int (Int32.ofNat ko)), .val (.ref b194), .val (.int (Int32.ofNat (own_nl [x103] ko + 1))), .unset] [(.int (Int32.ofNat ko)), (.int (5 : Int32)), (.int x123), (.int (((((own_n1 x103 0 ko) + (own_n1 x107 1 ko)) + (own_n1 x111 2 ko)) + (own_n1 x115 3 ko)) + (own_n1 x119 4 ko)))])) rfl (by rw [hml]; rfl) (argsL := [(.int x123), (.int (5 : Int32)), (.int (Int32.ofNat ko))]) (rest := [(.int (((((own_n1 x103 0 ko) + (own_n1 x107 1 ko)) + (own_n1 x111 2 ko)) + (own_n1 x115 3 ko)) + (own_n1 x119 4 ko)))]) (lenOf pd17 rfl) rfl (by show 2 * 0 + _ ≤ _; exact Nat.le_of_eq rfl) (hb hby at_336) (fun _ _ => ⟨rfl, q219_hh, (by decide : 5 + 0 ≤ _), (by decide : 17 + 0 ≤ _)⟩)
  dsimp only [Pt.U, Pt.locs, Pt.cells, Pt.slots] at X221 l221 y221 z221 st221 hQ221
  subst l221 y221 z221
  obtain ⟨rfl, N221q, q221_hh⟩ := hQ221
  have N221 := Fr.app N219 N221q
  have p222 : Go p.tables e below _ (T221.setTop (mkF m 348 #[.val (.int p1), .val (.long q2), .second, .val (.int p3), .val (.int (1 : Int32)), .val (.int x103), .val (.int x107), .val (.int x111), .val (.int x115), .val (.int x119), .val (.int x123), .val (.ref b176), .val (.ref b182), .val (.int (Int32.ofNat ko)), .val (.ref b194), .val (.int (Int32.ofNat (own_nl [x103] ko + 1))), .val (.int ((((((own_n1 x103 0 ko) + (own_n1 x107 1 ko)) + (own_n1 x111 2 ko)) + (own_n1 x115 3 ko)) + (own_n1 x119 4 ko)) + (own_n1 x123 5 ko)))] [(.int ((1 : Int32) + ((((((own_n1 x103 0 ko) + (own_n1 x107 1 ko)) + (own_n1 x111 2 ko)) + (own_n1 x115 3 ko)) + (own_n1 x119 4 ko)) + (own_n1 x123 5 ko)))), (.int (Int32.ofNat (own_nl [x103] ko + 1)))])) := fun t_ k_ => (gc p220 st221) t_ (by
   refine XS.iadd X221.here hx rfl (hb hby at_339) rfl ?_
   refine XS.istore X221.here hx rfl (hb hby at_340) rfl (l' := #[.val (.int p1), .val (.long q2), .second, .val (.int p3), .val (.int (1 : Int32)), .val (.int x103), .val (.int x107), .val (.int x111), .val (.int x115), .val (.int x119), .val (.int x123), .val (.ref b176), .val (.ref b182), .val (.int (Int32.ofNat ko)), .val (.ref b194), .val (.int (Int32.ofNat (own_nl [x103] ko + 1))), .val (.int ((((((own_n1 x103 0 ko) + (own_n1 x107 1 ko)) + (own_n1 x111 2 ko)) + (own_n1 x115 3 ko)) + (own_n1 x119 4 ko)) + (own_n1 x123 5 ko)))]) rfl ?_
   refine XS.iload X221.here hx rfl (hb hby at_342) rfl ?_
   refine XS.iconst X221.here hx rfl (hb hby at_344) ?_
   refine XS.iload X221.here hx rfl (hb hby at_345) rfl ?_
   refine XS.iadd X221.here hx rfl (hb hby at_347) rfl ?_
   exact k_)
  have c223 : ((Int32.ofNat (own_nl [x103] ko + 1)) = ((1 : Int32) + ((((((own_n1 x103 0 ko) + (own_n1 x107 1 ko)) + (own_n1 x111 2 ko)) + (own_n1 x115 3 ko)) + (own_n1 x119 4 ko)) + (own_n1 x123 5 ko)))) := own_fin1 x103 x107 x111 x115 x119 x123 ko hko
  have p224 : Go p.tables e below _ (T221.setTop (mkF m 356 #[.val (.int p1), .val (.long q2), .second, .val (.int p3), .val (.int (1 : Int32)), .val (.int x103), .val (.int x107), .val (.int x111), .val (.int x115), .val (.int x119), .val (.int x123), .val (.ref b176), .val (.ref b182), .val (.int (Int32.ofNat ko)), .val (.ref b194), .val (.int (Int32.ofNat (own_nl [x103] ko + 1))), .val (.int ((((((own_n1 x103 0 ko) + (own_n1 x107 1 ko)) + (own_n1 x111 2 ko)) + (own_n1 x115 3 ko)) + (own_n1 x119 4 ko)) + (own_n1 x123 5 ko)))] [(.int (1 : Int32))])) := fun t_ k_ => p222 t_ (by
   refine XS.icmpNo X221.here hx rfl (hb hby at_348) rfl (teq c223).2 ?_
   refine XS.iconst X221.here hx rfl (hb hby at_351) ?_
   refine XS.goto X221.here hx rfl (pc0 := 352) (pc' := 356) rfl (hb hby at_352) (by decide) (by decide) ?_
   exact k_)
  obtain ⟨fs, hr, hrun, hended, hW, hsame⟩ := X221.leave (v := some (.int (1 : Int32))) (fun h => by rw [Bd.returns] at h; cases h)
  refine ⟨_, _, p224 _ (retN X221 hx (t := .boolean) Bd.returns (by simp) (hb hby at_356) hr), hrun, hended, _, _, rfl, ?_, ReturnedEndW.of_narrow ⟨_, rfl⟩ hW (hsame.mono (by decide) (by decide))⟩
  show Q0 Z p1 q2 p3 cs1 fm h0 n0 _ T221.heap _
  rw [q221_hh]
  exact ⟨rfl, N221⟩
 ·have p225 : Go p.tables e below (s₁.setTop (entryFrame m #[(.int p1), (.long q2), (.int p3)] maxLocals)) (T122.setTop (mkF m 51 #[.val (.int p1), .val (.long q2), .second, .val (.int p3), .val (.int (2 : Int32)), .val (.int x103), .val (.int x107), .val (.int x111), .val (.int x115), .val (.int x119), .val (.int x123), .unset, .unset, .unset, .unset, .unset, .unset] [])) := by have z := p125; rw [ro] at z; exact z
  have p226 : Go p.tables e below _ (T122.setTop (mkF m 90 #[.val (.int p1), .val (.long q2), .second, .val (.int p3), .val (.int (2 : Int32)), .val (.int x103), .val (.int x107), .val (.int x111), .val (.int x115), .val (.int x119), .val (.int x123), .unset, .unset, .unset, .unset, .unset, .unset] [(.int (2 : Int32))])) := fun t_ k_ => p225 t_ (by
   refine XS.iload X122.here hx rfl (hb hby at_51) rfl ?_
   refine XS.ifYes X122.here hx rfl (pc0 := 53) (pc' := 64) rfl (hb hby at_53) rfl ((if0 _ _).trans (feq (by decide : ¬ ((2 : Int32) = (0 : Int32)))).2) (by decide) (by decide) ?_
   refine XS.iload X122.here hx rfl (hb hby at_64) rfl ?_
   refine XS.iconst X122.here hx rfl (hb hby at_66) ?_
   refine XS.icmpYes X122.here hx rfl (pc0 := 67) (pc' := 83) rfl (hb hby at_67) rfl (feq (by decide : ¬ ((2 : Int32) = (1 : Int32)))).2 (by decide) (by decide) ?_
   refine XS.iload X122.here hx rfl (hb hby at_83) rfl ?_
   refine XS.iconst X122.here hx rfl (hb hby at_85) ?_
   refine XS.icmpNo X122.here hx rfl (hb hby at_86) rfl (teq (by decide : ((2 : Int32) = (2 : Int32)))).2 ?_
   refine XS.iconst X122.here hx rfl (hb hby at_89) ?_
   exact k_)
  obtain ⟨T227, h227, k227, X227, e227, E227, A227, st227⟩ := newP X122 hx hZ (own_w hw 6 rfl) q122_hh (g := (mkF m 90 #[.val (.int p1), .val (.long q2), .second, .val (.int p3), .val (.int (2 : Int32)), .val (.int x103), .val (.int x107), .val (.int x111), .val (.int x115), .val (.int x119), .val (.int x123), .unset, .unset, .unset, .unset, .unset, .unset] [(.int (2 : Int32))])) rfl (hb hby at_90) rfl (by decide) (cap := 2) (by decide) (by decide) (by decide) (by decide)
  obtain ⟨b227, g227⟩ : ∃ z, z = h0.size := ⟨_, rfl⟩
  rw [← g227] at A227 st227
  have ge_b227 : n0 ≤ b227 := Nat.le_trans (Nat.le_trans Z0 (Keep.refl h0 []).1) (Nat.le_of_eq g227.symm)
  have sz_b227 : h0.size ≤ b227 := Nat.le_trans (Keep.refl h0 []).1 (Nat.le_of_eq g227.symm)
  have K228 : Keep h0 h227 [] := (Keep.refl h0 []).ext E227
  have V227 : Arv Z h227 b227 k227 .char (2 : Int32) [(.int (0 : Int32)), (.int (0 : Int32))] (.int (0 : Int32)) := (Arv.new A227 (by decide)).pad (pad_rep [] (.int (0 : Int32)) 2)
  have p229 : Go p.tables e below _ (T227.setTop (mkF m 96 #[.val (.int p1), .val (.long q2), .second, .val (.int p3), .val (.int (2 : Int32)), .val (.int x103), .val (.int x107), .val (.int x111), .val (.int x115), .val (.int x119), .val (.int x123), .unset, .unset, .unset, .unset, .unset, .unset] [(.int x103), (.int (0 : Int32)), (.ref b227), (.ref b227)])) := fun t_ k_ => (gc p226 st227) t_ (by
   refine XS.dup X227.here hx rfl (hb hby at_92) rfl rfl ?_
   refine XS.iconst X227.here hx rfl (hb hby at_93) ?_
   refine XS.iload X227.here hx rfl (hb hby at_94) rfl ?_
   exact k_)
  obtain ⟨cl230, Ar230, q230, S230, Ng230, H230, G230⟩ := id V227
  have hin230 := inb_of S230 (j := (0 : Int32)) ⟨by decide, by decide⟩
  obtain ⟨T230, h230, X230, e230, W230, st230⟩ := stC X227 hx hZ e227 Ar230 (j := (0 : Int32)) hin230 (g := (mkF m 96 #[.val (.int p1), .val (.long q2), .second, .val (.int p3), .val (.int (2 : Int32)), .val (.int x103), .val (.int x107), .val (.int x111), .val (.int x115), .val (.int x119), .val (.int x123), .unset, .unset, .unset, .unset, .unset, .unset] [(.int x103), (.int (0 : Int32)), (.ref b227), (.ref b227)])) rfl rfl (hb hby at_96)
  have K231 : Keep h0 h230 [] := K228.wr W230 (Or.inr sz_b227)
  have N230 := Fr.snoc X230 N122 ge_b227
  have V230 : Arv Z h230 b227 k227 .char (2 : Int32) [(.int (nar .char x103)), (.int (0 : Int32))] (.int (0 : Int32)) := Arv.set Ar230 q230 S230 Ng230 H230 G230 (fits_nar_char _) W230 0 rfl (Nat.le_of_ble_eq_true rfl)
  have p232 : Go p.tables e below _ (T230.setTop (mkF m 101 #[.val (.int p1), .val (.long q2), .second, .val (.int p3), .val (.int (2 : Int32)), .val (.int x103), .val (.int x107), .val (.int x111), .val (.int x115), .val (.int x119), .val (.int x123), .unset, .unset, .unset, .unset, .unset, .unset] [(.int x107), (.int (1 : Int32)), (.ref b227), (.ref b227)])) := fun t_ k_ => (gc p229 st230) t_ (by
   refine XS.dup X230.here hx rfl (hb hby at_97) rfl rfl ?_
   refine XS.iconst X230.here hx rfl (hb hby at_98) ?_
   refine XS.iload X230.here hx rfl (hb hby at_99) rfl ?_
   exact k_)
  obtain ⟨cl233, Ar233, q233, S233, Ng233, H233, G233⟩ := id V230
  have hin233 := inb_of S233 (j := (1 : Int32)) ⟨by decide, by decide⟩
  obtain ⟨T233, h233, X233, e233, W233, st233⟩ := stC X230 hx hZ e230 Ar233 (j := (1 : Int32)) hin233 (g := (mkF m 101 #[.val (.int p1), .val (.long q2), .second, .val (.int p3), .val (.int (2 : Int32)), .val (.int x103), .val (.int x107), .val (.int x111), .val (.int x115), .val (.int x119), .val (.int x123), .unset, .unset, .unset, .unset, .unset, .unset] [(.int x107), (.int (1 : Int32)), (.ref b227), (.ref b227)])) rfl rfl (hb hby at_101)
  have K234 : Keep h0 h233 [] := K231.wr W233 (Or.inr sz_b227)
  have N233 := Fr.snoc X233 N230 ge_b227
  have V233 : Arv Z h233 b227 k227 .char (2 : Int32) [(.int (nar .char x103)), (.int (nar .char x107))] (.int (0 : Int32)) := Arv.set Ar233 q233 S233 Ng233 H233 G233 (fits_nar_char _) W233 1 rfl (Nat.le_of_ble_eq_true rfl)
  have p235 : Go p.tables e below _ (T233.setTop (mkF m 245 #[.val (.int p1), .val (.long q2), .second, .val (.int p3), .val (.int (2 : Int32)), .val (.int x103), .val (.int x107), .val (.int x111), .val (.int x115), .val (.int x119), .val (.int x123), .val (.ref b227), .unset, .unset, .unset, .unset, .unset] [])) := fun t_ k_ => (gc p232 st233) t_ (by
   refine XS.astore X233.here hx rfl (hb hby at_102) rfl rfl (l' := #[.val (.int p1), .val (.long q2), .second, .val (.int p3), .val (.int (2 : Int32)), .val (.int x103), .val (.int x107), .val (.int x111), .val (.int x115), .val (.int x119), .val (.int x123), .val (.ref b227), .unset, .unset, .unset, .unset, .unset]) rfl ?_
   refine XS.goto X233.here hx rfl (pc0 := 104) (pc' := 245) rfl (hb hby at_104) (by decide) (by decide) ?_
   exact k_)
  obtain ⟨T236, h236, X236, e236, E236, A236, D236, -, st236⟩ := newO X233 hx hZ hown (own_w hw 7 rfl) (own_w hw 8 rfl) (own_w hw 9 rfl) e233 (g := (mkF m 245 #[.val (.int p1), .val (.long q2), .second, .val (.int p3), .val (.int (2 : Int32)), .val (.int x103), .val (.int x107), .val (.int x111), .val (.int x115), .val (.int x119), .val (.int x123), .val (.ref b227), .unset, .unset, .unset, .unset, .unset] [])) rfl (hb hby at_245) (by decide) (by decide)
  obtain ⟨b236, g236⟩ : ∃ z, z = h233.size := ⟨_, rfl⟩
  rw [← g236] at A236 D236 st236
  have ne_b227_b236 : b227 ≠ b236 := Nat.ne_of_lt (Nat.lt_of_lt_of_le V233.lt (Nat.le_of_eq g236.symm))
  have ge_b236 : n0 ≤ b236 := Nat.le_trans (Nat.le_trans Z0 K234.1) (Nat.le_of_eq g236.symm)
  have sz_b236 : h0.size ≤ b236 := Nat.le_trans K234.1 (Nat.le_of_eq g236.symm)
  have K237 : Keep h0 h236 [] := K234.ext E236
  have F236_value : Fld Z h236 b236 "java/lang/String" "value" "[B" .null := D236 (Or.inr (own_w hw 22 rfl)) (ty := (.array .byte)) (by decide)
  have F236_coder : Fld Z h236 b236 "java/lang/String" "coder" "B" (.int (0 : Int32)) := D236 (Or.inr (own_w hw 23 rfl)) (ty := .byte) (by decide)
  have p238 : Go p.tables e below _ (T236.setTop (mkF m 251 #[.val (.int p1), .val (.long q2), .second, .val (.int p3), .val (.int (2 : Int32)), .val (.int x103), .val (.int x107), .val (.int x111), .val (.int x115), .val (.int x119), .val (.int x123), .val (.ref b227), .unset, .unset, .unset, .unset, .unset] [(.ref b227), (.ref b236), (.ref b236)])) := fun t_ k_ => (gc p235 st236) t_ (by
   refine XS.dup X236.here hx rfl (hb hby at_248) rfl rfl ?_
   refine XS.aload X236.here hx rfl (hb hby at_249) rfl rfl ?_
   exact k_)
  have f239 := (V233.ext E236)
  have f240 : Arv Z h236 b227 k227 .char (2 : Int32) [(.int x103), (.int x107)] (.int (0 : Int32)) := by have z := f239; rw [own_narc _ ra0 (own_le255 rb0), own_narc _ ra1 (own_le255 rb1)] at z; exact z
  have f241 := ((((O1.ext E227).wr W230 ge_b227).wr W233 ge_b227).ext E236)
  obtain ⟨_, _, ⟨T242, L242, k242, n242⟩, -, X242, ⟨Lc242, hQ242, l242, y242, z242⟩, st242⟩ := X236.specialBack hx (y := (⟨"java/lang/String", "<init>", "([C)V"⟩ : MethodName)) rfl hown (mvT hZ (own_w hw 10 rfl)) (mvT hZ (own_w hw 11 rfl)) (mvT hZ (own_w hw 12 rfl)) (by decide) (backOf (W := 1) (rm2_L2 l Z a0 hw [] b236 b227 k227 x103 x107 cs1 fm h236 n0 (Nat.le_trans Z0 K237.1) f241 G F236_coder F236_value A236 f240 (Ne.symm ne_b227_b236) ge_b236 rb0 rb1) hZ (own_w hw 12 rfl) (own_w hw 9 rfl) (by decide) (by decide)) (g := (mkF m 251 #[.val (.int p1), .val (.long q2), .second, .val (.int p3), .val (.int (2 : Int32)), .val (.int x103), .val (.int x107), .val (.int x111), .val (.int x115), .val (.int x119), .val (.int x123), .val (.ref b227), .unset, .unset, .unset, .unset, .unset] [(.ref b227), (.ref b236), (.ref b236)])) rfl (by rw [hml]; rfl) (Steps.refl _) (a := b236) (argsL := [(.ref b227)]) (rest := [(.ref b236)]) (lenOf pd14 rfl) rfl (by show 2 * 0 + _ ≤ _; exact Nat.le_of_eq rfl) (hb hby at_251) (fun _ _ => ⟨rfl, e236, (by decide : 2 + 1 ≤ _), (by decide : 6 + 2 ≤ _)⟩)
  dsimp only [Pt.U, Pt.locs, Pt.cells, Pt.slots] at X242 l242 y242 z242 st242 hQ242
  subst l242 y242 z242
  obtain ⟨x243, x244, rfl, N242q, q242_K, q242_E, q242_c, q242_v, q242_g, q242_z, q242_V, q242_n⟩ := hQ242
  have N242 := Fr.app N233 N242q
  have K245 : Keep h0 T242.heap [] := K237.trans q242_K (allS (Or.inr sz_b236) all0)
  have ne_b227_x243 : b227 ≠ x243 := Nat.ne_of_lt (Nat.lt_of_lt_of_le f240.lt q242_z)
  have ne_b236_x243 : b236 ≠ x243 := Nat.ne_of_lt (Nat.lt_of_lt_of_le A236.lt q242_z)
  have p246 : Go p.tables e below _ (T242.setTop (mkF m 267 #[.val (.int p1), .val (.long q2), .second, .val (.int p3), .val (.int (2 : Int32)), .val (.int x103), .val (.int x107), .val (.int x111), .val (.int x115), .val (.int x119), .val (.int x123), .val (.ref b227), .val (.ref b236), .val (.int ((p3 &&& (2147483647 : Int32)) % (3 : Int32))), .unset, .unset, .unset] [])) := fun t_ k_ => (gcT p238 st242) t_ (by
   refine XS.astore X242.here hx rfl (hb hby at_254) rfl rfl (l' := #[.val (.int p1), .val (.long q2), .second, .val (.int p3), .val (.int (2 : Int32)), .val (.int x103), .val (.int x107), .val (.int x111), .val (.int x115), .val (.int x119), .val (.int x123), .val (.ref b227), .val (.ref b236), .unset, .unset, .unset, .unset]) rfl ?_
   refine XS.iloadN X242.here hx rfl (hb hby at_256) rfl ?_
   refine X242.ldcInt hx hown (mvT hZ (own_w hw 0 rfl)) (g := (mkF m 257 #[.val (.int p1), .val (.long q2), .second, .val (.int p3), .val (.int (2 : Int32)), .val (.int x103), .val (.int x107), .val (.int x111), .val (.int x115), .val (.int x119), .val (.int x123), .val (.ref b227), .val (.ref b236), .unset, .unset, .unset, .unset] [(.int p3)])) rfl (hb hby at_257) _ ?_
   refine XS.iand X242.here hx rfl (hb hby at_259) rfl ?_
   refine XS.iload X242.here hx rfl (hb hby at_260) rfl ?_
   refine XS.iconst X242.here hx rfl (hb hby at_262) ?_
   refine XS.iadd X242.here hx rfl (hb hby at_263) rfl ?_
   refine Jvm.RoadKit.iremM X242 hx rfl (hb hby at_264) rfl (by decide) ?_
   refine XS.istore X242.here hx rfl (hb hby at_265) rfl (l' := #[.val (.int p1), .val (.long q2), .second, .val (.int p3), .val (.int (2 : Int32)), .val (.int x103), .val (.int x107), .val (.int x111), .val (.int x115), .val (.int x119), .val (.int x123), .val (.ref b227), .val (.ref b236), .val (.int ((p3 &&& (2147483647 : Int32)) % (3 : Int32))), .unset, .unset, .unset]) rfl ?_
   exact k_)
  obtain ⟨ko, hko, hkz⟩ := own_modk p3 2 (by decide)
  have p247 : Go p.tables e below (s₁.setTop (entryFrame m #[(.int p1), (.long q2), (.int p3)] maxLocals)) (T242.setTop (mkF m 267 #[.val (.int p1), .val (.long q2), .second, .val (.int p3), .val (.int (2 : Int32)), .val (.int x103), .val (.int x107), .val (.int x111), .val (.int x115), .val (.int x119), .val (.int x123), .val (.ref b227), .val (.ref b236), .val (.int (Int32.ofNat ko)), .unset, .unset, .unset] [])) := by have z := p246; rw [← hkz]; exact z
  obtain ⟨T248, h248, X248, e248, E248, A248, D248, -, st248⟩ := newO X242 hx hZ hown (own_w hw 28 rfl) (own_w hw 29 rfl) (own_w hw 30 rfl) rfl (g := (mkF m 267 #[.val (.int p1), .val (.long q2), .second, .val (.int p3), .val (.int (2 : Int32)), .val (.int x103), .val (.int x107), .val (.int x111), .val (.int x115), .val (.int x119), .val (.int x123), .val (.ref b227), .val (.ref b236), .val (.int (Int32.ofNat ko)), .unset, .unset, .unset] [])) rfl (hb hby at_267) (by decide) (by decide)
  obtain ⟨b248, g248⟩ : ∃ z, z = T242.heap.size := ⟨_, rfl⟩
  rw [← g248] at A248 D248 st248
  have f249 := (f240.keep q242_K (ninS ne_b227_b236 nin0))
  have ne_b227_b248 : b227 ≠ b248 := Nat.ne_of_lt (Nat.lt_of_lt_of_le f249.lt (Nat.le_of_eq g248.symm))
  have ne_b236_b248 : b236 ≠ b248 := Nat.ne_of_lt (Nat.lt_of_lt_of_le q242_E.lt (Nat.le_of_eq g248.symm))
  have ne_x243_b248 : x243 ≠ b248 := Nat.ne_of_lt (Nat.lt_of_lt_of_le q242_V.lt (Nat.le_of_eq g248.symm))
  have ge_b248 : n0 ≤ b248 := Nat.le_trans (Nat.le_trans Z0 K245.1) (Nat.le_of_eq g248.symm)
  have sz_b248 : h0.size ≤ b248 := Nat.le_trans K245.1 (Nat.le_of_eq g248.symm)
  have K250 : Keep h0 h248 [] := K245.ext E248
  have F248_text : Fld Z h248 b248 "com/example/subsume/subsume/model/Lines" "text" "Ljava/lang/String;" .null := D248 (Or.inr (own_w hw 36 rfl)) (ty := (.object "java/lang/String")) (by decide)
  have F248_starts : Fld Z h248 b248 "com/example/subsume/subsume/model/Lines" "starts" "[I" .null := D248 (Or.inr (own_w hw 50 rfl)) (ty := (.array .int)) (by decide)
  have p251 : Go p.tables e below _ (T248.setTop (mkF m 273 #[.val (.int p1), .val (.long q2), .second, .val (.int p3), .val (.int (2 : Int32)), .val (.int x103), .val (.int x107), .val (.int x111), .val (.int x115), .val (.int x119), .val (.int x123), .val (.ref b227), .val (.ref b236), .val (.int (Int32.ofNat ko)), .unset, .unset, .unset] [(.ref b236), (.ref b248), (.ref b248)])) := fun t_ k_ => (gc p247 st248) t_ (by
   refine XS.dup X248.here hx rfl (hb hby at_270) rfl rfl ?_
   refine XS.aload X248.here hx rfl (hb hby at_271) rfl rfl ?_
   exact k_)
  have HBp : ∀ i, i < 2 → ∃ b : Int32, ([(.int (own_xl x103)), (.int (own_xl x107))] : List Value).getD ((Int32.ofNat i)).toNatClampNeg (.int (0 : Int32)) = .int b ∧ own_c8 b = own_at [x103, x107] i := by
   intro i hi
   rcases (by omega : i = 0 ∨ i = 1) with rfl | rfl
   ·exact ⟨_, rfl, own_l8 _ ra0 rb0⟩
   ·exact ⟨_, rfl, own_l8 _ ra1 rb1⟩
  have f252 := (f249.ext E248)
  have f253 := (q242_E.ext E248)
  have f254 := (q242_V.ext E248)
  have f255 := ((f241.keep q242_K (allS ge_b236 all0)).ext E248)
  have f256 := (q242_c.ext E248)
  have f257 := (q242_v.ext E248)
  obtain ⟨_, _, ⟨T258, L258, k258, n258⟩, -, X258, ⟨Lc258, hQ258, l258, y258, z258⟩, st258⟩ := X248.specialBack hx (y := (⟨"com/example/subsume/subsume/model/Lines", "<init>", "(Ljava/lang/String;)V"⟩ : MethodName)) rfl hown (mvT hZ (own_w hw 31 rfl)) (mvT hZ (own_w hw 32 rfl)) (mvT hZ (own_w hw 33 rfl)) (by decide) (backOf (W := 1) (rm5_0 l Z a0 hw [] b248 b236 x243 x244 (2 : Int32) [(.int (own_xl x103)), (.int (own_xl x107))] [x103, x107] 2 cs1 fm h248 n0 (Nat.le_trans Z0 K250.1) f255 G f253 f256 f257 f254 F248_starts F248_text A248 ge_b248 (Ne.symm ne_b236_b248) (Ne.symm ne_x243_b248) (by decide) (by decide) HBp rfl) hZ (own_w hw 33 rfl) (own_w hw 30 rfl) (by decide) (by decide)) (g := (mkF m 273 #[.val (.int p1), .val (.long q2), .second, .val (.int p3), .val (.int (2 : Int32)), .val (.int x103), .val (.int x107), .val (.int x111), .val (.int x115), .val (.int x119), .val (.int x123), .val (.ref b227), .val (.ref b236), .val (.int (Int32.ofNat ko)), .unset, .unset, .unset] [(.ref b236), (.ref b248), (.ref b248)])) rfl (by rw [hml]; rfl) (Steps.refl _) (a := b248) (argsL := [(.ref b236)]) (rest := [(.ref b248)]) (lenOf pd15 rfl) rfl (by show 2 * 0 + _ ≤ _; exact Nat.le_of_eq rfl) (hb hby at_273) (fun _ _ => ⟨rfl, e248, (by decide : 4 + 1 ≤ _), (by decide : 10 + 9 ≤ _)⟩)
  dsimp only [Pt.U, Pt.locs, Pt.cells, Pt.slots] at X258 l258 y258 z258 st258 hQ258
  subst l258 y258 z258
  obtain ⟨x259, x260, rfl, N258q, q258_K, q258_E, q258_t, q258_s, q258_V, q258_g, q258_z, q258_n⟩ := hQ258
  have N258 := Fr.app N242 N258q
  have K261 : Keep h0 T258.heap [] := K250.trans q258_K (allS (Or.inr sz_b248) all0)
  have ne_b227_x259 : b227 ≠ x259 := Nat.ne_of_lt (Nat.lt_of_lt_of_le f252.lt q258_z)
  have ne_b236_x259 : b236 ≠ x259 := Nat.ne_of_lt (Nat.lt_of_lt_of_le f253.lt q258_z)
  have ne_x243_x259 : x243 ≠ x259 := Nat.ne_of_lt (Nat.lt_of_lt_of_le f254.lt q258_z)
  have ne_b248_x259 : b248 ≠ x259 := Nat.ne_of_lt (Nat.lt_of_lt_of_le A248.lt q258_z)
  have p262 : Go p.tables e below _ (T258.setTop (mkF m 282 #[.val (.int p1), .val (.long q2), .second, .val (.int p3), .val (.int (2 : Int32)), .val (.int x103), .val (.int x107), .val (.int x111), .val (.int x115), .val (.int x119), .val (.int x123), .val (.ref b227), .val (.ref b236), .val (.int (Int32.ofNat ko)), .val (.ref b248), .unset, .unset] [(.int (Int32.ofNat ko)), (.ref b248)])) := fun t_ k_ => (gcT p251 st258) t_ (by
   refine XS.astore X258.here hx rfl (hb hby at_276) rfl rfl (l' := #[.val (.int p1), .val (.long q2), .second, .val (.int p3), .val (.int (2 : Int32)), .val (.int x103), .val (.int x107), .val (.int x111), .val (.int x115), .val (.int x119), .val (.int x123), .val (.ref b227), .val (.ref b236), .val (.int (Int32.ofNat ko)), .val (.ref b248), .unset, .unset]) rfl ?_
   refine XS.aload X258.here hx rfl (hb hby at_278) rfl rfl ?_
   refine XS.iload X258.here hx rfl (hb hby at_280) rfl ?_
   exact k_)
  obtain ⟨cq263, kq263, q263a, q263b, q263c⟩ := isOf hZ rfl q258_E
  obtain ⟨_, _, ⟨T263, L263, k263, n263⟩, -, X263, ⟨Lc263, hQ263, l263, y263, z263⟩, st263⟩ := X258.virtualBack hx (y := (⟨"com/example/subsume/subsume/model/Lines", "line", "(I)I"⟩ : MethodName)) (z := (⟨"com/example/subsume/subsume/model/Lines", "line", "(I)I"⟩ : MethodName)) hown (mvT hZ (own_w hw 51 rfl)) (mvT hZ (own_w hw 52 rfl)) (notFace_of_selects (args := #[]) (mvT hZ (own_w hw 54 rfl))) (mvT hZ (own_w hw 54 rfl)) (mvT hZ (own_w hw 53 rfl)) (by decide) (backOf (W := 0) (rm8 l Z a0 hw [] b248 x259 x260 [x103, x107] 2 ko T258.heap n0 (Nat.le_trans Z0 K261.1) q258_s q258_V (by decide) hko) hZ (own_w hw 55 rfl) (own_w hw 30 rfl) (by decide) (by decide)) q263a q263c (g := (mkF m 282 #[.val (.int p1), .val (.long q2), .second, .val (.int p3), .val (.int (2 : Int32)), .val (.int x103), .val (.int x107), .val (.int x111), .val (.int x115), .val (.int x119), .val (.int x123), .val (.ref b227), .val (.ref b236), .val (.int (Int32.ofNat ko)), .val (.ref b248), .unset, .unset] [(.int (Int32.ofNat ko)), (.ref b248)])) rfl (by rw [hml]; rfl) (Steps.refl _) (argsL := [(.int (Int32.ofNat ko))]) (rest := []) (lenOf pd16 rfl) rfl (by show 2 * 0 + _ ≤ _; exact Nat.le_of_eq rfl) (hb hby at_282) (fun _ _ => ⟨rfl, rfl, (by decide : 5 + 0 ≤ _), (by decide : 19 + 0 ≤ _)⟩)
  dsimp only [Pt.U, Pt.locs, Pt.cells, Pt.slots] at X263 l263 y263 z263 st263 hQ263
  subst l263 y263 z263
  obtain ⟨rfl, N263q, q263_hh⟩ := hQ263
  have N263 := Fr.app N258 N263q
  have p264 : Go p.tables e below _ (T263.setTop (mkF m 292 #[.val (.int p1), .val (.long q2), .second, .val (.int p3), .val (.int (2 : Int32)), .val (.int x103), .val (.int x107), .val (.int x111), .val (.int x115), .val (.int x119), .val (.int x123), .val (.ref b227), .val (.ref b236), .val (.int (Int32.ofNat ko)), .val (.ref b248), .val (.int (Int32.ofNat (own_nl [x103, x107] ko + 1))), .unset] [(.int (Int32.ofNat ko)), (.int (0 : Int32)), (.int x103)])) := fun t_ k_ => (gcT p262 st263) t_ (by
   refine XS.istore X263.here hx rfl (hb hby at_285) rfl (l' := #[.val (.int p1), .val (.long q2), .second, .val (.int p3), .val (.int (2 : Int32)), .val (.int x103), .val (.int x107), .val (.int x111), .val (.int x115), .val (.int x119), .val (.int x123), .val (.ref b227), .val (.ref b236), .val (.int (Int32.ofNat ko)), .val (.ref b248), .val (.int (Int32.ofNat (own_nl [x103, x107] ko + 1))), .unset]) rfl ?_
   refine XS.iload X263.here hx rfl (hb hby at_287) rfl ?_
   refine XS.iconst X263.here hx rfl (hb hby at_289) ?_
   refine XS.iload X263.here hx rfl (hb hby at_290) rfl ?_
   exact k_)
  obtain ⟨_, _, ⟨T265, L265, k265, n265⟩, -, X265, ⟨Lc265, hQ265, l265, y265, z265⟩, st265⟩ := Jvm.LawKit.callS X263 hx (y := (⟨"com/example/subsume/subsume/model/LinesLinePinLaw", "nl", "(CII)I"⟩ : MethodName)) hown (mvT hZ (own_w hw 63 rfl)) (mvT hZ (own_w hw 64 rfl)) (mvT hZ (own_w hw 3 rfl)) (mvT hZ (own_w hw 65 rfl)) (by decide) (backOf (W := 0) (rm11 l Z a0 hw [] x103 0 ko T258.heap n0 (Nat.le_trans Z0 K261.1) (by decide) (by omega)) hZ (own_w hw 65 rfl) (own_w hw 3 rfl) (by decide) (by decide)) (g := (mkF m 292 #[.val (.int p1), .val (.long q2), .second, .val (.int p3), .val (.int (2 : Int32)), .val (.int x103), .val (.int x107), .val (.int x111), .val (.int x115), .val (.int x119), .val (.int x123), .val (.ref b227), .val (.ref b236), .val (.int (Int32.ofNat ko)), .val (.ref b248), .val (.int (Int32.ofNat (own_nl [x103, x107] ko + 1))), .unset] [(.int (Int32.ofNat ko)), (.int (0 : Int32)), (.int x103)])) rfl (by rw [hml]; rfl) (argsL := [(.int x103), (.int (0 : Int32)), (.int (Int32.ofNat ko))]) (rest := []) (lenOf pd17 rfl) rfl (by show 2 * 0 + _ ≤ _; exact Nat.le_of_eq rfl) (hb hby at_292) (fun _ _ => ⟨rfl, q263_hh, (by decide : 5 + 0 ≤ _), (by decide : 19 + 0 ≤ _)⟩)
  dsimp only [Pt.U, Pt.locs, Pt.cells, Pt.slots] at X265 l265 y265 z265 st265 hQ265
  subst l265 y265 z265
  obtain ⟨rfl, N265q, q265_hh⟩ := hQ265
  have N265 := Fr.app N263 N265q
  have p266 : Go p.tables e below _ (T265.setTop (mkF m 300 #[.val (.int p1), .val (.long q2), .second, .val (.int p3), .val (.int (2 : Int32)), .val (.int x103), .val (.int x107), .val (.int x111), .val (.int x115), .val (.int x119), .val (.int x123), .val (.ref b227), .val (.ref b236), .val (.int (Int32.ofNat ko)), .val (.ref b248), .val (.int (Int32.ofNat (own_nl [x103, x107] ko + 1))), .unset] [(.int (Int32.ofNat ko)), (.int (1 : Int32)), (.int x107), (.int (own_n1 x103 0 ko))])) := fun t_ k_ => (gc p264 st265) t_ (by
   refine XS.iload X265.here hx rfl (hb hby at_295) rfl ?_
   refine XS.iconst X265.here hx rfl (hb hby at_297) ?_
   refine XS.iload X265.here hx rfl (hb hby at_298) rfl ?_
   exact k_)
  obtain ⟨_, _, ⟨T267, L267, k267, n267⟩, -, X267, ⟨Lc267, hQ267, l267, y267, z267⟩, st267⟩ := Jvm.LawKit.callS X265 hx (y := (⟨"com/example/subsume/subsume/model/LinesLinePinLaw", "nl", "(CII)I"⟩ : MethodName)) hown (mvT hZ (own_w hw 63 rfl)) (mvT hZ (own_w hw 64 rfl)) (mvT hZ (own_w hw 3 rfl)) (mvT hZ (own_w hw 65 rfl)) (by decide) (backOf (W := 1) (rm11 l Z a0 hw [] x107 1 ko T258.heap n0 (Nat.le_trans Z0 K261.1) (by decide) (by omega)) hZ (own_w hw 65 rfl) (own_w hw 3 rfl) (by decide) (by decide)) (g := (mkF m 300 #[.val (.int p1), .val (.long q2), .second, .val (.int p3), .val (.int (2 : Int32)), .val (.int x103), .val (.int x107), .val (.int x111), .val (.int x115), .val (.int x119), .val (.int x123), .val (.ref b227), .val (.ref b236), .val (.int (Int32.ofNat ko)), .val (.ref b248), .val (.int (Int32.ofNat (own_nl [x103, x107] ko + 1))), .unset] [(.int (Int32.ofNat ko)), (.int (1 : Int32)), (.int x107), (.int (own_n1 x103 0 ko))])) rfl (by rw [hml]; rfl) (argsL := [(.int x107), (.int (1 : Int32)), (.int (Int32.ofNat ko))]) (rest := [(.int (own_n1 x103 0 ko))]) (lenOf pd17 rfl) rfl (by show 2 * 0 + _ ≤ _; exact Nat.le_of_eq rfl) (hb hby at_300) (fun _ _ => ⟨rfl, q265_hh, (by decide : 5 + 0 ≤ _), (by decide : 19 + 0 ≤ _)⟩)
  dsimp only [Pt.U, Pt.locs, Pt.cells, Pt.slots] at X267 l267 y267 z267 st267 hQ267
  subst l267 y267 z267
  obtain ⟨rfl, N267q, q267_hh⟩ := hQ267
  have N267 := Fr.app N265 N267q
  have p268 : Go p.tables e below _ (T267.setTop (mkF m 309 #[.val (.int p1), .val (.long q2), .second, .val (.int p3), .val (.int (2 : Int32)), .val (.int x103), .val (.int x107), .val (.int x111), .val (.int x115), .val (.int x119), .val (.int x123), .val (.ref b227), .val (.ref b236), .val (.int (Int32.ofNat ko)), .val (.ref b248), .val (.int (Int32.ofNat (own_nl [x103, x107] ko + 1))), .unset] [(.int (Int32.ofNat ko)), (.int (2 : Int32)), (.int x111), (.int ((own_n1 x103 0 ko) + (own_n1 x107 1 ko)))])) := fun t_ k_ => (gc p266 st267) t_ (by
   refine XS.iadd X267.here hx rfl (hb hby at_303) rfl ?_
   refine XS.iload X267.here hx rfl (hb hby at_304) rfl ?_
   refine XS.iconst X267.here hx rfl (hb hby at_306) ?_
   refine XS.iload X267.here hx rfl (hb hby at_307) rfl ?_
   exact k_)
  obtain ⟨_, _, ⟨T269, L269, k269, n269⟩, -, X269, ⟨Lc269, hQ269, l269, y269, z269⟩, st269⟩ := Jvm.LawKit.callS X267 hx (y := (⟨"com/example/subsume/subsume/model/LinesLinePinLaw", "nl", "(CII)I"⟩ : MethodName)) hown (mvT hZ (own_w hw 63 rfl)) (mvT hZ (own_w hw 64 rfl)) (mvT hZ (own_w hw 3 rfl)) (mvT hZ (own_w hw 65 rfl)) (by decide) (backOf (W := 1) (rm11 l Z a0 hw [] x111 2 ko T258.heap n0 (Nat.le_trans Z0 K261.1) (by decide) (by omega)) hZ (own_w hw 65 rfl) (own_w hw 3 rfl) (by decide) (by decide)) (g := (mkF m 309 #[.val (.int p1), .val (.long q2), .second, .val (.int p3), .val (.int (2 : Int32)), .val (.int x103), .val (.int x107), .val (.int x111), .val (.int x115), .val (.int x119), .val (.int x123), .val (.ref b227), .val (.ref b236), .val (.int (Int32.ofNat ko)), .val (.ref b248), .val (.int (Int32.ofNat (own_nl [x103, x107] ko + 1))), .unset] [(.int (Int32.ofNat ko)), (.int (2 : Int32)), (.int x111), (.int ((own_n1 x103 0 ko) + (own_n1 x107 1 ko)))])) rfl (by rw [hml]; rfl) (argsL := [(.int x111), (.int (2 : Int32)), (.int (Int32.ofNat ko))]) (rest := [(.int ((own_n1 x103 0 ko) + (own_n1 x107 1 ko)))]) (lenOf pd17 rfl) rfl (by show 2 * 0 + _ ≤ _; exact Nat.le_of_eq rfl) (hb hby at_309) (fun _ _ => ⟨rfl, q267_hh, (by decide : 5 + 0 ≤ _), (by decide : 19 + 0 ≤ _)⟩)
  dsimp only [Pt.U, Pt.locs, Pt.cells, Pt.slots] at X269 l269 y269 z269 st269 hQ269
  subst l269 y269 z269
  obtain ⟨rfl, N269q, q269_hh⟩ := hQ269
  have N269 := Fr.app N267 N269q
  have p270 : Go p.tables e below _ (T269.setTop (mkF m 318 #[.val (.int p1), .val (.long q2), .second, .val (.int p3), .val (.int (2 : Int32)), .val (.int x103), .val (.int x107), .val (.int x111), .val (.int x115), .val (.int x119), .val (.int x123), .val (.ref b227), .val (.ref b236), .val (.int (Int32.ofNat ko)), .val (.ref b248), .val (.int (Int32.ofNat (own_nl [x103, x107] ko + 1))), .unset] [(.int (Int32.ofNat ko)), (.int (3 : Int32)), (.int x115), (.int (((own_n1 x103 0 ko) + (own_n1 x107 1 ko)) + (own_n1 x111 2 ko)))])) := fun t_ k_ => (gc p268 st269) t_ (by
   refine XS.iadd X269.here hx rfl (hb hby at_312) rfl ?_
   refine XS.iload X269.here hx rfl (hb hby at_313) rfl ?_
   refine XS.iconst X269.here hx rfl (hb hby at_315) ?_
   refine XS.iload X269.here hx rfl (hb hby at_316) rfl ?_
   exact k_)
  obtain ⟨_, _, ⟨T271, L271, k271, n271⟩, -, X271, ⟨Lc271, hQ271, l271, y271, z271⟩, st271⟩ := Jvm.LawKit.callS X269 hx (y := (⟨"com/example/subsume/subsume/model/LinesLinePinLaw", "nl", "(CII)I"⟩ : MethodName)) hown (mvT hZ (own_w hw 63 rfl)) (mvT hZ (own_w hw 64 rfl)) (mvT hZ (own_w hw 3 rfl)) (mvT hZ (own_w hw 65 rfl)) (by decide) (backOf (W := 1) (rm11 l Z a0 hw [] x115 3 ko T258.heap n0 (Nat.le_trans Z0 K261.1) (by decide) (by omega)) hZ (own_w hw 65 rfl) (own_w hw 3 rfl) (by decide) (by decide)) (g := (mkF m 318 #[.val (.int p1), .val (.long q2), .second, .val (.int p3), .val (.int (2 : Int32)), .val (.int x103), .val (.int x107), .val (.int x111), .val (.int x115), .val (.int x119), .val (.int x123), .val (.ref b227), .val (.ref b236), .val (.int (Int32.ofNat ko)), .val (.ref b248), .val (.int (Int32.ofNat (own_nl [x103, x107] ko + 1))), .unset] [(.int (Int32.ofNat ko)), (.int (3 : Int32)), (.int x115), (.int (((own_n1 x103 0 ko) + (own_n1 x107 1 ko)) + (own_n1 x111 2 ko)))])) rfl (by rw [hml]; rfl) (argsL := [(.int x115), (.int (3 : Int32)), (.int (Int32.ofNat ko))]) (rest := [(.int (((own_n1 x103 0 ko) + (own_n1 x107 1 ko)) + (own_n1 x111 2 ko)))]) (lenOf pd17 rfl) rfl (by show 2 * 0 + _ ≤ _; exact Nat.le_of_eq rfl) (hb hby at_318) (fun _ _ => ⟨rfl, q269_hh, (by decide : 5 + 0 ≤ _), (by decide : 19 + 0 ≤ _)⟩)
  dsimp only [Pt.U, Pt.locs, Pt.cells, Pt.slots] at X271 l271 y271 z271 st271 hQ271
  subst l271 y271 z271
  obtain ⟨rfl, N271q, q271_hh⟩ := hQ271
  have N271 := Fr.app N269 N271q
  have p272 : Go p.tables e below _ (T271.setTop (mkF m 327 #[.val (.int p1), .val (.long q2), .second, .val (.int p3), .val (.int (2 : Int32)), .val (.int x103), .val (.int x107), .val (.int x111), .val (.int x115), .val (.int x119), .val (.int x123), .val (.ref b227), .val (.ref b236), .val (.int (Int32.ofNat ko)), .val (.ref b248), .val (.int (Int32.ofNat (own_nl [x103, x107] ko + 1))), .unset] [(.int (Int32.ofNat ko)), (.int (4 : Int32)), (.int x119), (.int ((((own_n1 x103 0 ko) + (own_n1 x107 1 ko)) + (own_n1 x111 2 ko)) + (own_n1 x115 3 ko)))])) := fun t_ k_ => (gc p270 st271) t_ (by
   refine XS.iadd X271.here hx rfl (hb hby at_321) rfl ?_
   refine XS.iload X271.here hx rfl (hb hby at_322) rfl ?_
   refine XS.iconst X271.here hx rfl (hb hby at_324) ?_
   refine XS.iload X271.here hx rfl (hb hby at_325) rfl ?_
   exact k_)
  obtain ⟨_, _, ⟨T273, L273, k273, n273⟩, -, X273, ⟨Lc273, hQ273, l273, y273, z273⟩, st273⟩ := Jvm.LawKit.callS X271 hx (y := (⟨"com/example/subsume/subsume/model/LinesLinePinLaw", "nl", "(CII)I"⟩ : MethodName)) hown (mvT hZ (own_w hw 63 rfl)) (mvT hZ (own_w hw 64 rfl)) (mvT hZ (own_w hw 3 rfl)) (mvT hZ (own_w hw 65 rfl)) (by decide) (backOf (W := 1) (rm11 l Z a0 hw [] x119 4 ko T258.heap n0 (Nat.le_trans Z0 K261.1) (by decide) (by omega)) hZ (own_w hw 65 rfl) (own_w hw 3 rfl) (by decide) (by decide)) (g := (mkF m 327 #[.val (.int p1), .val (.long q2), .second, .val (.int p3), .val (.int (2 : Int32)), .val (.int x103), .val (.int x107), .val (.int x111), .val (.int x115), .val (.int x119), .val (.int x123), .val (.ref b227), .val (.ref b236), .val (.int (Int32.ofNat ko)), .val (.ref b248), .val (.int (Int32.ofNat (own_nl [x103, x107] ko + 1))), .unset] [(.int (Int32.ofNat ko)), (.int (4 : Int32)), (.int x119), (.int ((((own_n1 x103 0 ko) + (own_n1 x107 1 ko)) + (own_n1 x111 2 ko)) + (own_n1 x115 3 ko)))])) rfl (by rw [hml]; rfl) (argsL := [(.int x119), (.int (4 : Int32)), (.int (Int32.ofNat ko))]) (rest := [(.int ((((own_n1 x103 0 ko) + (own_n1 x107 1 ko)) + (own_n1 x111 2 ko)) + (own_n1 x115 3 ko)))]) (lenOf pd17 rfl) rfl (by show 2 * 0 + _ ≤ _; exact Nat.le_of_eq rfl) (hb hby at_327) (fun _ _ => ⟨rfl, q271_hh, (by decide : 5 + 0 ≤ _), (by decide : 19 + 0 ≤ _)⟩)
  dsimp only [Pt.U, Pt.locs, Pt.cells, Pt.slots] at X273 l273 y273 z273 st273 hQ273
  subst l273 y273 z273
  obtain ⟨rfl, N273q, q273_hh⟩ := hQ273
  have N273 := Fr.app N271 N273q
  have p274 : Go p.tables e below _ (T273.setTop (mkF m 336 #[.val (.int p1), .val (.long q2), .second, .val (.int p3), .val (.int (2 : Int32)), .val (.int x103), .val (.int x107), .val (.int x111), .val (.int x115), .val (.int x119), .val (.int x123), .val (.ref b227), .val (.ref b236), .val (.int (Int32.ofNat ko)), .val (.ref b248), .val (.int (Int32.ofNat (own_nl [x103, x107] ko + 1))), .unset] [(.int (Int32.ofNat ko)), (.int (5 : Int32)), (.int x123), (.int (((((own_n1 x103 0 ko) + (own_n1 x107 1 ko)) + (own_n1 x111 2 ko)) + (own_n1 x115 3 ko)) + (own_n1 x119 4 ko)))])) := fun t_ k_ => (gc p272 st273) t_ (by
   refine XS.iadd X273.here hx rfl (hb hby at_330) rfl ?_
   refine XS.iload X273.here hx rfl (hb hby at_331) rfl ?_
   refine XS.iconst X273.here hx rfl (hb hby at_333) ?_
   refine XS.iload X273.here hx rfl (hb hby at_334) rfl ?_
   exact k_)
  obtain ⟨_, _, ⟨T275, L275, k275, n275⟩, -, X275, ⟨Lc275, hQ275, l275, y275, z275⟩, st275⟩ := Jvm.LawKit.callS X273 hx (y := (⟨"com/example/subsume/subsume/model/LinesLinePinLaw", "nl", "(CII)I"⟩ : MethodName)) hown (mvT hZ (own_w hw 63 rfl)) (mvT hZ (own_w hw 64 rfl)) (mvT hZ (own_w hw 3 rfl)) (mvT hZ (own_w hw 65 rfl)) (by decide) (backOf (W := 1) (rm11 l Z a0 hw [] x123 5 ko T258.heap n0 (Nat.le_trans Z0 K261.1) (by decide) (by omega)) hZ (own_w hw 65 rfl) (own_w hw 3 rfl) (by decide) (by decide)) (g := (mkF m 336 #[.val (.int p1), .val (.long q2), .second, .val (.int p3), .val (.int (2 : Int32)), .val (.int x103), .val (.int x107), .val (.int x111), .val (.int x115), .val (.int x119), .val (.int x123), .val (.ref b227), .val (.ref b236), .val (.int (Int32.ofNat ko)), .val (.ref b248), .val (.int (Int32.ofNat (own_nl [x103, x107] ko + 1))), .unset] [(.int (Int32.ofNat ko)), (.int (5 : Int32)), (.int x123), (.int (((((own_n1 x103 0 ko) + (own_n1 x107 1 ko)) + (own_n1 x111 2 ko)) + (own_n1 x115 3 ko)) + (own_n1 x119 4 ko)))])) rfl (by rw [hml]; rfl) (argsL := [(.int x123), (.int (5 : Int32)), (.int (Int32.ofNat ko))]) (rest := [(.int (((((own_n1 x103 0 ko) + (own_n1 x107 1 ko)) + (own_n1 x111 2 ko)) + (own_n1 x115 3 ko)) + (own_n1 x119 4 ko)))]) (lenOf pd17 rfl) rfl (by show 2 * 0 + _ ≤ _; exact Nat.le_of_eq rfl) (hb hby at_336) (fun _ _ => ⟨rfl, q273_hh, (by decide : 5 + 0 ≤ _), (by decide : 19 + 0 ≤ _)⟩)
  dsimp only [Pt.U, Pt.locs, Pt.cells, Pt.slots] at X275 l275 y275 z275 st275 hQ275
  subst l275 y275 z275
  obtain ⟨rfl, N275q, q275_hh⟩ := hQ275
  have N275 := Fr.app N273 N275q
  have p276 : Go p.tables e below _ (T275.setTop (mkF m 348 #[.val (.int p1), .val (.long q2), .second, .val (.int p3), .val (.int (2 : Int32)), .val (.int x103), .val (.int x107), .val (.int x111), .val (.int x115), .val (.int x119), .val (.int x123), .val (.ref b227), .val (.ref b236), .val (.int (Int32.ofNat ko)), .val (.ref b248), .val (.int (Int32.ofNat (own_nl [x103, x107] ko + 1))), .val (.int ((((((own_n1 x103 0 ko) + (own_n1 x107 1 ko)) + (own_n1 x111 2 ko)) + (own_n1 x115 3 ko)) + (own_n1 x119 4 ko)) + (own_n1 x123 5 ko)))] [(.int ((1 : Int32) + ((((((own_n1 x103 0 ko) + (own_n1 x107 1 ko)) + (own_n1 x111 2 ko)) + (own_n1 x115 3 ko)) + (own_n1 x119 4 ko)) + (own_n1 x123 5 ko)))), (.int (Int32.ofNat (own_nl [x103, x107] ko + 1)))])) := fun t_ k_ => (gc p274 st275) t_ (by
   refine XS.iadd X275.here hx rfl (hb hby at_339) rfl ?_
   refine XS.istore X275.here hx rfl (hb hby at_340) rfl (l' := #[.val (.int p1), .val (.long q2), .second, .val (.int p3), .val (.int (2 : Int32)), .val (.int x103), .val (.int x107), .val (.int x111), .val (.int x115), .val (.int x119), .val (.int x123), .val (.ref b227), .val (.ref b236), .val (.int (Int32.ofNat ko)), .val (.ref b248), .val (.int (Int32.ofNat (own_nl [x103, x107] ko + 1))), .val (.int ((((((own_n1 x103 0 ko) + (own_n1 x107 1 ko)) + (own_n1 x111 2 ko)) + (own_n1 x115 3 ko)) + (own_n1 x119 4 ko)) + (own_n1 x123 5 ko)))]) rfl ?_
   refine XS.iload X275.here hx rfl (hb hby at_342) rfl ?_
   refine XS.iconst X275.here hx rfl (hb hby at_344) ?_
   refine XS.iload X275.here hx rfl (hb hby at_345) rfl ?_
   refine XS.iadd X275.here hx rfl (hb hby at_347) rfl ?_
   exact k_)
  have c277 : ((Int32.ofNat (own_nl [x103, x107] ko + 1)) = ((1 : Int32) + ((((((own_n1 x103 0 ko) + (own_n1 x107 1 ko)) + (own_n1 x111 2 ko)) + (own_n1 x115 3 ko)) + (own_n1 x119 4 ko)) + (own_n1 x123 5 ko)))) := own_fin2 x103 x107 x111 x115 x119 x123 ko hko
  have p278 : Go p.tables e below _ (T275.setTop (mkF m 356 #[.val (.int p1), .val (.long q2), .second, .val (.int p3), .val (.int (2 : Int32)), .val (.int x103), .val (.int x107), .val (.int x111), .val (.int x115), .val (.int x119), .val (.int x123), .val (.ref b227), .val (.ref b236), .val (.int (Int32.ofNat ko)), .val (.ref b248), .val (.int (Int32.ofNat (own_nl [x103, x107] ko + 1))), .val (.int ((((((own_n1 x103 0 ko) + (own_n1 x107 1 ko)) + (own_n1 x111 2 ko)) + (own_n1 x115 3 ko)) + (own_n1 x119 4 ko)) + (own_n1 x123 5 ko)))] [(.int (1 : Int32))])) := fun t_ k_ => p276 t_ (by
   refine XS.icmpNo X275.here hx rfl (hb hby at_348) rfl (teq c277).2 ?_
   refine XS.iconst X275.here hx rfl (hb hby at_351) ?_
   refine XS.goto X275.here hx rfl (pc0 := 352) (pc' := 356) rfl (hb hby at_352) (by decide) (by decide) ?_
   exact k_)
  obtain ⟨fs, hr, hrun, hended, hW, hsame⟩ := X275.leave (v := some (.int (1 : Int32))) (fun h => by rw [Bd.returns] at h; cases h)
  refine ⟨_, _, p278 _ (retN X275 hx (t := .boolean) Bd.returns (by simp) (hb hby at_356) hr), hrun, hended, _, _, rfl, ?_, ReturnedEndW.of_narrow ⟨_, rfl⟩ hW (hsame.mono (by decide) (by decide))⟩
  show Q0 Z p1 q2 p3 cs1 fm h0 n0 _ T275.heap _
  rw [q275_hh]
  exact ⟨rfl, N275⟩
 ·have p279 : Go p.tables e below (s₁.setTop (entryFrame m #[(.int p1), (.long q2), (.int p3)] maxLocals)) (T122.setTop (mkF m 51 #[.val (.int p1), .val (.long q2), .second, .val (.int p3), .val (.int (3 : Int32)), .val (.int x103), .val (.int x107), .val (.int x111), .val (.int x115), .val (.int x119), .val (.int x123), .unset, .unset, .unset, .unset, .unset, .unset] [])) := by have z := p125; rw [ro] at z; exact z
  have p280 : Go p.tables e below _ (T122.setTop (mkF m 114 #[.val (.int p1), .val (.long q2), .second, .val (.int p3), .val (.int (3 : Int32)), .val (.int x103), .val (.int x107), .val (.int x111), .val (.int x115), .val (.int x119), .val (.int x123), .unset, .unset, .unset, .unset, .unset, .unset] [(.int (3 : Int32))])) := fun t_ k_ => p279 t_ (by
   refine XS.iload X122.here hx rfl (hb hby at_51) rfl ?_
   refine XS.ifYes X122.here hx rfl (pc0 := 53) (pc' := 64) rfl (hb hby at_53) rfl ((if0 _ _).trans (feq (by decide : ¬ ((3 : Int32) = (0 : Int32)))).2) (by decide) (by decide) ?_
   refine XS.iload X122.here hx rfl (hb hby at_64) rfl ?_
   refine XS.iconst X122.here hx rfl (hb hby at_66) ?_
   refine XS.icmpYes X122.here hx rfl (pc0 := 67) (pc' := 83) rfl (hb hby at_67) rfl (feq (by decide : ¬ ((3 : Int32) = (1 : Int32)))).2 (by decide) (by decide) ?_
   refine XS.iload X122.here hx rfl (hb hby at_83) rfl ?_
   refine XS.iconst X122.here hx rfl (hb hby at_85) ?_
   refine XS.icmpYes X122.here hx rfl (pc0 := 86) (pc' := 107) rfl (hb hby at_86) rfl (feq (by decide : ¬ ((3 : Int32) = (2 : Int32)))).2 (by decide) (by decide) ?_
   refine XS.iload X122.here hx rfl (hb hby at_107) rfl ?_
   refine XS.iconst X122.here hx rfl (hb hby at_109) ?_
   refine XS.icmpNo X122.here hx rfl (hb hby at_110) rfl (teq (by decide : ((3 : Int32) = (3 : Int32)))).2 ?_
   refine XS.iconst X122.here hx rfl (hb hby at_113) ?_
   exact k_)
  obtain ⟨T281, h281, k281, X281, e281, E281, A281, st281⟩ := newP X122 hx hZ (own_w hw 6 rfl) q122_hh (g := (mkF m 114 #[.val (.int p1), .val (.long q2), .second, .val (.int p3), .val (.int (3 : Int32)), .val (.int x103), .val (.int x107), .val (.int x111), .val (.int x115), .val (.int x119), .val (.int x123), .unset, .unset, .unset, .unset, .unset, .unset] [(.int (3 : Int32))])) rfl (hb hby at_114) rfl (by decide) (cap := 3) (by decide) (by decide) (by decide) (by decide)
  obtain ⟨b281, g281⟩ : ∃ z, z = h0.size := ⟨_, rfl⟩
  rw [← g281] at A281 st281
  have ge_b281 : n0 ≤ b281 := Nat.le_trans (Nat.le_trans Z0 (Keep.refl h0 []).1) (Nat.le_of_eq g281.symm)
  have sz_b281 : h0.size ≤ b281 := Nat.le_trans (Keep.refl h0 []).1 (Nat.le_of_eq g281.symm)
  have K282 : Keep h0 h281 [] := (Keep.refl h0 []).ext E281
  have V281 : Arv Z h281 b281 k281 .char (3 : Int32) [(.int (0 : Int32)), (.int (0 : Int32)), (.int (0 : Int32))] (.int (0 : Int32)) := (Arv.new A281 (by decide)).pad (pad_rep [] (.int (0 : Int32)) 3)
  have p283 : Go p.tables e below _ (T281.setTop (mkF m 120 #[.val (.int p1), .val (.long q2), .second, .val (.int p3), .val (.int (3 : Int32)), .val (.int x103), .val (.int x107), .val (.int x111), .val (.int x115), .val (.int x119), .val (.int x123), .unset, .unset, .unset, .unset, .unset, .unset] [(.int x103), (.int (0 : Int32)), (.ref b281), (.ref b281)])) := fun t_ k_ => (gc p280 st281) t_ (by
   refine XS.dup X281.here hx rfl (hb hby at_116) rfl rfl ?_
   refine XS.iconst X281.here hx rfl (hb hby at_117) ?_
   refine XS.iload X281.here hx rfl (hb hby at_118) rfl ?_
   exact k_)
  obtain ⟨cl284, Ar284, q284, S284, Ng284, H284, G284⟩ := id V281
  have hin284 := inb_of S284 (j := (0 : Int32)) ⟨by decide, by decide⟩
  obtain ⟨T284, h284, X284, e284, W284, st284⟩ := stC X281 hx hZ e281 Ar284 (j := (0 : Int32)) hin284 (g := (mkF m 120 #[.val (.int p1), .val (.long q2), .second, .val (.int p3), .val (.int (3 : Int32)), .val (.int x103), .val (.int x107), .val (.int x111), .val (.int x115), .val (.int x119), .val (.int x123), .unset, .unset, .unset, .unset, .unset, .unset] [(.int x103), (.int (0 : Int32)), (.ref b281), (.ref b281)])) rfl rfl (hb hby at_120)
  have K285 : Keep h0 h284 [] := K282.wr W284 (Or.inr sz_b281)
  have N284 := Fr.snoc X284 N122 ge_b281
  have V284 : Arv Z h284 b281 k281 .char (3 : Int32) [(.int (nar .char x103)), (.int (0 : Int32)), (.int (0 : Int32))] (.int (0 : Int32)) := Arv.set Ar284 q284 S284 Ng284 H284 G284 (fits_nar_char _) W284 0 rfl (Nat.le_of_ble_eq_true rfl)
  have p286 : Go p.tables e below _ (T284.setTop (mkF m 125 #[.val (.int p1), .val (.long q2), .second, .val (.int p3), .val (.int (3 : Int32)), .val (.int x103), .val (.int x107), .val (.int x111), .val (.int x115), .val (.int x119), .val (.int x123), .unset, .unset, .unset, .unset, .unset, .unset] [(.int x107), (.int (1 : Int32)), (.ref b281), (.ref b281)])) := fun t_ k_ => (gc p283 st284) t_ (by
   refine XS.dup X284.here hx rfl (hb hby at_121) rfl rfl ?_
   refine XS.iconst X284.here hx rfl (hb hby at_122) ?_
   refine XS.iload X284.here hx rfl (hb hby at_123) rfl ?_
   exact k_)
  obtain ⟨cl287, Ar287, q287, S287, Ng287, H287, G287⟩ := id V284
  have hin287 := inb_of S287 (j := (1 : Int32)) ⟨by decide, by decide⟩
  obtain ⟨T287, h287, X287, e287, W287, st287⟩ := stC X284 hx hZ e284 Ar287 (j := (1 : Int32)) hin287 (g := (mkF m 125 #[.val (.int p1), .val (.long q2), .second, .val (.int p3), .val (.int (3 : Int32)), .val (.int x103), .val (.int x107), .val (.int x111), .val (.int x115), .val (.int x119), .val (.int x123), .unset, .unset, .unset, .unset, .unset, .unset] [(.int x107), (.int (1 : Int32)), (.ref b281), (.ref b281)])) rfl rfl (hb hby at_125)
  have K288 : Keep h0 h287 [] := K285.wr W287 (Or.inr sz_b281)
  have N287 := Fr.snoc X287 N284 ge_b281
  have V287 : Arv Z h287 b281 k281 .char (3 : Int32) [(.int (nar .char x103)), (.int (nar .char x107)), (.int (0 : Int32))] (.int (0 : Int32)) := Arv.set Ar287 q287 S287 Ng287 H287 G287 (fits_nar_char _) W287 1 rfl (Nat.le_of_ble_eq_true rfl)
  have p289 : Go p.tables e below _ (T287.setTop (mkF m 130 #[.val (.int p1), .val (.long q2), .second, .val (.int p3), .val (.int (3 : Int32)), .val (.int x103), .val (.int x107), .val (.int x111), .val (.int x115), .val (.int x119), .val (.int x123), .unset, .unset, .unset, .unset, .unset, .unset] [(.int x111), (.int (2 : Int32)), (.ref b281), (.ref b281)])) := fun t_ k_ => (gc p286 st287) t_ (by
   refine XS.dup X287.here hx rfl (hb hby at_126) rfl rfl ?_
   refine XS.iconst X287.here hx rfl (hb hby at_127) ?_
   refine XS.iload X287.here hx rfl (hb hby at_128) rfl ?_
   exact k_)
  obtain ⟨cl290, Ar290, q290, S290, Ng290, H290, G290⟩ := id V287
  have hin290 := inb_of S290 (j := (2 : Int32)) ⟨by decide, by decide⟩
  obtain ⟨T290, h290, X290, e290, W290, st290⟩ := stC X287 hx hZ e287 Ar290 (j := (2 : Int32)) hin290 (g := (mkF m 130 #[.val (.int p1), .val (.long q2), .second, .val (.int p3), .val (.int (3 : Int32)), .val (.int x103), .val (.int x107), .val (.int x111), .val (.int x115), .val (.int x119), .val (.int x123), .unset, .unset, .unset, .unset, .unset, .unset] [(.int x111), (.int (2 : Int32)), (.ref b281), (.ref b281)])) rfl rfl (hb hby at_130)
  have K291 : Keep h0 h290 [] := K288.wr W290 (Or.inr sz_b281)
  have N290 := Fr.snoc X290 N287 ge_b281
  have V290 : Arv Z h290 b281 k281 .char (3 : Int32) [(.int (nar .char x103)), (.int (nar .char x107)), (.int (nar .char x111))] (.int (0 : Int32)) := Arv.set Ar290 q290 S290 Ng290 H290 G290 (fits_nar_char _) W290 2 rfl (Nat.le_of_ble_eq_true rfl)
  have p292 : Go p.tables e below _ (T290.setTop (mkF m 245 #[.val (.int p1), .val (.long q2), .second, .val (.int p3), .val (.int (3 : Int32)), .val (.int x103), .val (.int x107), .val (.int x111), .val (.int x115), .val (.int x119), .val (.int x123), .val (.ref b281), .unset, .unset, .unset, .unset, .unset] [])) := fun t_ k_ => (gc p289 st290) t_ (by
   refine XS.astore X290.here hx rfl (hb hby at_131) rfl rfl (l' := #[.val (.int p1), .val (.long q2), .second, .val (.int p3), .val (.int (3 : Int32)), .val (.int x103), .val (.int x107), .val (.int x111), .val (.int x115), .val (.int x119), .val (.int x123), .val (.ref b281), .unset, .unset, .unset, .unset, .unset]) rfl ?_
   refine XS.goto X290.here hx rfl (pc0 := 133) (pc' := 245) rfl (hb hby at_133) (by decide) (by decide) ?_
   exact k_)
  obtain ⟨T293, h293, X293, e293, E293, A293, D293, -, st293⟩ := newO X290 hx hZ hown (own_w hw 7 rfl) (own_w hw 8 rfl) (own_w hw 9 rfl) e290 (g := (mkF m 245 #[.val (.int p1), .val (.long q2), .second, .val (.int p3), .val (.int (3 : Int32)), .val (.int x103), .val (.int x107), .val (.int x111), .val (.int x115), .val (.int x119), .val (.int x123), .val (.ref b281), .unset, .unset, .unset, .unset, .unset] [])) rfl (hb hby at_245) (by decide) (by decide)
  obtain ⟨b293, g293⟩ : ∃ z, z = h290.size := ⟨_, rfl⟩
  rw [← g293] at A293 D293 st293
  have ne_b281_b293 : b281 ≠ b293 := Nat.ne_of_lt (Nat.lt_of_lt_of_le V290.lt (Nat.le_of_eq g293.symm))
  have ge_b293 : n0 ≤ b293 := Nat.le_trans (Nat.le_trans Z0 K291.1) (Nat.le_of_eq g293.symm)
  have sz_b293 : h0.size ≤ b293 := Nat.le_trans K291.1 (Nat.le_of_eq g293.symm)
  have K294 : Keep h0 h293 [] := K291.ext E293
  have F293_value : Fld Z h293 b293 "java/lang/String" "value" "[B" .null := D293 (Or.inr (own_w hw 22 rfl)) (ty := (.array .byte)) (by decide)
  have F293_coder : Fld Z h293 b293 "java/lang/String" "coder" "B" (.int (0 : Int32)) := D293 (Or.inr (own_w hw 23 rfl)) (ty := .byte) (by decide)
  have p295 : Go p.tables e below _ (T293.setTop (mkF m 251 #[.val (.int p1), .val (.long q2), .second, .val (.int p3), .val (.int (3 : Int32)), .val (.int x103), .val (.int x107), .val (.int x111), .val (.int x115), .val (.int x119), .val (.int x123), .val (.ref b281), .unset, .unset, .unset, .unset, .unset] [(.ref b281), (.ref b293), (.ref b293)])) := fun t_ k_ => (gc p292 st293) t_ (by
   refine XS.dup X293.here hx rfl (hb hby at_248) rfl rfl ?_
   refine XS.aload X293.here hx rfl (hb hby at_249) rfl rfl ?_
   exact k_)
  have f296 := (V290.ext E293)
  have f297 : Arv Z h293 b281 k281 .char (3 : Int32) [(.int x103), (.int x107), (.int x111)] (.int (0 : Int32)) := by have z := f296; rw [own_narc _ ra0 (own_le255 rb0), own_narc _ ra1 (own_le255 rb1), own_narc _ ra2 (own_le255 rb2)] at z; exact z
  have f298 := (((((O1.ext E281).wr W284 ge_b281).wr W287 ge_b281).wr W290 ge_b281).ext E293)
  obtain ⟨_, _, ⟨T299, L299, k299, n299⟩, -, X299, ⟨Lc299, hQ299, l299, y299, z299⟩, st299⟩ := X293.specialBack hx (y := (⟨"java/lang/String", "<init>", "([C)V"⟩ : MethodName)) rfl hown (mvT hZ (own_w hw 10 rfl)) (mvT hZ (own_w hw 11 rfl)) (mvT hZ (own_w hw 12 rfl)) (by decide) (backOf (W := 1) (rm2_L3 l Z a0 hw [] b293 b281 k281 x103 x107 x111 cs1 fm h293 n0 (Nat.le_trans Z0 K294.1) f298 G F293_coder F293_value A293 f297 (Ne.symm ne_b281_b293) ge_b293 rb0 rb1 rb2) hZ (own_w hw 12 rfl) (own_w hw 9 rfl) (by decide) (by decide)) (g := (mkF m 251 #[.val (.int p1), .val (.long q2), .second, .val (.int p3), .val (.int (3 : Int32)), .val (.int x103), .val (.int x107), .val (.int x111), .val (.int x115), .val (.int x119), .val (.int x123), .val (.ref b281), .unset, .unset, .unset, .unset, .unset] [(.ref b281), (.ref b293), (.ref b293)])) rfl (by rw [hml]; rfl) (Steps.refl _) (a := b293) (argsL := [(.ref b281)]) (rest := [(.ref b293)]) (lenOf pd14 rfl) rfl (by show 2 * 0 + _ ≤ _; exact Nat.le_of_eq rfl) (hb hby at_251) (fun _ _ => ⟨rfl, e293, (by decide : 2 + 1 ≤ _), (by decide : 7 + 3 ≤ _)⟩)
  dsimp only [Pt.U, Pt.locs, Pt.cells, Pt.slots] at X299 l299 y299 z299 st299 hQ299
  subst l299 y299 z299
  obtain ⟨x300, x301, rfl, N299q, q299_K, q299_E, q299_c, q299_v, q299_g, q299_z, q299_V, q299_n⟩ := hQ299
  have N299 := Fr.app N290 N299q
  have K302 : Keep h0 T299.heap [] := K294.trans q299_K (allS (Or.inr sz_b293) all0)
  have ne_b281_x300 : b281 ≠ x300 := Nat.ne_of_lt (Nat.lt_of_lt_of_le f297.lt q299_z)
  have ne_b293_x300 : b293 ≠ x300 := Nat.ne_of_lt (Nat.lt_of_lt_of_le A293.lt q299_z)
  have p303 : Go p.tables e below _ (T299.setTop (mkF m 267 #[.val (.int p1), .val (.long q2), .second, .val (.int p3), .val (.int (3 : Int32)), .val (.int x103), .val (.int x107), .val (.int x111), .val (.int x115), .val (.int x119), .val (.int x123), .val (.ref b281), .val (.ref b293), .val (.int ((p3 &&& (2147483647 : Int32)) % (4 : Int32))), .unset, .unset, .unset] [])) := fun t_ k_ => (gcT p295 st299) t_ (by
   refine XS.astore X299.here hx rfl (hb hby at_254) rfl rfl (l' := #[.val (.int p1), .val (.long q2), .second, .val (.int p3), .val (.int (3 : Int32)), .val (.int x103), .val (.int x107), .val (.int x111), .val (.int x115), .val (.int x119), .val (.int x123), .val (.ref b281), .val (.ref b293), .unset, .unset, .unset, .unset]) rfl ?_
   refine XS.iloadN X299.here hx rfl (hb hby at_256) rfl ?_
   refine X299.ldcInt hx hown (mvT hZ (own_w hw 0 rfl)) (g := (mkF m 257 #[.val (.int p1), .val (.long q2), .second, .val (.int p3), .val (.int (3 : Int32)), .val (.int x103), .val (.int x107), .val (.int x111), .val (.int x115), .val (.int x119), .val (.int x123), .val (.ref b281), .val (.ref b293), .unset, .unset, .unset, .unset] [(.int p3)])) rfl (hb hby at_257) _ ?_
   refine XS.iand X299.here hx rfl (hb hby at_259) rfl ?_
   refine XS.iload X299.here hx rfl (hb hby at_260) rfl ?_
   refine XS.iconst X299.here hx rfl (hb hby at_262) ?_
   refine XS.iadd X299.here hx rfl (hb hby at_263) rfl ?_
   refine Jvm.RoadKit.iremM X299 hx rfl (hb hby at_264) rfl (by decide) ?_
   refine XS.istore X299.here hx rfl (hb hby at_265) rfl (l' := #[.val (.int p1), .val (.long q2), .second, .val (.int p3), .val (.int (3 : Int32)), .val (.int x103), .val (.int x107), .val (.int x111), .val (.int x115), .val (.int x119), .val (.int x123), .val (.ref b281), .val (.ref b293), .val (.int ((p3 &&& (2147483647 : Int32)) % (4 : Int32))), .unset, .unset, .unset]) rfl ?_
   exact k_)
  obtain ⟨ko, hko, hkz⟩ := own_modk p3 3 (by decide)
  have p304 : Go p.tables e below (s₁.setTop (entryFrame m #[(.int p1), (.long q2), (.int p3)] maxLocals)) (T299.setTop (mkF m 267 #[.val (.int p1), .val (.long q2), .second, .val (.int p3), .val (.int (3 : Int32)), .val (.int x103), .val (.int x107), .val (.int x111), .val (.int x115), .val (.int x119), .val (.int x123), .val (.ref b281), .val (.ref b293), .val (.int (Int32.ofNat ko)), .unset, .unset, .unset] [])) := by have z := p303; rw [← hkz]; exact z
  obtain ⟨T305, h305, X305, e305, E305, A305, D305, -, st305⟩ := newO X299 hx hZ hown (own_w hw 28 rfl) (own_w hw 29 rfl) (own_w hw 30 rfl) rfl (g := (mkF m 267 #[.val (.int p1), .val (.long q2), .second, .val (.int p3), .val (.int (3 : Int32)), .val (.int x103), .val (.int x107), .val (.int x111), .val (.int x115), .val (.int x119), .val (.int x123), .val (.ref b281), .val (.ref b293), .val (.int (Int32.ofNat ko)), .unset, .unset, .unset] [])) rfl (hb hby at_267) (by decide) (by decide)
  obtain ⟨b305, g305⟩ : ∃ z, z = T299.heap.size := ⟨_, rfl⟩
  rw [← g305] at A305 D305 st305
  have f306 := (f297.keep q299_K (ninS ne_b281_b293 nin0))
  have ne_b281_b305 : b281 ≠ b305 := Nat.ne_of_lt (Nat.lt_of_lt_of_le f306.lt (Nat.le_of_eq g305.symm))
  have ne_b293_b305 : b293 ≠ b305 := Nat.ne_of_lt (Nat.lt_of_lt_of_le q299_E.lt (Nat.le_of_eq g305.symm))
  have ne_x300_b305 : x300 ≠ b305 := Nat.ne_of_lt (Nat.lt_of_lt_of_le q299_V.lt (Nat.le_of_eq g305.symm))
  have ge_b305 : n0 ≤ b305 := Nat.le_trans (Nat.le_trans Z0 K302.1) (Nat.le_of_eq g305.symm)
  have sz_b305 : h0.size ≤ b305 := Nat.le_trans K302.1 (Nat.le_of_eq g305.symm)
  have K307 : Keep h0 h305 [] := K302.ext E305
  have F305_text : Fld Z h305 b305 "com/example/subsume/subsume/model/Lines" "text" "Ljava/lang/String;" .null := D305 (Or.inr (own_w hw 36 rfl)) (ty := (.object "java/lang/String")) (by decide)
  have F305_starts : Fld Z h305 b305 "com/example/subsume/subsume/model/Lines" "starts" "[I" .null := D305 (Or.inr (own_w hw 50 rfl)) (ty := (.array .int)) (by decide)
  have p308 : Go p.tables e below _ (T305.setTop (mkF m 273 #[.val (.int p1), .val (.long q2), .second, .val (.int p3), .val (.int (3 : Int32)), .val (.int x103), .val (.int x107), .val (.int x111), .val (.int x115), .val (.int x119), .val (.int x123), .val (.ref b281), .val (.ref b293), .val (.int (Int32.ofNat ko)), .unset, .unset, .unset] [(.ref b293), (.ref b305), (.ref b305)])) := fun t_ k_ => (gc p304 st305) t_ (by
   refine XS.dup X305.here hx rfl (hb hby at_270) rfl rfl ?_
   refine XS.aload X305.here hx rfl (hb hby at_271) rfl rfl ?_
   exact k_)
  have HBp : ∀ i, i < 3 → ∃ b : Int32, ([(.int (own_xl x103)), (.int (own_xl x107)), (.int (own_xl x111))] : List Value).getD ((Int32.ofNat i)).toNatClampNeg (.int (0 : Int32)) = .int b ∧ own_c8 b = own_at [x103, x107, x111] i := by
   intro i hi
   rcases (by omega : i = 0 ∨ i = 1 ∨ i = 2) with rfl | rfl | rfl
   ·exact ⟨_, rfl, own_l8 _ ra0 rb0⟩
   ·exact ⟨_, rfl, own_l8 _ ra1 rb1⟩
   ·exact ⟨_, rfl, own_l8 _ ra2 rb2⟩
  have f309 := (f306.ext E305)
  have f310 := (q299_E.ext E305)
  have f311 := (q299_V.ext E305)
  have f312 := ((f298.keep q299_K (allS ge_b293 all0)).ext E305)
  have f313 := (q299_c.ext E305)
  have f314 := (q299_v.ext E305)
  obtain ⟨_, _, ⟨T315, L315, k315, n315⟩, -, X315, ⟨Lc315, hQ315, l315, y315, z315⟩, st315⟩ := X305.specialBack hx (y := (⟨"com/example/subsume/subsume/model/Lines", "<init>", "(Ljava/lang/String;)V"⟩ : MethodName)) rfl hown (mvT hZ (own_w hw 31 rfl)) (mvT hZ (own_w hw 32 rfl)) (mvT hZ (own_w hw 33 rfl)) (by decide) (backOf (W := 1) (rm5_0 l Z a0 hw [] b305 b293 x300 x301 (3 : Int32) [(.int (own_xl x103)), (.int (own_xl x107)), (.int (own_xl x111))] [x103, x107, x111] 3 cs1 fm h305 n0 (Nat.le_trans Z0 K307.1) f312 G f310 f313 f314 f311 F305_starts F305_text A305 ge_b305 (Ne.symm ne_b293_b305) (Ne.symm ne_x300_b305) (by decide) (by decide) HBp rfl) hZ (own_w hw 33 rfl) (own_w hw 30 rfl) (by decide) (by decide)) (g := (mkF m 273 #[.val (.int p1), .val (.long q2), .second, .val (.int p3), .val (.int (3 : Int32)), .val (.int x103), .val (.int x107), .val (.int x111), .val (.int x115), .val (.int x119), .val (.int x123), .val (.ref b281), .val (.ref b293), .val (.int (Int32.ofNat ko)), .unset, .unset, .unset] [(.ref b293), (.ref b305), (.ref b305)])) rfl (by rw [hml]; rfl) (Steps.refl _) (a := b305) (argsL := [(.ref b293)]) (rest := [(.ref b305)]) (lenOf pd15 rfl) rfl (by show 2 * 0 + _ ≤ _; exact Nat.le_of_eq rfl) (hb hby at_273) (fun _ _ => ⟨rfl, e305, (by decide : 4 + 1 ≤ _), (by decide : 12 + 9 ≤ _)⟩)
  dsimp only [Pt.U, Pt.locs, Pt.cells, Pt.slots] at X315 l315 y315 z315 st315 hQ315
  subst l315 y315 z315
  obtain ⟨x316, x317, rfl, N315q, q315_K, q315_E, q315_t, q315_s, q315_V, q315_g, q315_z, q315_n⟩ := hQ315
  have N315 := Fr.app N299 N315q
  have K318 : Keep h0 T315.heap [] := K307.trans q315_K (allS (Or.inr sz_b305) all0)
  have ne_b281_x316 : b281 ≠ x316 := Nat.ne_of_lt (Nat.lt_of_lt_of_le f309.lt q315_z)
  have ne_b293_x316 : b293 ≠ x316 := Nat.ne_of_lt (Nat.lt_of_lt_of_le f310.lt q315_z)
  have ne_x300_x316 : x300 ≠ x316 := Nat.ne_of_lt (Nat.lt_of_lt_of_le f311.lt q315_z)
  have ne_b305_x316 : b305 ≠ x316 := Nat.ne_of_lt (Nat.lt_of_lt_of_le A305.lt q315_z)
  have p319 : Go p.tables e below _ (T315.setTop (mkF m 282 #[.val (.int p1), .val (.long q2), .second, .val (.int p3), .val (.int (3 : Int32)), .val (.int x103), .val (.int x107), .val (.int x111), .val (.int x115), .val (.int x119), .val (.int x123), .val (.ref b281), .val (.ref b293), .val (.int (Int32.ofNat ko)), .val (.ref b305), .unset, .unset] [(.int (Int32.ofNat ko)), (.ref b305)])) := fun t_ k_ => (gcT p308 st315) t_ (by
   refine XS.astore X315.here hx rfl (hb hby at_276) rfl rfl (l' := #[.val (.int p1), .val (.long q2), .second, .val (.int p3), .val (.int (3 : Int32)), .val (.int x103), .val (.int x107), .val (.int x111), .val (.int x115), .val (.int x119), .val (.int x123), .val (.ref b281), .val (.ref b293), .val (.int (Int32.ofNat ko)), .val (.ref b305), .unset, .unset]) rfl ?_
   refine XS.aload X315.here hx rfl (hb hby at_278) rfl rfl ?_
   refine XS.iload X315.here hx rfl (hb hby at_280) rfl ?_
   exact k_)
  obtain ⟨cq320, kq320, q320a, q320b, q320c⟩ := isOf hZ rfl q315_E
  obtain ⟨_, _, ⟨T320, L320, k320, n320⟩, -, X320, ⟨Lc320, hQ320, l320, y320, z320⟩, st320⟩ := X315.virtualBack hx (y := (⟨"com/example/subsume/subsume/model/Lines", "line", "(I)I"⟩ : MethodName)) (z := (⟨"com/example/subsume/subsume/model/Lines", "line", "(I)I"⟩ : MethodName)) hown (mvT hZ (own_w hw 51 rfl)) (mvT hZ (own_w hw 52 rfl)) (notFace_of_selects (args := #[]) (mvT hZ (own_w hw 54 rfl))) (mvT hZ (own_w hw 54 rfl)) (mvT hZ (own_w hw 53 rfl)) (by decide) (backOf (W := 0) (rm8 l Z a0 hw [] b305 x316 x317 [x103, x107, x111] 3 ko T315.heap n0 (Nat.le_trans Z0 K318.1) q315_s q315_V (by decide) hko) hZ (own_w hw 55 rfl) (own_w hw 30 rfl) (by decide) (by decide)) q320a q320c (g := (mkF m 282 #[.val (.int p1), .val (.long q2), .second, .val (.int p3), .val (.int (3 : Int32)), .val (.int x103), .val (.int x107), .val (.int x111), .val (.int x115), .val (.int x119), .val (.int x123), .val (.ref b281), .val (.ref b293), .val (.int (Int32.ofNat ko)), .val (.ref b305), .unset, .unset] [(.int (Int32.ofNat ko)), (.ref b305)])) rfl (by rw [hml]; rfl) (Steps.refl _) (argsL := [(.int (Int32.ofNat ko))]) (rest := []) (lenOf pd16 rfl) rfl (by show 2 * 0 + _ ≤ _; exact Nat.le_of_eq rfl) (hb hby at_282) (fun _ _ => ⟨rfl, rfl, (by decide : 5 + 0 ≤ _), (by decide : 21 + 0 ≤ _)⟩)
  dsimp only [Pt.U, Pt.locs, Pt.cells, Pt.slots] at X320 l320 y320 z320 st320 hQ320
  subst l320 y320 z320
  obtain ⟨rfl, N320q, q320_hh⟩ := hQ320
  have N320 := Fr.app N315 N320q
  have p321 : Go p.tables e below _ (T320.setTop (mkF m 292 #[.val (.int p1), .val (.long q2), .second, .val (.int p3), .val (.int (3 : Int32)), .val (.int x103), .val (.int x107), .val (.int x111), .val (.int x115), .val (.int x119), .val (.int x123), .val (.ref b281), .val (.ref b293), .val (.int (Int32.ofNat ko)), .val (.ref b305), .val (.int (Int32.ofNat (own_nl [x103, x107, x111] ko + 1))), .unset] [(.int (Int32.ofNat ko)), (.int (0 : Int32)), (.int x103)])) := fun t_ k_ => (gcT p319 st320) t_ (by
   refine XS.istore X320.here hx rfl (hb hby at_285) rfl (l' := #[.val (.int p1), .val (.long q2), .second, .val (.int p3), .val (.int (3 : Int32)), .val (.int x103), .val (.int x107), .val (.int x111), .val (.int x115), .val (.int x119), .val (.int x123), .val (.ref b281), .val (.ref b293), .val (.int (Int32.ofNat ko)), .val (.ref b305), .val (.int (Int32.ofNat (own_nl [x103, x107, x111] ko + 1))), .unset]) rfl ?_
   refine XS.iload X320.here hx rfl (hb hby at_287) rfl ?_
   refine XS.iconst X320.here hx rfl (hb hby at_289) ?_
   refine XS.iload X320.here hx rfl (hb hby at_290) rfl ?_
   exact k_)
  obtain ⟨_, _, ⟨T322, L322, k322, n322⟩, -, X322, ⟨Lc322, hQ322, l322, y322, z322⟩, st322⟩ := Jvm.LawKit.callS X320 hx (y := (⟨"com/example/subsume/subsume/model/LinesLinePinLaw", "nl", "(CII)I"⟩ : MethodName)) hown (mvT hZ (own_w hw 63 rfl)) (mvT hZ (own_w hw 64 rfl)) (mvT hZ (own_w hw 3 rfl)) (mvT hZ (own_w hw 65 rfl)) (by decide) (backOf (W := 0) (rm11 l Z a0 hw [] x103 0 ko T315.heap n0 (Nat.le_trans Z0 K318.1) (by decide) (by omega)) hZ (own_w hw 65 rfl) (own_w hw 3 rfl) (by decide) (by decide)) (g := (mkF m 292 #[.val (.int p1), .val (.long q2), .second, .val (.int p3), .val (.int (3 : Int32)), .val (.int x103), .val (.int x107), .val (.int x111), .val (.int x115), .val (.int x119), .val (.int x123), .val (.ref b281), .val (.ref b293), .val (.int (Int32.ofNat ko)), .val (.ref b305), .val (.int (Int32.ofNat (own_nl [x103, x107, x111] ko + 1))), .unset] [(.int (Int32.ofNat ko)), (.int (0 : Int32)), (.int x103)])) rfl (by rw [hml]; rfl) (argsL := [(.int x103), (.int (0 : Int32)), (.int (Int32.ofNat ko))]) (rest := []) (lenOf pd17 rfl) rfl (by show 2 * 0 + _ ≤ _; exact Nat.le_of_eq rfl) (hb hby at_292) (fun _ _ => ⟨rfl, q320_hh, (by decide : 5 + 0 ≤ _), (by decide : 21 + 0 ≤ _)⟩)
  dsimp only [Pt.U, Pt.locs, Pt.cells, Pt.slots] at X322 l322 y322 z322 st322 hQ322
  subst l322 y322 z322
  obtain ⟨rfl, N322q, q322_hh⟩ := hQ322
  have N322 := Fr.app N320 N322q
  have p323 : Go p.tables e below _ (T322.setTop (mkF m 300 #[.val (.int p1), .val (.long q2), .second, .val (.int p3), .val (.int (3 : Int32)), .val (.int x103), .val (.int x107), .val (.int x111), .val (.int x115), .val (.int x119), .val (.int x123), .val (.ref b281), .val (.ref b293), .val (.int (Int32.ofNat ko)), .val (.ref b305), .val (.int (Int32.ofNat (own_nl [x103, x107, x111] ko + 1))), .unset] [(.int (Int32.ofNat ko)), (.int (1 : Int32)), (.int x107), (.int (own_n1 x103 0 ko))])) := fun t_ k_ => (gc p321 st322) t_ (by
   refine XS.iload X322.here hx rfl (hb hby at_295) rfl ?_
   refine XS.iconst X322.here hx rfl (hb hby at_297) ?_
   refine XS.iload X322.here hx rfl (hb hby at_298) rfl ?_
   exact k_)
  obtain ⟨_, _, ⟨T324, L324, k324, n324⟩, -, X324, ⟨Lc324, hQ324, l324, y324, z324⟩, st324⟩ := Jvm.LawKit.callS X322 hx (y := (⟨"com/example/subsume/subsume/model/LinesLinePinLaw", "nl", "(CII)I"⟩ : MethodName)) hown (mvT hZ (own_w hw 63 rfl)) (mvT hZ (own_w hw 64 rfl)) (mvT hZ (own_w hw 3 rfl)) (mvT hZ (own_w hw 65 rfl)) (by decide) (backOf (W := 1) (rm11 l Z a0 hw [] x107 1 ko T315.heap n0 (Nat.le_trans Z0 K318.1) (by decide) (by omega)) hZ (own_w hw 65 rfl) (own_w hw 3 rfl) (by decide) (by decide)) (g := (mkF m 300 #[.val (.int p1), .val (.long q2), .second, .val (.int p3), .val (.int (3 : Int32)), .val (.int x103), .val (.int x107), .val (.int x111), .val (.int x115), .val (.int x119), .val (.int x123), .val (.ref b281), .val (.ref b293), .val (.int (Int32.ofNat ko)), .val (.ref b305), .val (.int (Int32.ofNat (own_nl [x103, x107, x111] ko + 1))), .unset] [(.int (Int32.ofNat ko)), (.int (1 : Int32)), (.int x107), (.int (own_n1 x103 0 ko))])) rfl (by rw [hml]; rfl) (argsL := [(.int x107), (.int (1 : Int32)), (.int (Int32.ofNat ko))]) (rest := [(.int (own_n1 x103 0 ko))]) (lenOf pd17 rfl) rfl (by show 2 * 0 + _ ≤ _; exact Nat.le_of_eq rfl) (hb hby at_300) (fun _ _ => ⟨rfl, q322_hh, (by decide : 5 + 0 ≤ _), (by decide : 21 + 0 ≤ _)⟩)
  dsimp only [Pt.U, Pt.locs, Pt.cells, Pt.slots] at X324 l324 y324 z324 st324 hQ324
  subst l324 y324 z324
  obtain ⟨rfl, N324q, q324_hh⟩ := hQ324
  have N324 := Fr.app N322 N324q
  have p325 : Go p.tables e below _ (T324.setTop (mkF m 309 #[.val (.int p1), .val (.long q2), .second, .val (.int p3), .val (.int (3 : Int32)), .val (.int x103), .val (.int x107), .val (.int x111), .val (.int x115), .val (.int x119), .val (.int x123), .val (.ref b281), .val (.ref b293), .val (.int (Int32.ofNat ko)), .val (.ref b305), .val (.int (Int32.ofNat (own_nl [x103, x107, x111] ko + 1))), .unset] [(.int (Int32.ofNat ko)), (.int (2 : Int32)), (.int x111), (.int ((own_n1 x103 0 ko) + (own_n1 x107 1 ko)))])) := fun t_ k_ => (gc p323 st324) t_ (by
   refine XS.iadd X324.here hx rfl (hb hby at_303) rfl ?_
   refine XS.iload X324.here hx rfl (hb hby at_304) rfl ?_
   refine XS.iconst X324.here hx rfl (hb hby at_306) ?_
   refine XS.iload X324.here hx rfl (hb hby at_307) rfl ?_
   exact k_)
  obtain ⟨_, _, ⟨T326, L326, k326, n326⟩, -, X326, ⟨Lc326, hQ326, l326, y326, z326⟩, st326⟩ := Jvm.LawKit.callS X324 hx (y := (⟨"com/example/subsume/subsume/model/LinesLinePinLaw", "nl", "(CII)I"⟩ : MethodName)) hown (mvT hZ (own_w hw 63 rfl)) (mvT hZ (own_w hw 64 rfl)) (mvT hZ (own_w hw 3 rfl)) (mvT hZ (own_w hw 65 rfl)) (by decide) (backOf (W := 1) (rm11 l Z a0 hw [] x111 2 ko T315.heap n0 (Nat.le_trans Z0 K318.1) (by decide) (by omega)) hZ (own_w hw 65 rfl) (own_w hw 3 rfl) (by decide) (by decide)) (g := (mkF m 309 #[.val (.int p1), .val (.long q2), .second, .val (.int p3), .val (.int (3 : Int32)), .val (.int x103), .val (.int x107), .val (.int x111), .val (.int x115), .val (.int x119), .val (.int x123), .val (.ref b281), .val (.ref b293), .val (.int (Int32.ofNat ko)), .val (.ref b305), .val (.int (Int32.ofNat (own_nl [x103, x107, x111] ko + 1))), .unset] [(.int (Int32.ofNat ko)), (.int (2 : Int32)), (.int x111), (.int ((own_n1 x103 0 ko) + (own_n1 x107 1 ko)))])) rfl (by rw [hml]; rfl) (argsL := [(.int x111), (.int (2 : Int32)), (.int (Int32.ofNat ko))]) (rest := [(.int ((own_n1 x103 0 ko) + (own_n1 x107 1 ko)))]) (lenOf pd17 rfl) rfl (by show 2 * 0 + _ ≤ _; exact Nat.le_of_eq rfl) (hb hby at_309) (fun _ _ => ⟨rfl, q324_hh, (by decide : 5 + 0 ≤ _), (by decide : 21 + 0 ≤ _)⟩)
  dsimp only [Pt.U, Pt.locs, Pt.cells, Pt.slots] at X326 l326 y326 z326 st326 hQ326
  subst l326 y326 z326
  obtain ⟨rfl, N326q, q326_hh⟩ := hQ326
  have N326 := Fr.app N324 N326q
  have p327 : Go p.tables e below _ (T326.setTop (mkF m 318 #[.val (.int p1), .val (.long q2), .second, .val (.int p3), .val (.int (3 : Int32)), .val (.int x103), .val (.int x107), .val (.int x111), .val (.int x115), .val (.int x119), .val (.int x123), .val (.ref b281), .val (.ref b293), .val (.int (Int32.ofNat ko)), .val (.ref b305), .val (.int (Int32.ofNat (own_nl [x103, x107, x111] ko + 1))), .unset] [(.int (Int32.ofNat ko)), (.int (3 : Int32)), (.int x115), (.int (((own_n1 x103 0 ko) + (own_n1 x107 1 ko)) + (own_n1 x111 2 ko)))])) := fun t_ k_ => (gc p325 st326) t_ (by
   refine XS.iadd X326.here hx rfl (hb hby at_312) rfl ?_
   refine XS.iload X326.here hx rfl (hb hby at_313) rfl ?_
   refine XS.iconst X326.here hx rfl (hb hby at_315) ?_
   refine XS.iload X326.here hx rfl (hb hby at_316) rfl ?_
   exact k_)
  obtain ⟨_, _, ⟨T328, L328, k328, n328⟩, -, X328, ⟨Lc328, hQ328, l328, y328, z328⟩, st328⟩ := Jvm.LawKit.callS X326 hx (y := (⟨"com/example/subsume/subsume/model/LinesLinePinLaw", "nl", "(CII)I"⟩ : MethodName)) hown (mvT hZ (own_w hw 63 rfl)) (mvT hZ (own_w hw 64 rfl)) (mvT hZ (own_w hw 3 rfl)) (mvT hZ (own_w hw 65 rfl)) (by decide) (backOf (W := 1) (rm11 l Z a0 hw [] x115 3 ko T315.heap n0 (Nat.le_trans Z0 K318.1) (by decide) (by omega)) hZ (own_w hw 65 rfl) (own_w hw 3 rfl) (by decide) (by decide)) (g := (mkF m 318 #[.val (.int p1), .val (.long q2), .second, .val (.int p3), .val (.int (3 : Int32)), .val (.int x103), .val (.int x107), .val (.int x111), .val (.int x115), .val (.int x119), .val (.int x123), .val (.ref b281), .val (.ref b293), .val (.int (Int32.ofNat ko)), .val (.ref b305), .val (.int (Int32.ofNat (own_nl [x103, x107, x111] ko + 1))), .unset] [(.int (Int32.ofNat ko)), (.int (3 : Int32)), (.int x115), (.int (((own_n1 x103 0 ko) + (own_n1 x107 1 ko)) + (own_n1 x111 2 ko)))])) rfl (by rw [hml]; rfl) (argsL := [(.int x115), (.int (3 : Int32)), (.int (Int32.ofNat ko))]) (rest := [(.int (((own_n1 x103 0 ko) + (own_n1 x107 1 ko)) + (own_n1 x111 2 ko)))]) (lenOf pd17 rfl) rfl (by show 2 * 0 + _ ≤ _; exact Nat.le_of_eq rfl) (hb hby at_318) (fun _ _ => ⟨rfl, q326_hh, (by decide : 5 + 0 ≤ _), (by decide : 21 + 0 ≤ _)⟩)
  dsimp only [Pt.U, Pt.locs, Pt.cells, Pt.slots] at X328 l328 y328 z328 st328 hQ328
  subst l328 y328 z328
  obtain ⟨rfl, N328q, q328_hh⟩ := hQ328
  have N328 := Fr.app N326 N328q
  have p329 : Go p.tables e below _ (T328.setTop (mkF m 327 #[.val (.int p1), .val (.long q2), .second, .val (.int p3), .val (.int (3 : Int32)), .val (.int x103), .val (.int x107), .val (.int x111), .val (.int x115), .val (.int x119), .val (.int x123), .val (.ref b281), .val (.ref b293), .val (.int (Int32.ofNat ko)), .val (.ref b305), .val (.int (Int32.ofNat (own_nl [x103, x107, x111] ko + 1))), .unset] [(.int (Int32.ofNat ko)), (.int (4 : Int32)), (.int x119), (.int ((((own_n1 x103 0 ko) + (own_n1 x107 1 ko)) + (own_n1 x111 2 ko)) + (own_n1 x115 3 ko)))])) := fun t_ k_ => (gc p327 st328) t_ (by
   refine XS.iadd X328.here hx rfl (hb hby at_321) rfl ?_
   refine XS.iload X328.here hx rfl (hb hby at_322) rfl ?_
   refine XS.iconst X328.here hx rfl (hb hby at_324) ?_
   refine XS.iload X328.here hx rfl (hb hby at_325) rfl ?_
   exact k_)
  obtain ⟨_, _, ⟨T330, L330, k330, n330⟩, -, X330, ⟨Lc330, hQ330, l330, y330, z330⟩, st330⟩ := Jvm.LawKit.callS X328 hx (y := (⟨"com/example/subsume/subsume/model/LinesLinePinLaw", "nl", "(CII)I"⟩ : MethodName)) hown (mvT hZ (own_w hw 63 rfl)) (mvT hZ (own_w hw 64 rfl)) (mvT hZ (own_w hw 3 rfl)) (mvT hZ (own_w hw 65 rfl)) (by decide) (backOf (W := 1) (rm11 l Z a0 hw [] x119 4 ko T315.heap n0 (Nat.le_trans Z0 K318.1) (by decide) (by omega)) hZ (own_w hw 65 rfl) (own_w hw 3 rfl) (by decide) (by decide)) (g := (mkF m 327 #[.val (.int p1), .val (.long q2), .second, .val (.int p3), .val (.int (3 : Int32)), .val (.int x103), .val (.int x107), .val (.int x111), .val (.int x115), .val (.int x119), .val (.int x123), .val (.ref b281), .val (.ref b293), .val (.int (Int32.ofNat ko)), .val (.ref b305), .val (.int (Int32.ofNat (own_nl [x103, x107, x111] ko + 1))), .unset] [(.int (Int32.ofNat ko)), (.int (4 : Int32)), (.int x119), (.int ((((own_n1 x103 0 ko) + (own_n1 x107 1 ko)) + (own_n1 x111 2 ko)) + (own_n1 x115 3 ko)))])) rfl (by rw [hml]; rfl) (argsL := [(.int x119), (.int (4 : Int32)), (.int (Int32.ofNat ko))]) (rest := [(.int ((((own_n1 x103 0 ko) + (own_n1 x107 1 ko)) + (own_n1 x111 2 ko)) + (own_n1 x115 3 ko)))]) (lenOf pd17 rfl) rfl (by show 2 * 0 + _ ≤ _; exact Nat.le_of_eq rfl) (hb hby at_327) (fun _ _ => ⟨rfl, q328_hh, (by decide : 5 + 0 ≤ _), (by decide : 21 + 0 ≤ _)⟩)
  dsimp only [Pt.U, Pt.locs, Pt.cells, Pt.slots] at X330 l330 y330 z330 st330 hQ330
  subst l330 y330 z330
  obtain ⟨rfl, N330q, q330_hh⟩ := hQ330
  have N330 := Fr.app N328 N330q
  have p331 : Go p.tables e below _ (T330.setTop (mkF m 336 #[.val (.int p1), .val (.long q2), .second, .val (.int p3), .val (.int (3 : Int32)), .val (.int x103), .val (.int x107), .val (.int x111), .val (.int x115), .val (.int x119), .val (.int x123), .val (.ref b281), .val (.ref b293), .val (.int (Int32.ofNat ko)), .val (.ref b305), .val (.int (Int32.ofNat (own_nl [x103, x107, x111] ko + 1))), .unset] [(.int (Int32.ofNat ko)), (.int (5 : Int32)), (.int x123), (.int (((((own_n1 x103 0 ko) + (own_n1 x107 1 ko)) + (own_n1 x111 2 ko)) + (own_n1 x115 3 ko)) + (own_n1 x119 4 ko)))])) := fun t_ k_ => (gc p329 st330) t_ (by
   refine XS.iadd X330.here hx rfl (hb hby at_330) rfl ?_
   refine XS.iload X330.here hx rfl (hb hby at_331) rfl ?_
   refine XS.iconst X330.here hx rfl (hb hby at_333) ?_
   refine XS.iload X330.here hx rfl (hb hby at_334) rfl ?_
   exact k_)
  obtain ⟨_, _, ⟨T332, L332, k332, n332⟩, -, X332, ⟨Lc332, hQ332, l332, y332, z332⟩, st332⟩ := Jvm.LawKit.callS X330 hx (y := (⟨"com/example/subsume/subsume/model/LinesLinePinLaw", "nl", "(CII)I"⟩ : MethodName)) hown (mvT hZ (own_w hw 63 rfl)) (mvT hZ (own_w hw 64 rfl)) (mvT hZ (own_w hw 3 rfl)) (mvT hZ (own_w hw 65 rfl)) (by decide) (backOf (W := 1) (rm11 l Z a0 hw [] x123 5 ko T315.heap n0 (Nat.le_trans Z0 K318.1) (by decide) (by omega)) hZ (own_w hw 65 rfl) (own_w hw 3 rfl) (by decide) (by decide)) (g := (mkF m 336 #[.val (.int p1), .val (.long q2), .second, .val (.int p3), .val (.int (3 : Int32)), .val (.int x103), .val (.int x107), .val (.int x111), .val (.int x115), .val (.int x119), .val (.int x123), .val (.ref b281), .val (.ref b293), .val (.int (Int32.ofNat ko)), .val (.ref b305), .val (.int (Int32.ofNat (own_nl [x103, x107, x111] ko + 1))), .unset] [(.int (Int32.ofNat ko)), (.int (5 : Int32)), (.int x123), (.int (((((own_n1 x103 0 ko) + (own_n1 x107 1 ko)) + (own_n1 x111 2 ko)) + (own_n1 x115 3 ko)) + (own_n1 x119 4 ko)))])) rfl (by rw [hml]; rfl) (argsL := [(.int x123), (.int (5 : Int32)), (.int (Int32.ofNat ko))]) (rest := [(.int (((((own_n1 x103 0 ko) + (own_n1 x107 1 ko)) + (own_n1 x111 2 ko)) + (own_n1 x115 3 ko)) + (own_n1 x119 4 ko)))]) (lenOf pd17 rfl) rfl (by show 2 * 0 + _ ≤ _; exact Nat.le_of_eq rfl) (hb hby at_336) (fun _ _ => ⟨rfl, q330_hh, (by decide : 5 + 0 ≤ _), (by decide : 21 + 0 ≤ _)⟩)
  dsimp only [Pt.U, Pt.locs, Pt.cells, Pt.slots] at X332 l332 y332 z332 st332 hQ332
  subst l332 y332 z332
  obtain ⟨rfl, N332q, q332_hh⟩ := hQ332
  have N332 := Fr.app N330 N332q
  have p333 : Go p.tables e below _ (T332.setTop (mkF m 348 #[.val (.int p1), .val (.long q2), .second, .val (.int p3), .val (.int (3 : Int32)), .val (.int x103), .val (.int x107), .val (.int x111), .val (.int x115), .val (.int x119), .val (.int x123), .val (.ref b281), .val (.ref b293), .val (.int (Int32.ofNat ko)), .val (.ref b305), .val (.int (Int32.ofNat (own_nl [x103, x107, x111] ko + 1))), .val (.int ((((((own_n1 x103 0 ko) + (own_n1 x107 1 ko)) + (own_n1 x111 2 ko)) + (own_n1 x115 3 ko)) + (own_n1 x119 4 ko)) + (own_n1 x123 5 ko)))] [(.int ((1 : Int32) + ((((((own_n1 x103 0 ko) + (own_n1 x107 1 ko)) + (own_n1 x111 2 ko)) + (own_n1 x115 3 ko)) + (own_n1 x119 4 ko)) + (own_n1 x123 5 ko)))), (.int (Int32.ofNat (own_nl [x103, x107, x111] ko + 1)))])) := fun t_ k_ => (gc p331 st332) t_ (by
   refine XS.iadd X332.here hx rfl (hb hby at_339) rfl ?_
   refine XS.istore X332.here hx rfl (hb hby at_340) rfl (l' := #[.val (.int p1), .val (.long q2), .second, .val (.int p3), .val (.int (3 : Int32)), .val (.int x103), .val (.int x107), .val (.int x111), .val (.int x115), .val (.int x119), .val (.int x123), .val (.ref b281), .val (.ref b293), .val (.int (Int32.ofNat ko)), .val (.ref b305), .val (.int (Int32.ofNat (own_nl [x103, x107, x111] ko + 1))), .val (.int ((((((own_n1 x103 0 ko) + (own_n1 x107 1 ko)) + (own_n1 x111 2 ko)) + (own_n1 x115 3 ko)) + (own_n1 x119 4 ko)) + (own_n1 x123 5 ko)))]) rfl ?_
   refine XS.iload X332.here hx rfl (hb hby at_342) rfl ?_
   refine XS.iconst X332.here hx rfl (hb hby at_344) ?_
   refine XS.iload X332.here hx rfl (hb hby at_345) rfl ?_
   refine XS.iadd X332.here hx rfl (hb hby at_347) rfl ?_
   exact k_)
  have c334 : ((Int32.ofNat (own_nl [x103, x107, x111] ko + 1)) = ((1 : Int32) + ((((((own_n1 x103 0 ko) + (own_n1 x107 1 ko)) + (own_n1 x111 2 ko)) + (own_n1 x115 3 ko)) + (own_n1 x119 4 ko)) + (own_n1 x123 5 ko)))) := own_fin3 x103 x107 x111 x115 x119 x123 ko hko
  have p335 : Go p.tables e below _ (T332.setTop (mkF m 356 #[.val (.int p1), .val (.long q2), .second, .val (.int p3), .val (.int (3 : Int32)), .val (.int x103), .val (.int x107), .val (.int x111), .val (.int x115), .val (.int x119), .val (.int x123), .val (.ref b281), .val (.ref b293), .val (.int (Int32.ofNat ko)), .val (.ref b305), .val (.int (Int32.ofNat (own_nl [x103, x107, x111] ko + 1))), .val (.int ((((((own_n1 x103 0 ko) + (own_n1 x107 1 ko)) + (own_n1 x111 2 ko)) + (own_n1 x115 3 ko)) + (own_n1 x119 4 ko)) + (own_n1 x123 5 ko)))] [(.int (1 : Int32))])) := fun t_ k_ => p333 t_ (by
   refine XS.icmpNo X332.here hx rfl (hb hby at_348) rfl (teq c334).2 ?_
   refine XS.iconst X332.here hx rfl (hb hby at_351) ?_
   refine XS.goto X332.here hx rfl (pc0 := 352) (pc' := 356) rfl (hb hby at_352) (by decide) (by decide) ?_
   exact k_)
  obtain ⟨fs, hr, hrun, hended, hW, hsame⟩ := X332.leave (v := some (.int (1 : Int32))) (fun h => by rw [Bd.returns] at h; cases h)
  refine ⟨_, _, p335 _ (retN X332 hx (t := .boolean) Bd.returns (by simp) (hb hby at_356) hr), hrun, hended, _, _, rfl, ?_, ReturnedEndW.of_narrow ⟨_, rfl⟩ hW (hsame.mono (by decide) (by decide))⟩
  show Q0 Z p1 q2 p3 cs1 fm h0 n0 _ T332.heap _
  rw [q332_hh]
  exact ⟨rfl, N332⟩
 ·have p336 : Go p.tables e below (s₁.setTop (entryFrame m #[(.int p1), (.long q2), (.int p3)] maxLocals)) (T122.setTop (mkF m 51 #[.val (.int p1), .val (.long q2), .second, .val (.int p3), .val (.int (4 : Int32)), .val (.int x103), .val (.int x107), .val (.int x111), .val (.int x115), .val (.int x119), .val (.int x123), .unset, .unset, .unset, .unset, .unset, .unset] [])) := by have z := p125; rw [ro] at z; exact z
  have p337 : Go p.tables e below _ (T122.setTop (mkF m 143 #[.val (.int p1), .val (.long q2), .second, .val (.int p3), .val (.int (4 : Int32)), .val (.int x103), .val (.int x107), .val (.int x111), .val (.int x115), .val (.int x119), .val (.int x123), .unset, .unset, .unset, .unset, .unset, .unset] [(.int (4 : Int32))])) := fun t_ k_ => p336 t_ (by
   refine XS.iload X122.here hx rfl (hb hby at_51) rfl ?_
   refine XS.ifYes X122.here hx rfl (pc0 := 53) (pc' := 64) rfl (hb hby at_53) rfl ((if0 _ _).trans (feq (by decide : ¬ ((4 : Int32) = (0 : Int32)))).2) (by decide) (by decide) ?_
   refine XS.iload X122.here hx rfl (hb hby at_64) rfl ?_
   refine XS.iconst X122.here hx rfl (hb hby at_66) ?_
   refine XS.icmpYes X122.here hx rfl (pc0 := 67) (pc' := 83) rfl (hb hby at_67) rfl (feq (by decide : ¬ ((4 : Int32) = (1 : Int32)))).2 (by decide) (by decide) ?_
   refine XS.iload X122.here hx rfl (hb hby at_83) rfl ?_
   refine XS.iconst X122.here hx rfl (hb hby at_85) ?_
   refine XS.icmpYes X122.here hx rfl (pc0 := 86) (pc' := 107) rfl (hb hby at_86) rfl (feq (by decide : ¬ ((4 : Int32) = (2 : Int32)))).2 (by decide) (by decide) ?_
   refine XS.iload X122.here hx rfl (hb hby at_107) rfl ?_
   refine XS.iconst X122.here hx rfl (hb hby at_109) ?_
   refine XS.icmpYes X122.here hx rfl (pc0 := 110) (pc' := 136) rfl (hb hby at_110) rfl (feq (by decide : ¬ ((4 : Int32) = (3 : Int32)))).2 (by decide) (by decide) ?_
   refine XS.iload X122.here hx rfl (hb hby at_136) rfl ?_
   refine XS.iconst X122.here hx rfl (hb hby at_138) ?_
   refine XS.icmpNo X122.here hx rfl (hb hby at_139) rfl (teq (by decide : ((4 : Int32) = (4 : Int32)))).2 ?_
   refine XS.iconst X122.here hx rfl (hb hby at_142) ?_
   exact k_)
  obtain ⟨T338, h338, k338, X338, e338, E338, A338, st338⟩ := newP X122 hx hZ (own_w hw 6 rfl) q122_hh (g := (mkF m 143 #[.val (.int p1), .val (.long q2), .second, .val (.int p3), .val (.int (4 : Int32)), .val (.int x103), .val (.int x107), .val (.int x111), .val (.int x115), .val (.int x119), .val (.int x123), .unset, .unset, .unset, .unset, .unset, .unset] [(.int (4 : Int32))])) rfl (hb hby at_143) rfl (by decide) (cap := 4) (by decide) (by decide) (by decide) (by decide)
  obtain ⟨b338, g338⟩ : ∃ z, z = h0.size := ⟨_, rfl⟩
  rw [← g338] at A338 st338
  have ge_b338 : n0 ≤ b338 := Nat.le_trans (Nat.le_trans Z0 (Keep.refl h0 []).1) (Nat.le_of_eq g338.symm)
  have sz_b338 : h0.size ≤ b338 := Nat.le_trans (Keep.refl h0 []).1 (Nat.le_of_eq g338.symm)
  have K339 : Keep h0 h338 [] := (Keep.refl h0 []).ext E338
  have V338 : Arv Z h338 b338 k338 .char (4 : Int32) [(.int (0 : Int32)), (.int (0 : Int32)), (.int (0 : Int32)), (.int (0 : Int32))] (.int (0 : Int32)) := (Arv.new A338 (by decide)).pad (pad_rep [] (.int (0 : Int32)) 4)
  have p340 : Go p.tables e below _ (T338.setTop (mkF m 149 #[.val (.int p1), .val (.long q2), .second, .val (.int p3), .val (.int (4 : Int32)), .val (.int x103), .val (.int x107), .val (.int x111), .val (.int x115), .val (.int x119), .val (.int x123), .unset, .unset, .unset, .unset, .unset, .unset] [(.int x103), (.int (0 : Int32)), (.ref b338), (.ref b338)])) := fun t_ k_ => (gc p337 st338) t_ (by
   refine XS.dup X338.here hx rfl (hb hby at_145) rfl rfl ?_
   refine XS.iconst X338.here hx rfl (hb hby at_146) ?_
   refine XS.iload X338.here hx rfl (hb hby at_147) rfl ?_
   exact k_)
  obtain ⟨cl341, Ar341, q341, S341, Ng341, H341, G341⟩ := id V338
  have hin341 := inb_of S341 (j := (0 : Int32)) ⟨by decide, by decide⟩
  obtain ⟨T341, h341, X341, e341, W341, st341⟩ := stC X338 hx hZ e338 Ar341 (j := (0 : Int32)) hin341 (g := (mkF m 149 #[.val (.int p1), .val (.long q2), .second, .val (.int p3), .val (.int (4 : Int32)), .val (.int x103), .val (.int x107), .val (.int x111), .val (.int x115), .val (.int x119), .val (.int x123), .unset, .unset, .unset, .unset, .unset, .unset] [(.int x103), (.int (0 : Int32)), (.ref b338), (.ref b338)])) rfl rfl (hb hby at_149)
  have K342 : Keep h0 h341 [] := K339.wr W341 (Or.inr sz_b338)
  have N341 := Fr.snoc X341 N122 ge_b338
  have V341 : Arv Z h341 b338 k338 .char (4 : Int32) [(.int (nar .char x103)), (.int (0 : Int32)), (.int (0 : Int32)), (.int (0 : Int32))] (.int (0 : Int32)) := Arv.set Ar341 q341 S341 Ng341 H341 G341 (fits_nar_char _) W341 0 rfl (Nat.le_of_ble_eq_true rfl)
  have p343 : Go p.tables e below _ (T341.setTop (mkF m 154 #[.val (.int p1), .val (.long q2), .second, .val (.int p3), .val (.int (4 : Int32)), .val (.int x103), .val (.int x107), .val (.int x111), .val (.int x115), .val (.int x119), .val (.int x123), .unset, .unset, .unset, .unset, .unset, .unset] [(.int x107), (.int (1 : Int32)), (.ref b338), (.ref b338)])) := fun t_ k_ => (gc p340 st341) t_ (by
   refine XS.dup X341.here hx rfl (hb hby at_150) rfl rfl ?_
   refine XS.iconst X341.here hx rfl (hb hby at_151) ?_
   refine XS.iload X341.here hx rfl (hb hby at_152) rfl ?_
   exact k_)
  obtain ⟨cl344, Ar344, q344, S344, Ng344, H344, G344⟩ := id V341
  have hin344 := inb_of S344 (j := (1 : Int32)) ⟨by decide, by decide⟩
  obtain ⟨T344, h344, X344, e344, W344, st344⟩ := stC X341 hx hZ e341 Ar344 (j := (1 : Int32)) hin344 (g := (mkF m 154 #[.val (.int p1), .val (.long q2), .second, .val (.int p3), .val (.int (4 : Int32)), .val (.int x103), .val (.int x107), .val (.int x111), .val (.int x115), .val (.int x119), .val (.int x123), .unset, .unset, .unset, .unset, .unset, .unset] [(.int x107), (.int (1 : Int32)), (.ref b338), (.ref b338)])) rfl rfl (hb hby at_154)
  have K345 : Keep h0 h344 [] := K342.wr W344 (Or.inr sz_b338)
  have N344 := Fr.snoc X344 N341 ge_b338
  have V344 : Arv Z h344 b338 k338 .char (4 : Int32) [(.int (nar .char x103)), (.int (nar .char x107)), (.int (0 : Int32)), (.int (0 : Int32))] (.int (0 : Int32)) := Arv.set Ar344 q344 S344 Ng344 H344 G344 (fits_nar_char _) W344 1 rfl (Nat.le_of_ble_eq_true rfl)
  have p346 : Go p.tables e below _ (T344.setTop (mkF m 159 #[.val (.int p1), .val (.long q2), .second, .val (.int p3), .val (.int (4 : Int32)), .val (.int x103), .val (.int x107), .val (.int x111), .val (.int x115), .val (.int x119), .val (.int x123), .unset, .unset, .unset, .unset, .unset, .unset] [(.int x111), (.int (2 : Int32)), (.ref b338), (.ref b338)])) := fun t_ k_ => (gc p343 st344) t_ (by
   refine XS.dup X344.here hx rfl (hb hby at_155) rfl rfl ?_
   refine XS.iconst X344.here hx rfl (hb hby at_156) ?_
   refine XS.iload X344.here hx rfl (hb hby at_157) rfl ?_
   exact k_)
  obtain ⟨cl347, Ar347, q347, S347, Ng347, H347, G347⟩ := id V344
  have hin347 := inb_of S347 (j := (2 : Int32)) ⟨by decide, by decide⟩
  obtain ⟨T347, h347, X347, e347, W347, st347⟩ := stC X344 hx hZ e344 Ar347 (j := (2 : Int32)) hin347 (g := (mkF m 159 #[.val (.int p1), .val (.long q2), .second, .val (.int p3), .val (.int (4 : Int32)), .val (.int x103), .val (.int x107), .val (.int x111), .val (.int x115), .val (.int x119), .val (.int x123), .unset, .unset, .unset, .unset, .unset, .unset] [(.int x111), (.int (2 : Int32)), (.ref b338), (.ref b338)])) rfl rfl (hb hby at_159)
  have K348 : Keep h0 h347 [] := K345.wr W347 (Or.inr sz_b338)
  have N347 := Fr.snoc X347 N344 ge_b338
  have V347 : Arv Z h347 b338 k338 .char (4 : Int32) [(.int (nar .char x103)), (.int (nar .char x107)), (.int (nar .char x111)), (.int (0 : Int32))] (.int (0 : Int32)) := Arv.set Ar347 q347 S347 Ng347 H347 G347 (fits_nar_char _) W347 2 rfl (Nat.le_of_ble_eq_true rfl)
  have p349 : Go p.tables e below _ (T347.setTop (mkF m 164 #[.val (.int p1), .val (.long q2), .second, .val (.int p3), .val (.int (4 : Int32)), .val (.int x103), .val (.int x107), .val (.int x111), .val (.int x115), .val (.int x119), .val (.int x123), .unset, .unset, .unset, .unset, .unset, .unset] [(.int x115), (.int (3 : Int32)), (.ref b338), (.ref b338)])) := fun t_ k_ => (gc p346 st347) t_ (by
   refine XS.dup X347.here hx rfl (hb hby at_160) rfl rfl ?_
   refine XS.iconst X347.here hx rfl (hb hby at_161) ?_
   refine XS.iload X347.here hx rfl (hb hby at_162) rfl ?_
   exact k_)
  obtain ⟨cl350, Ar350, q350, S350, Ng350, H350, G350⟩ := id V347
  have hin350 := inb_of S350 (j := (3 : Int32)) ⟨by decide, by decide⟩
  obtain ⟨T350, h350, X350, e350, W350, st350⟩ := stC X347 hx hZ e347 Ar350 (j := (3 : Int32)) hin350 (g := (mkF m 164 #[.val (.int p1), .val (.long q2), .second, .val (.int p3), .val (.int (4 : Int32)), .val (.int x103), .val (.int x107), .val (.int x111), .val (.int x115), .val (.int x119), .val (.int x123), .unset, .unset, .unset, .unset, .unset, .unset] [(.int x115), (.int (3 : Int32)), (.ref b338), (.ref b338)])) rfl rfl (hb hby at_164)
  have K351 : Keep h0 h350 [] := K348.wr W350 (Or.inr sz_b338)
  have N350 := Fr.snoc X350 N347 ge_b338
  have V350 : Arv Z h350 b338 k338 .char (4 : Int32) [(.int (nar .char x103)), (.int (nar .char x107)), (.int (nar .char x111)), (.int (nar .char x115))] (.int (0 : Int32)) := Arv.set Ar350 q350 S350 Ng350 H350 G350 (fits_nar_char _) W350 3 rfl (Nat.le_of_ble_eq_true rfl)
  have p352 : Go p.tables e below _ (T350.setTop (mkF m 245 #[.val (.int p1), .val (.long q2), .second, .val (.int p3), .val (.int (4 : Int32)), .val (.int x103), .val (.int x107), .val (.int x111), .val (.int x115), .val (.int x119), .val (.int x123), .val (.ref b338), .unset, .unset, .unset, .unset, .unset] [])) := fun t_ k_ => (gc p349 st350) t_ (by
   refine XS.astore X350.here hx rfl (hb hby at_165) rfl rfl (l' := #[.val (.int p1), .val (.long q2), .second, .val (.int p3), .val (.int (4 : Int32)), .val (.int x103), .val (.int x107), .val (.int x111), .val (.int x115), .val (.int x119), .val (.int x123), .val (.ref b338), .unset, .unset, .unset, .unset, .unset]) rfl ?_
   refine XS.goto X350.here hx rfl (pc0 := 167) (pc' := 245) rfl (hb hby at_167) (by decide) (by decide) ?_
   exact k_)
  obtain ⟨T353, h353, X353, e353, E353, A353, D353, -, st353⟩ := newO X350 hx hZ hown (own_w hw 7 rfl) (own_w hw 8 rfl) (own_w hw 9 rfl) e350 (g := (mkF m 245 #[.val (.int p1), .val (.long q2), .second, .val (.int p3), .val (.int (4 : Int32)), .val (.int x103), .val (.int x107), .val (.int x111), .val (.int x115), .val (.int x119), .val (.int x123), .val (.ref b338), .unset, .unset, .unset, .unset, .unset] [])) rfl (hb hby at_245) (by decide) (by decide)
  obtain ⟨b353, g353⟩ : ∃ z, z = h350.size := ⟨_, rfl⟩
  rw [← g353] at A353 D353 st353
  have ne_b338_b353 : b338 ≠ b353 := Nat.ne_of_lt (Nat.lt_of_lt_of_le V350.lt (Nat.le_of_eq g353.symm))
  have ge_b353 : n0 ≤ b353 := Nat.le_trans (Nat.le_trans Z0 K351.1) (Nat.le_of_eq g353.symm)
  have sz_b353 : h0.size ≤ b353 := Nat.le_trans K351.1 (Nat.le_of_eq g353.symm)
  have K354 : Keep h0 h353 [] := K351.ext E353
  have F353_value : Fld Z h353 b353 "java/lang/String" "value" "[B" .null := D353 (Or.inr (own_w hw 22 rfl)) (ty := (.array .byte)) (by decide)
  have F353_coder : Fld Z h353 b353 "java/lang/String" "coder" "B" (.int (0 : Int32)) := D353 (Or.inr (own_w hw 23 rfl)) (ty := .byte) (by decide)
  have p355 : Go p.tables e below _ (T353.setTop (mkF m 251 #[.val (.int p1), .val (.long q2), .second, .val (.int p3), .val (.int (4 : Int32)), .val (.int x103), .val (.int x107), .val (.int x111), .val (.int x115), .val (.int x119), .val (.int x123), .val (.ref b338), .unset, .unset, .unset, .unset, .unset] [(.ref b338), (.ref b353), (.ref b353)])) := fun t_ k_ => (gc p352 st353) t_ (by
   refine XS.dup X353.here hx rfl (hb hby at_248) rfl rfl ?_
   refine XS.aload X353.here hx rfl (hb hby at_249) rfl rfl ?_
   exact k_)
  have f356 := (V350.ext E353)
  have f357 : Arv Z h353 b338 k338 .char (4 : Int32) [(.int x103), (.int x107), (.int x111), (.int x115)] (.int (0 : Int32)) := by have z := f356; rw [own_narc _ ra0 (own_le255 rb0), own_narc _ ra1 (own_le255 rb1), own_narc _ ra2 (own_le255 rb2), own_narc _ ra3 (own_le255 rb3)] at z; exact z
  have f358 := ((((((O1.ext E338).wr W341 ge_b338).wr W344 ge_b338).wr W347 ge_b338).wr W350 ge_b338).ext E353)
  obtain ⟨_, _, ⟨T359, L359, k359, n359⟩, -, X359, ⟨Lc359, hQ359, l359, y359, z359⟩, st359⟩ := X353.specialBack hx (y := (⟨"java/lang/String", "<init>", "([C)V"⟩ : MethodName)) rfl hown (mvT hZ (own_w hw 10 rfl)) (mvT hZ (own_w hw 11 rfl)) (mvT hZ (own_w hw 12 rfl)) (by decide) (backOf (W := 1) (rm2_L4 l Z a0 hw [] b353 b338 k338 x103 x107 x111 x115 cs1 fm h353 n0 (Nat.le_trans Z0 K354.1) f358 G F353_coder F353_value A353 f357 (Ne.symm ne_b338_b353) ge_b353 rb0 rb1 rb2 rb3) hZ (own_w hw 12 rfl) (own_w hw 9 rfl) (by decide) (by decide)) (g := (mkF m 251 #[.val (.int p1), .val (.long q2), .second, .val (.int p3), .val (.int (4 : Int32)), .val (.int x103), .val (.int x107), .val (.int x111), .val (.int x115), .val (.int x119), .val (.int x123), .val (.ref b338), .unset, .unset, .unset, .unset, .unset] [(.ref b338), (.ref b353), (.ref b353)])) rfl (by rw [hml]; rfl) (Steps.refl _) (a := b353) (argsL := [(.ref b338)]) (rest := [(.ref b353)]) (lenOf pd14 rfl) rfl (by show 2 * 0 + _ ≤ _; exact Nat.le_of_eq rfl) (hb hby at_251) (fun _ _ => ⟨rfl, e353, (by decide : 2 + 1 ≤ _), (by decide : 8 + 4 ≤ _)⟩)
  dsimp only [Pt.U, Pt.locs, Pt.cells, Pt.slots] at X359 l359 y359 z359 st359 hQ359
  subst l359 y359 z359
  obtain ⟨x360, x361, rfl, N359q, q359_K, q359_E, q359_c, q359_v, q359_g, q359_z, q359_V, q359_n⟩ := hQ359
  have N359 := Fr.app N350 N359q
  have K362 : Keep h0 T359.heap [] := K354.trans q359_K (allS (Or.inr sz_b353) all0)
  have ne_b338_x360 : b338 ≠ x360 := Nat.ne_of_lt (Nat.lt_of_lt_of_le f357.lt q359_z)
  have ne_b353_x360 : b353 ≠ x360 := Nat.ne_of_lt (Nat.lt_of_lt_of_le A353.lt q359_z)
  have p363 : Go p.tables e below _ (T359.setTop (mkF m 267 #[.val (.int p1), .val (.long q2), .second, .val (.int p3), .val (.int (4 : Int32)), .val (.int x103), .val (.int x107), .val (.int x111), .val (.int x115), .val (.int x119), .val (.int x123), .val (.ref b338), .val (.ref b353), .val (.int ((p3 &&& (2147483647 : Int32)) % (5 : Int32))), .unset, .unset, .unset] [])) := fun t_ k_ => (gcT p355 st359) t_ (by
   refine XS.astore X359.here hx rfl (hb hby at_254) rfl rfl (l' := #[.val (.int p1), .val (.long q2), .second, .val (.int p3), .val (.int (4 : Int32)), .val (.int x103), .val (.int x107), .val (.int x111), .val (.int x115), .val (.int x119), .val (.int x123), .val (.ref b338), .val (.ref b353), .unset, .unset, .unset, .unset]) rfl ?_
   refine XS.iloadN X359.here hx rfl (hb hby at_256) rfl ?_
   refine X359.ldcInt hx hown (mvT hZ (own_w hw 0 rfl)) (g := (mkF m 257 #[.val (.int p1), .val (.long q2), .second, .val (.int p3), .val (.int (4 : Int32)), .val (.int x103), .val (.int x107), .val (.int x111), .val (.int x115), .val (.int x119), .val (.int x123), .val (.ref b338), .val (.ref b353), .unset, .unset, .unset, .unset] [(.int p3)])) rfl (hb hby at_257) _ ?_
   refine XS.iand X359.here hx rfl (hb hby at_259) rfl ?_
   refine XS.iload X359.here hx rfl (hb hby at_260) rfl ?_
   refine XS.iconst X359.here hx rfl (hb hby at_262) ?_
   refine XS.iadd X359.here hx rfl (hb hby at_263) rfl ?_
   refine Jvm.RoadKit.iremM X359 hx rfl (hb hby at_264) rfl (by decide) ?_
   refine XS.istore X359.here hx rfl (hb hby at_265) rfl (l' := #[.val (.int p1), .val (.long q2), .second, .val (.int p3), .val (.int (4 : Int32)), .val (.int x103), .val (.int x107), .val (.int x111), .val (.int x115), .val (.int x119), .val (.int x123), .val (.ref b338), .val (.ref b353), .val (.int ((p3 &&& (2147483647 : Int32)) % (5 : Int32))), .unset, .unset, .unset]) rfl ?_
   exact k_)
  obtain ⟨ko, hko, hkz⟩ := own_modk p3 4 (by decide)
  have p364 : Go p.tables e below (s₁.setTop (entryFrame m #[(.int p1), (.long q2), (.int p3)] maxLocals)) (T359.setTop (mkF m 267 #[.val (.int p1), .val (.long q2), .second, .val (.int p3), .val (.int (4 : Int32)), .val (.int x103), .val (.int x107), .val (.int x111), .val (.int x115), .val (.int x119), .val (.int x123), .val (.ref b338), .val (.ref b353), .val (.int (Int32.ofNat ko)), .unset, .unset, .unset] [])) := by have z := p363; rw [← hkz]; exact z
  obtain ⟨T365, h365, X365, e365, E365, A365, D365, -, st365⟩ := newO X359 hx hZ hown (own_w hw 28 rfl) (own_w hw 29 rfl) (own_w hw 30 rfl) rfl (g := (mkF m 267 #[.val (.int p1), .val (.long q2), .second, .val (.int p3), .val (.int (4 : Int32)), .val (.int x103), .val (.int x107), .val (.int x111), .val (.int x115), .val (.int x119), .val (.int x123), .val (.ref b338), .val (.ref b353), .val (.int (Int32.ofNat ko)), .unset, .unset, .unset] [])) rfl (hb hby at_267) (by decide) (by decide)
  obtain ⟨b365, g365⟩ : ∃ z, z = T359.heap.size := ⟨_, rfl⟩
  rw [← g365] at A365 D365 st365
  have f366 := (f357.keep q359_K (ninS ne_b338_b353 nin0))
  have ne_b338_b365 : b338 ≠ b365 := Nat.ne_of_lt (Nat.lt_of_lt_of_le f366.lt (Nat.le_of_eq g365.symm))
  have ne_b353_b365 : b353 ≠ b365 := Nat.ne_of_lt (Nat.lt_of_lt_of_le q359_E.lt (Nat.le_of_eq g365.symm))
  have ne_x360_b365 : x360 ≠ b365 := Nat.ne_of_lt (Nat.lt_of_lt_of_le q359_V.lt (Nat.le_of_eq g365.symm))
  have ge_b365 : n0 ≤ b365 := Nat.le_trans (Nat.le_trans Z0 K362.1) (Nat.le_of_eq g365.symm)
  have sz_b365 : h0.size ≤ b365 := Nat.le_trans K362.1 (Nat.le_of_eq g365.symm)
  have K367 : Keep h0 h365 [] := K362.ext E365
  have F365_text : Fld Z h365 b365 "com/example/subsume/subsume/model/Lines" "text" "Ljava/lang/String;" .null := D365 (Or.inr (own_w hw 36 rfl)) (ty := (.object "java/lang/String")) (by decide)
  have F365_starts : Fld Z h365 b365 "com/example/subsume/subsume/model/Lines" "starts" "[I" .null := D365 (Or.inr (own_w hw 50 rfl)) (ty := (.array .int)) (by decide)
  have p368 : Go p.tables e below _ (T365.setTop (mkF m 273 #[.val (.int p1), .val (.long q2), .second, .val (.int p3), .val (.int (4 : Int32)), .val (.int x103), .val (.int x107), .val (.int x111), .val (.int x115), .val (.int x119), .val (.int x123), .val (.ref b338), .val (.ref b353), .val (.int (Int32.ofNat ko)), .unset, .unset, .unset] [(.ref b353), (.ref b365), (.ref b365)])) := fun t_ k_ => (gc p364 st365) t_ (by
   refine XS.dup X365.here hx rfl (hb hby at_270) rfl rfl ?_
   refine XS.aload X365.here hx rfl (hb hby at_271) rfl rfl ?_
   exact k_)
  have HBp : ∀ i, i < 4 → ∃ b : Int32, ([(.int (own_xl x103)), (.int (own_xl x107)), (.int (own_xl x111)), (.int (own_xl x115))] : List Value).getD ((Int32.ofNat i)).toNatClampNeg (.int (0 : Int32)) = .int b ∧ own_c8 b = own_at [x103, x107, x111, x115] i := by
   intro i hi
   rcases (by omega : i = 0 ∨ i = 1 ∨ i = 2 ∨ i = 3) with rfl | rfl | rfl | rfl
   ·exact ⟨_, rfl, own_l8 _ ra0 rb0⟩
   ·exact ⟨_, rfl, own_l8 _ ra1 rb1⟩
   ·exact ⟨_, rfl, own_l8 _ ra2 rb2⟩
   ·exact ⟨_, rfl, own_l8 _ ra3 rb3⟩
  have f369 := (f366.ext E365)
  have f370 := (q359_E.ext E365)
  have f371 := (q359_V.ext E365)
  have f372 := ((f358.keep q359_K (allS ge_b353 all0)).ext E365)
  have f373 := (q359_c.ext E365)
  have f374 := (q359_v.ext E365)
  obtain ⟨_, _, ⟨T375, L375, k375, n375⟩, -, X375, ⟨Lc375, hQ375, l375, y375, z375⟩, st375⟩ := X365.specialBack hx (y := (⟨"com/example/subsume/subsume/model/Lines", "<init>", "(Ljava/lang/String;)V"⟩ : MethodName)) rfl hown (mvT hZ (own_w hw 31 rfl)) (mvT hZ (own_w hw 32 rfl)) (mvT hZ (own_w hw 33 rfl)) (by decide) (backOf (W := 1) (rm5_0 l Z a0 hw [] b365 b353 x360 x361 (4 : Int32) [(.int (own_xl x103)), (.int (own_xl x107)), (.int (own_xl x111)), (.int (own_xl x115))] [x103, x107, x111, x115] 4 cs1 fm h365 n0 (Nat.le_trans Z0 K367.1) f372 G f370 f373 f374 f371 F365_starts F365_text A365 ge_b365 (Ne.symm ne_b353_b365) (Ne.symm ne_x360_b365) (by decide) (by decide) HBp rfl) hZ (own_w hw 33 rfl) (own_w hw 30 rfl) (by decide) (by decide)) (g := (mkF m 273 #[.val (.int p1), .val (.long q2), .second, .val (.int p3), .val (.int (4 : Int32)), .val (.int x103), .val (.int x107), .val (.int x111), .val (.int x115), .val (.int x119), .val (.int x123), .val (.ref b338), .val (.ref b353), .val (.int (Int32.ofNat ko)), .unset, .unset, .unset] [(.ref b353), (.ref b365), (.ref b365)])) rfl (by rw [hml]; rfl) (Steps.refl _) (a := b365) (argsL := [(.ref b353)]) (rest := [(.ref b365)]) (lenOf pd15 rfl) rfl (by show 2 * 0 + _ ≤ _; exact Nat.le_of_eq rfl) (hb hby at_273) (fun _ _ => ⟨rfl, e365, (by decide : 4 + 1 ≤ _), (by decide : 14 + 9 ≤ _)⟩)
  dsimp only [Pt.U, Pt.locs, Pt.cells, Pt.slots] at X375 l375 y375 z375 st375 hQ375
  subst l375 y375 z375
  obtain ⟨x376, x377, rfl, N375q, q375_K, q375_E, q375_t, q375_s, q375_V, q375_g, q375_z, q375_n⟩ := hQ375
  have N375 := Fr.app N359 N375q
  have K378 : Keep h0 T375.heap [] := K367.trans q375_K (allS (Or.inr sz_b365) all0)
  have ne_b338_x376 : b338 ≠ x376 := Nat.ne_of_lt (Nat.lt_of_lt_of_le f369.lt q375_z)
  have ne_b353_x376 : b353 ≠ x376 := Nat.ne_of_lt (Nat.lt_of_lt_of_le f370.lt q375_z)
  have ne_x360_x376 : x360 ≠ x376 := Nat.ne_of_lt (Nat.lt_of_lt_of_le f371.lt q375_z)
  have ne_b365_x376 : b365 ≠ x376 := Nat.ne_of_lt (Nat.lt_of_lt_of_le A365.lt q375_z)
  have p379 : Go p.tables e below _ (T375.setTop (mkF m 282 #[.val (.int p1), .val (.long q2), .second, .val (.int p3), .val (.int (4 : Int32)), .val (.int x103), .val (.int x107), .val (.int x111), .val (.int x115), .val (.int x119), .val (.int x123), .val (.ref b338), .val (.ref b353), .val (.int (Int32.ofNat ko)), .val (.ref b365), .unset, .unset] [(.int (Int32.ofNat ko)), (.ref b365)])) := fun t_ k_ => (gcT p368 st375) t_ (by
   refine XS.astore X375.here hx rfl (hb hby at_276) rfl rfl (l' := #[.val (.int p1), .val (.long q2), .second, .val (.int p3), .val (.int (4 : Int32)), .val (.int x103), .val (.int x107), .val (.int x111), .val (.int x115), .val (.int x119), .val (.int x123), .val (.ref b338), .val (.ref b353), .val (.int (Int32.ofNat ko)), .val (.ref b365), .unset, .unset]) rfl ?_
   refine XS.aload X375.here hx rfl (hb hby at_278) rfl rfl ?_
   refine XS.iload X375.here hx rfl (hb hby at_280) rfl ?_
   exact k_)
  obtain ⟨cq380, kq380, q380a, q380b, q380c⟩ := isOf hZ rfl q375_E
  obtain ⟨_, _, ⟨T380, L380, k380, n380⟩, -, X380, ⟨Lc380, hQ380, l380, y380, z380⟩, st380⟩ := X375.virtualBack hx (y := (⟨"com/example/subsume/subsume/model/Lines", "line", "(I)I"⟩ : MethodName)) (z := (⟨"com/example/subsume/subsume/model/Lines", "line", "(I)I"⟩ : MethodName)) hown (mvT hZ (own_w hw 51 rfl)) (mvT hZ (own_w hw 52 rfl)) (notFace_of_selects (args := #[]) (mvT hZ (own_w hw 54 rfl))) (mvT hZ (own_w hw 54 rfl)) (mvT hZ (own_w hw 53 rfl)) (by decide) (backOf (W := 0) (rm8 l Z a0 hw [] b365 x376 x377 [x103, x107, x111, x115] 4 ko T375.heap n0 (Nat.le_trans Z0 K378.1) q375_s q375_V (by decide) hko) hZ (own_w hw 55 rfl) (own_w hw 30 rfl) (by decide) (by decide)) q380a q380c (g := (mkF m 282 #[.val (.int p1), .val (.long q2), .second, .val (.int p3), .val (.int (4 : Int32)), .val (.int x103), .val (.int x107), .val (.int x111), .val (.int x115), .val (.int x119), .val (.int x123), .val (.ref b338), .val (.ref b353), .val (.int (Int32.ofNat ko)), .val (.ref b365), .unset, .unset] [(.int (Int32.ofNat ko)), (.ref b365)])) rfl (by rw [hml]; rfl) (Steps.refl _) (argsL := [(.int (Int32.ofNat ko))]) (rest := []) (lenOf pd16 rfl) rfl (by show 2 * 0 + _ ≤ _; exact Nat.le_of_eq rfl) (hb hby at_282) (fun _ _ => ⟨rfl, rfl, (by decide : 5 + 0 ≤ _), (by decide : 23 + 0 ≤ _)⟩)
  dsimp only [Pt.U, Pt.locs, Pt.cells, Pt.slots] at X380 l380 y380 z380 st380 hQ380
  subst l380 y380 z380
  obtain ⟨rfl, N380q, q380_hh⟩ := hQ380
  have N380 := Fr.app N375 N380q
  have p381 : Go p.tables e below _ (T380.setTop (mkF m 292 #[.val (.int p1), .val (.long q2), .second, .val (.int p3), .val (.int (4 : Int32)), .val (.int x103), .val (.int x107), .val (.int x111), .val (.int x115), .val (.int x119), .val (.int x123), .val (.ref b338), .val (.ref b353), .val (.int (Int32.ofNat ko)), .val (.ref b365), .val (.int (Int32.ofNat (own_nl [x103, x107, x111, x115] ko + 1))), .unset] [(.int (Int32.ofNat ko)), (.int (0 : Int32)), (.int x103)])) := fun t_ k_ => (gcT p379 st380) t_ (by
   refine XS.istore X380.here hx rfl (hb hby at_285) rfl (l' := #[.val (.int p1), .val (.long q2), .second, .val (.int p3), .val (.int (4 : Int32)), .val (.int x103), .val (.int x107), .val (.int x111), .val (.int x115), .val (.int x119), .val (.int x123), .val (.ref b338), .val (.ref b353), .val (.int (Int32.ofNat ko)), .val (.ref b365), .val (.int (Int32.ofNat (own_nl [x103, x107, x111, x115] ko + 1))), .unset]) rfl ?_
   refine XS.iload X380.here hx rfl (hb hby at_287) rfl ?_
   refine XS.iconst X380.here hx rfl (hb hby at_289) ?_
   refine XS.iload X380.here hx rfl (hb hby at_290) rfl ?_
   exact k_)
  obtain ⟨_, _, ⟨T382, L382, k382, n382⟩, -, X382, ⟨Lc382, hQ382, l382, y382, z382⟩, st382⟩ := Jvm.LawKit.callS X380 hx (y := (⟨"com/example/subsume/subsume/model/LinesLinePinLaw", "nl", "(CII)I"⟩ : MethodName)) hown (mvT hZ (own_w hw 63 rfl)) (mvT hZ (own_w hw 64 rfl)) (mvT hZ (own_w hw 3 rfl)) (mvT hZ (own_w hw 65 rfl)) (by decide) (backOf (W := 0) (rm11 l Z a0 hw [] x103 0 ko T375.heap n0 (Nat.le_trans Z0 K378.1) (by decide) (by omega)) hZ (own_w hw 65 rfl) (own_w hw 3 rfl) (by decide) (by decide)) (g := (mkF m 292 #[.val (.int p1), .val (.long q2), .second, .val (.int p3), .val (.int (4 : Int32)), .val (.int x103), .val (.int x107), .val (.int x111), .val (.int x115), .val (.int x119), .val (.int x123), .val (.ref b338), .val (.ref b353), .val (.int (Int32.ofNat ko)), .val (.ref b365), .val (.int (Int32.ofNat (own_nl [x103, x107, x111, x115] ko + 1))), .unset] [(.int (Int32.ofNat ko)), (.int (0 : Int32)), (.int x103)])) rfl (by rw [hml]; rfl) (argsL := [(.int x103), (.int (0 : Int32)), (.int (Int32.ofNat ko))]) (rest := []) (lenOf pd17 rfl) rfl (by show 2 * 0 + _ ≤ _; exact Nat.le_of_eq rfl) (hb hby at_292) (fun _ _ => ⟨rfl, q380_hh, (by decide : 5 + 0 ≤ _), (by decide : 23 + 0 ≤ _)⟩)
  dsimp only [Pt.U, Pt.locs, Pt.cells, Pt.slots] at X382 l382 y382 z382 st382 hQ382
  subst l382 y382 z382
  obtain ⟨rfl, N382q, q382_hh⟩ := hQ382
  have N382 := Fr.app N380 N382q
  have p383 : Go p.tables e below _ (T382.setTop (mkF m 300 #[.val (.int p1), .val (.long q2), .second, .val (.int p3), .val (.int (4 : Int32)), .val (.int x103), .val (.int x107), .val (.int x111), .val (.int x115), .val (.int x119), .val (.int x123), .val (.ref b338), .val (.ref b353), .val (.int (Int32.ofNat ko)), .val (.ref b365), .val (.int (Int32.ofNat (own_nl [x103, x107, x111, x115] ko + 1))), .unset] [(.int (Int32.ofNat ko)), (.int (1 : Int32)), (.int x107), (.int (own_n1 x103 0 ko))])) := fun t_ k_ => (gc p381 st382) t_ (by
   refine XS.iload X382.here hx rfl (hb hby at_295) rfl ?_
   refine XS.iconst X382.here hx rfl (hb hby at_297) ?_
   refine XS.iload X382.here hx rfl (hb hby at_298) rfl ?_
   exact k_)
  obtain ⟨_, _, ⟨T384, L384, k384, n384⟩, -, X384, ⟨Lc384, hQ384, l384, y384, z384⟩, st384⟩ := Jvm.LawKit.callS X382 hx (y := (⟨"com/example/subsume/subsume/model/LinesLinePinLaw", "nl", "(CII)I"⟩ : MethodName)) hown (mvT hZ (own_w hw 63 rfl)) (mvT hZ (own_w hw 64 rfl)) (mvT hZ (own_w hw 3 rfl)) (mvT hZ (own_w hw 65 rfl)) (by decide) (backOf (W := 1) (rm11 l Z a0 hw [] x107 1 ko T375.heap n0 (Nat.le_trans Z0 K378.1) (by decide) (by omega)) hZ (own_w hw 65 rfl) (own_w hw 3 rfl) (by decide) (by decide)) (g := (mkF m 300 #[.val (.int p1), .val (.long q2), .second, .val (.int p3), .val (.int (4 : Int32)), .val (.int x103), .val (.int x107), .val (.int x111), .val (.int x115), .val (.int x119), .val (.int x123), .val (.ref b338), .val (.ref b353), .val (.int (Int32.ofNat ko)), .val (.ref b365), .val (.int (Int32.ofNat (own_nl [x103, x107, x111, x115] ko + 1))), .unset] [(.int (Int32.ofNat ko)), (.int (1 : Int32)), (.int x107), (.int (own_n1 x103 0 ko))])) rfl (by rw [hml]; rfl) (argsL := [(.int x107), (.int (1 : Int32)), (.int (Int32.ofNat ko))]) (rest := [(.int (own_n1 x103 0 ko))]) (lenOf pd17 rfl) rfl (by show 2 * 0 + _ ≤ _; exact Nat.le_of_eq rfl) (hb hby at_300) (fun _ _ => ⟨rfl, q382_hh, (by decide : 5 + 0 ≤ _), (by decide : 23 + 0 ≤ _)⟩)
  dsimp only [Pt.U, Pt.locs, Pt.cells, Pt.slots] at X384 l384 y384 z384 st384 hQ384
  subst l384 y384 z384
  obtain ⟨rfl, N384q, q384_hh⟩ := hQ384
  have N384 := Fr.app N382 N384q
  have p385 : Go p.tables e below _ (T384.setTop (mkF m 309 #[.val (.int p1), .val (.long q2), .second, .val (.int p3), .val (.int (4 : Int32)), .val (.int x103), .val (.int x107), .val (.int x111), .val (.int x115), .val (.int x119), .val (.int x123), .val (.ref b338), .val (.ref b353), .val (.int (Int32.ofNat ko)), .val (.ref b365), .val (.int (Int32.ofNat (own_nl [x103, x107, x111, x115] ko + 1))), .unset] [(.int (Int32.ofNat ko)), (.int (2 : Int32)), (.int x111), (.int ((own_n1 x103 0 ko) + (own_n1 x107 1 ko)))])) := fun t_ k_ => (gc p383 st384) t_ (by
   refine XS.iadd X384.here hx rfl (hb hby at_303) rfl ?_
   refine XS.iload X384.here hx rfl (hb hby at_304) rfl ?_
   refine XS.iconst X384.here hx rfl (hb hby at_306) ?_
   refine XS.iload X384.here hx rfl (hb hby at_307) rfl ?_
   exact k_)
  obtain ⟨_, _, ⟨T386, L386, k386, n386⟩, -, X386, ⟨Lc386, hQ386, l386, y386, z386⟩, st386⟩ := Jvm.LawKit.callS X384 hx (y := (⟨"com/example/subsume/subsume/model/LinesLinePinLaw", "nl", "(CII)I"⟩ : MethodName)) hown (mvT hZ (own_w hw 63 rfl)) (mvT hZ (own_w hw 64 rfl)) (mvT hZ (own_w hw 3 rfl)) (mvT hZ (own_w hw 65 rfl)) (by decide) (backOf (W := 1) (rm11 l Z a0 hw [] x111 2 ko T375.heap n0 (Nat.le_trans Z0 K378.1) (by decide) (by omega)) hZ (own_w hw 65 rfl) (own_w hw 3 rfl) (by decide) (by decide)) (g := (mkF m 309 #[.val (.int p1), .val (.long q2), .second, .val (.int p3), .val (.int (4 : Int32)), .val (.int x103), .val (.int x107), .val (.int x111), .val (.int x115), .val (.int x119), .val (.int x123), .val (.ref b338), .val (.ref b353), .val (.int (Int32.ofNat ko)), .val (.ref b365), .val (.int (Int32.ofNat (own_nl [x103, x107, x111, x115] ko + 1))), .unset] [(.int (Int32.ofNat ko)), (.int (2 : Int32)), (.int x111), (.int ((own_n1 x103 0 ko) + (own_n1 x107 1 ko)))])) rfl (by rw [hml]; rfl) (argsL := [(.int x111), (.int (2 : Int32)), (.int (Int32.ofNat ko))]) (rest := [(.int ((own_n1 x103 0 ko) + (own_n1 x107 1 ko)))]) (lenOf pd17 rfl) rfl (by show 2 * 0 + _ ≤ _; exact Nat.le_of_eq rfl) (hb hby at_309) (fun _ _ => ⟨rfl, q384_hh, (by decide : 5 + 0 ≤ _), (by decide : 23 + 0 ≤ _)⟩)
  dsimp only [Pt.U, Pt.locs, Pt.cells, Pt.slots] at X386 l386 y386 z386 st386 hQ386
  subst l386 y386 z386
  obtain ⟨rfl, N386q, q386_hh⟩ := hQ386
  have N386 := Fr.app N384 N386q
  have p387 : Go p.tables e below _ (T386.setTop (mkF m 318 #[.val (.int p1), .val (.long q2), .second, .val (.int p3), .val (.int (4 : Int32)), .val (.int x103), .val (.int x107), .val (.int x111), .val (.int x115), .val (.int x119), .val (.int x123), .val (.ref b338), .val (.ref b353), .val (.int (Int32.ofNat ko)), .val (.ref b365), .val (.int (Int32.ofNat (own_nl [x103, x107, x111, x115] ko + 1))), .unset] [(.int (Int32.ofNat ko)), (.int (3 : Int32)), (.int x115), (.int (((own_n1 x103 0 ko) + (own_n1 x107 1 ko)) + (own_n1 x111 2 ko)))])) := fun t_ k_ => (gc p385 st386) t_ (by
   refine XS.iadd X386.here hx rfl (hb hby at_312) rfl ?_
   refine XS.iload X386.here hx rfl (hb hby at_313) rfl ?_
   refine XS.iconst X386.here hx rfl (hb hby at_315) ?_
   refine XS.iload X386.here hx rfl (hb hby at_316) rfl ?_
   exact k_)
  obtain ⟨_, _, ⟨T388, L388, k388, n388⟩, -, X388, ⟨Lc388, hQ388, l388, y388, z388⟩, st388⟩ := Jvm.LawKit.callS X386 hx (y := (⟨"com/example/subsume/subsume/model/LinesLinePinLaw", "nl", "(CII)I"⟩ : MethodName)) hown (mvT hZ (own_w hw 63 rfl)) (mvT hZ (own_w hw 64 rfl)) (mvT hZ (own_w hw 3 rfl)) (mvT hZ (own_w hw 65 rfl)) (by decide) (backOf (W := 1) (rm11 l Z a0 hw [] x115 3 ko T375.heap n0 (Nat.le_trans Z0 K378.1) (by decide) (by omega)) hZ (own_w hw 65 rfl) (own_w hw 3 rfl) (by decide) (by decide)) (g := (mkF m 318 #[.val (.int p1), .val (.long q2), .second, .val (.int p3), .val (.int (4 : Int32)), .val (.int x103), .val (.int x107), .val (.int x111), .val (.int x115), .val (.int x119), .val (.int x123), .val (.ref b338), .val (.ref b353), .val (.int (Int32.ofNat ko)), .val (.ref b365), .val (.int (Int32.ofNat (own_nl [x103, x107, x111, x115] ko + 1))), .unset] [(.int (Int32.ofNat ko)), (.int (3 : Int32)), (.int x115), (.int (((own_n1 x103 0 ko) + (own_n1 x107 1 ko)) + (own_n1 x111 2 ko)))])) rfl (by rw [hml]; rfl) (argsL := [(.int x115), (.int (3 : Int32)), (.int (Int32.ofNat ko))]) (rest := [(.int (((own_n1 x103 0 ko) + (own_n1 x107 1 ko)) + (own_n1 x111 2 ko)))]) (lenOf pd17 rfl) rfl (by show 2 * 0 + _ ≤ _; exact Nat.le_of_eq rfl) (hb hby at_318) (fun _ _ => ⟨rfl, q386_hh, (by decide : 5 + 0 ≤ _), (by decide : 23 + 0 ≤ _)⟩)
  dsimp only [Pt.U, Pt.locs, Pt.cells, Pt.slots] at X388 l388 y388 z388 st388 hQ388
  subst l388 y388 z388
  obtain ⟨rfl, N388q, q388_hh⟩ := hQ388
  have N388 := Fr.app N386 N388q
  have p389 : Go p.tables e below _ (T388.setTop (mkF m 327 #[.val (.int p1), .val (.long q2), .second, .val (.int p3), .val (.int (4 : Int32)), .val (.int x103), .val (.int x107), .val (.int x111), .val (.int x115), .val (.int x119), .val (.int x123), .val (.ref b338), .val (.ref b353), .val (.int (Int32.ofNat ko)), .val (.ref b365), .val (.int (Int32.ofNat (own_nl [x103, x107, x111, x115] ko + 1))), .unset] [(.int (Int32.ofNat ko)), (.int (4 : Int32)), (.int x119), (.int ((((own_n1 x103 0 ko) + (own_n1 x107 1 ko)) + (own_n1 x111 2 ko)) + (own_n1 x115 3 ko)))])) := fun t_ k_ => (gc p387 st388) t_ (by
   refine XS.iadd X388.here hx rfl (hb hby at_321) rfl ?_
   refine XS.iload X388.here hx rfl (hb hby at_322) rfl ?_
   refine XS.iconst X388.here hx rfl (hb hby at_324) ?_
   refine XS.iload X388.here hx rfl (hb hby at_325) rfl ?_
   exact k_)
  obtain ⟨_, _, ⟨T390, L390, k390, n390⟩, -, X390, ⟨Lc390, hQ390, l390, y390, z390⟩, st390⟩ := Jvm.LawKit.callS X388 hx (y := (⟨"com/example/subsume/subsume/model/LinesLinePinLaw", "nl", "(CII)I"⟩ : MethodName)) hown (mvT hZ (own_w hw 63 rfl)) (mvT hZ (own_w hw 64 rfl)) (mvT hZ (own_w hw 3 rfl)) (mvT hZ (own_w hw 65 rfl)) (by decide) (backOf (W := 1) (rm11 l Z a0 hw [] x119 4 ko T375.heap n0 (Nat.le_trans Z0 K378.1) (by decide) (by omega)) hZ (own_w hw 65 rfl) (own_w hw 3 rfl) (by decide) (by decide)) (g := (mkF m 327 #[.val (.int p1), .val (.long q2), .second, .val (.int p3), .val (.int (4 : Int32)), .val (.int x103), .val (.int x107), .val (.int x111), .val (.int x115), .val (.int x119), .val (.int x123), .val (.ref b338), .val (.ref b353), .val (.int (Int32.ofNat ko)), .val (.ref b365), .val (.int (Int32.ofNat (own_nl [x103, x107, x111, x115] ko + 1))), .unset] [(.int (Int32.ofNat ko)), (.int (4 : Int32)), (.int x119), (.int ((((own_n1 x103 0 ko) + (own_n1 x107 1 ko)) + (own_n1 x111 2 ko)) + (own_n1 x115 3 ko)))])) rfl (by rw [hml]; rfl) (argsL := [(.int x119), (.int (4 : Int32)), (.int (Int32.ofNat ko))]) (rest := [(.int ((((own_n1 x103 0 ko) + (own_n1 x107 1 ko)) + (own_n1 x111 2 ko)) + (own_n1 x115 3 ko)))]) (lenOf pd17 rfl) rfl (by show 2 * 0 + _ ≤ _; exact Nat.le_of_eq rfl) (hb hby at_327) (fun _ _ => ⟨rfl, q388_hh, (by decide : 5 + 0 ≤ _), (by decide : 23 + 0 ≤ _)⟩)
  dsimp only [Pt.U, Pt.locs, Pt.cells, Pt.slots] at X390 l390 y390 z390 st390 hQ390
  subst l390 y390 z390
  obtain ⟨rfl, N390q, q390_hh⟩ := hQ390
  have N390 := Fr.app N388 N390q
  have p391 : Go p.tables e below _ (T390.setTop (mkF m 336 #[.val (.int p1), .val (.long q2), .second, .val (.int p3), .val (.int (4 : Int32)), .val (.int x103), .val (.int x107), .val (.int x111), .val (.int x115), .val (.int x119), .val (.int x123), .val (.ref b338), .val (.ref b353), .val (.int (Int32.ofNat ko)), .val (.ref b365), .val (.int (Int32.ofNat (own_nl [x103, x107, x111, x115] ko + 1))), .unset] [(.int (Int32.ofNat ko)), (.int (5 : Int32)), (.int x123), (.int (((((own_n1 x103 0 ko) + (own_n1 x107 1 ko)) + (own_n1 x111 2 ko)) + (own_n1 x115 3 ko)) + (own_n1 x119 4 ko)))])) := fun t_ k_ => (gc p389 st390) t_ (by
   refine XS.iadd X390.here hx rfl (hb hby at_330) rfl ?_
   refine XS.iload X390.here hx rfl (hb hby at_331) rfl ?_
   refine XS.iconst X390.here hx rfl (hb hby at_333) ?_
   refine XS.iload X390.here hx rfl (hb hby at_334) rfl ?_
   exact k_)
  obtain ⟨_, _, ⟨T392, L392, k392, n392⟩, -, X392, ⟨Lc392, hQ392, l392, y392, z392⟩, st392⟩ := Jvm.LawKit.callS X390 hx (y := (⟨"com/example/subsume/subsume/model/LinesLinePinLaw", "nl", "(CII)I"⟩ : MethodName)) hown (mvT hZ (own_w hw 63 rfl)) (mvT hZ (own_w hw 64 rfl)) (mvT hZ (own_w hw 3 rfl)) (mvT hZ (own_w hw 65 rfl)) (by decide) (backOf (W := 1) (rm11 l Z a0 hw [] x123 5 ko T375.heap n0 (Nat.le_trans Z0 K378.1) (by decide) (by omega)) hZ (own_w hw 65 rfl) (own_w hw 3 rfl) (by decide) (by decide)) (g := (mkF m 336 #[.val (.int p1), .val (.long q2), .second, .val (.int p3), .val (.int (4 : Int32)), .val (.int x103), .val (.int x107), .val (.int x111), .val (.int x115), .val (.int x119), .val (.int x123), .val (.ref b338), .val (.ref b353), .val (.int (Int32.ofNat ko)), .val (.ref b365), .val (.int (Int32.ofNat (own_nl [x103, x107, x111, x115] ko + 1))), .unset] [(.int (Int32.ofNat ko)), (.int (5 : Int32)), (.int x123), (.int (((((own_n1 x103 0 ko) + (own_n1 x107 1 ko)) + (own_n1 x111 2 ko)) + (own_n1 x115 3 ko)) + (own_n1 x119 4 ko)))])) rfl (by rw [hml]; rfl) (argsL := [(.int x123), (.int (5 : Int32)), (.int (Int32.ofNat ko))]) (rest := [(.int (((((own_n1 x103 0 ko) + (own_n1 x107 1 ko)) + (own_n1 x111 2 ko)) + (own_n1 x115 3 ko)) + (own_n1 x119 4 ko)))]) (lenOf pd17 rfl) rfl (by show 2 * 0 + _ ≤ _; exact Nat.le_of_eq rfl) (hb hby at_336) (fun _ _ => ⟨rfl, q390_hh, (by decide : 5 + 0 ≤ _), (by decide : 23 + 0 ≤ _)⟩)
  dsimp only [Pt.U, Pt.locs, Pt.cells, Pt.slots] at X392 l392 y392 z392 st392 hQ392
  subst l392 y392 z392
  obtain ⟨rfl, N392q, q392_hh⟩ := hQ392
  have N392 := Fr.app N390 N392q
  have p393 : Go p.tables e below _ (T392.setTop (mkF m 348 #[.val (.int p1), .val (.long q2), .second, .val (.int p3), .val (.int (4 : Int32)), .val (.int x103), .val (.int x107), .val (.int x111), .val (.int x115), .val (.int x119), .val (.int x123), .val (.ref b338), .val (.ref b353), .val (.int (Int32.ofNat ko)), .val (.ref b365), .val (.int (Int32.ofNat (own_nl [x103, x107, x111, x115] ko + 1))), .val (.int ((((((own_n1 x103 0 ko) + (own_n1 x107 1 ko)) + (own_n1 x111 2 ko)) + (own_n1 x115 3 ko)) + (own_n1 x119 4 ko)) + (own_n1 x123 5 ko)))] [(.int ((1 : Int32) + ((((((own_n1 x103 0 ko) + (own_n1 x107 1 ko)) + (own_n1 x111 2 ko)) + (own_n1 x115 3 ko)) + (own_n1 x119 4 ko)) + (own_n1 x123 5 ko)))), (.int (Int32.ofNat (own_nl [x103, x107, x111, x115] ko + 1)))])) := fun t_ k_ => (gc p391 st392) t_ (by
   refine XS.iadd X392.here hx rfl (hb hby at_339) rfl ?_
   refine XS.istore X392.here hx rfl (hb hby at_340) rfl (l' := #[.val (.int p1), .val (.long q2), .second, .val (.int p3), .val (.int (4 : Int32)), .val (.int x103), .val (.int x107), .val (.int x111), .val (.int x115), .val (.int x119), .val (.int x123), .val (.ref b338), .val (.ref b353), .val (.int (Int32.ofNat ko)), .val (.ref b365), .val (.int (Int32.ofNat (own_nl [x103, x107, x111, x115] ko + 1))), .val (.int ((((((own_n1 x103 0 ko) + (own_n1 x107 1 ko)) + (own_n1 x111 2 ko)) + (own_n1 x115 3 ko)) + (own_n1 x119 4 ko)) + (own_n1 x123 5 ko)))]) rfl ?_
   refine XS.iload X392.here hx rfl (hb hby at_342) rfl ?_
   refine XS.iconst X392.here hx rfl (hb hby at_344) ?_
   refine XS.iload X392.here hx rfl (hb hby at_345) rfl ?_
   refine XS.iadd X392.here hx rfl (hb hby at_347) rfl ?_
   exact k_)
  have c394 : ((Int32.ofNat (own_nl [x103, x107, x111, x115] ko + 1)) = ((1 : Int32) + ((((((own_n1 x103 0 ko) + (own_n1 x107 1 ko)) + (own_n1 x111 2 ko)) + (own_n1 x115 3 ko)) + (own_n1 x119 4 ko)) + (own_n1 x123 5 ko)))) := own_fin4 x103 x107 x111 x115 x119 x123 ko hko
  have p395 : Go p.tables e below _ (T392.setTop (mkF m 356 #[.val (.int p1), .val (.long q2), .second, .val (.int p3), .val (.int (4 : Int32)), .val (.int x103), .val (.int x107), .val (.int x111), .val (.int x115), .val (.int x119), .val (.int x123), .val (.ref b338), .val (.ref b353), .val (.int (Int32.ofNat ko)), .val (.ref b365), .val (.int (Int32.ofNat (own_nl [x103, x107, x111, x115] ko + 1))), .val (.int ((((((own_n1 x103 0 ko) + (own_n1 x107 1 ko)) + (own_n1 x111 2 ko)) + (own_n1 x115 3 ko)) + (own_n1 x119 4 ko)) + (own_n1 x123 5 ko)))] [(.int (1 : Int32))])) := fun t_ k_ => p393 t_ (by
   refine XS.icmpNo X392.here hx rfl (hb hby at_348) rfl (teq c394).2 ?_
   refine XS.iconst X392.here hx rfl (hb hby at_351) ?_
   refine XS.goto X392.here hx rfl (pc0 := 352) (pc' := 356) rfl (hb hby at_352) (by decide) (by decide) ?_
   exact k_)
  obtain ⟨fs, hr, hrun, hended, hW, hsame⟩ := X392.leave (v := some (.int (1 : Int32))) (fun h => by rw [Bd.returns] at h; cases h)
  refine ⟨_, _, p395 _ (retN X392 hx (t := .boolean) Bd.returns (by simp) (hb hby at_356) hr), hrun, hended, _, _, rfl, ?_, ReturnedEndW.of_narrow ⟨_, rfl⟩ hW (hsame.mono (by decide) (by decide))⟩
  show Q0 Z p1 q2 p3 cs1 fm h0 n0 _ T392.heap _
  rw [q392_hh]
  exact ⟨rfl, N392⟩
 ·have p396 : Go p.tables e below (s₁.setTop (entryFrame m #[(.int p1), (.long q2), (.int p3)] maxLocals)) (T122.setTop (mkF m 51 #[.val (.int p1), .val (.long q2), .second, .val (.int p3), .val (.int (5 : Int32)), .val (.int x103), .val (.int x107), .val (.int x111), .val (.int x115), .val (.int x119), .val (.int x123), .unset, .unset, .unset, .unset, .unset, .unset] [])) := by have z := p125; rw [ro] at z; exact z
  have p397 : Go p.tables e below _ (T122.setTop (mkF m 177 #[.val (.int p1), .val (.long q2), .second, .val (.int p3), .val (.int (5 : Int32)), .val (.int x103), .val (.int x107), .val (.int x111), .val (.int x115), .val (.int x119), .val (.int x123), .unset, .unset, .unset, .unset, .unset, .unset] [(.int (5 : Int32))])) := fun t_ k_ => p396 t_ (by
   refine XS.iload X122.here hx rfl (hb hby at_51) rfl ?_
   refine XS.ifYes X122.here hx rfl (pc0 := 53) (pc' := 64) rfl (hb hby at_53) rfl ((if0 _ _).trans (feq (by decide : ¬ ((5 : Int32) = (0 : Int32)))).2) (by decide) (by decide) ?_
   refine XS.iload X122.here hx rfl (hb hby at_64) rfl ?_
   refine XS.iconst X122.here hx rfl (hb hby at_66) ?_
   refine XS.icmpYes X122.here hx rfl (pc0 := 67) (pc' := 83) rfl (hb hby at_67) rfl (feq (by decide : ¬ ((5 : Int32) = (1 : Int32)))).2 (by decide) (by decide) ?_
   refine XS.iload X122.here hx rfl (hb hby at_83) rfl ?_
   refine XS.iconst X122.here hx rfl (hb hby at_85) ?_
   refine XS.icmpYes X122.here hx rfl (pc0 := 86) (pc' := 107) rfl (hb hby at_86) rfl (feq (by decide : ¬ ((5 : Int32) = (2 : Int32)))).2 (by decide) (by decide) ?_
   refine XS.iload X122.here hx rfl (hb hby at_107) rfl ?_
   refine XS.iconst X122.here hx rfl (hb hby at_109) ?_
   refine XS.icmpYes X122.here hx rfl (pc0 := 110) (pc' := 136) rfl (hb hby at_110) rfl (feq (by decide : ¬ ((5 : Int32) = (3 : Int32)))).2 (by decide) (by decide) ?_
   refine XS.iload X122.here hx rfl (hb hby at_136) rfl ?_
   refine XS.iconst X122.here hx rfl (hb hby at_138) ?_
   refine XS.icmpYes X122.here hx rfl (pc0 := 139) (pc' := 170) rfl (hb hby at_139) rfl (feq (by decide : ¬ ((5 : Int32) = (4 : Int32)))).2 (by decide) (by decide) ?_
   refine XS.iload X122.here hx rfl (hb hby at_170) rfl ?_
   refine XS.iconst X122.here hx rfl (hb hby at_172) ?_
   refine XS.icmpNo X122.here hx rfl (hb hby at_173) rfl (teq (by decide : ((5 : Int32) = (5 : Int32)))).2 ?_
   refine XS.iconst X122.here hx rfl (hb hby at_176) ?_
   exact k_)
  obtain ⟨T398, h398, k398, X398, e398, E398, A398, st398⟩ := newP X122 hx hZ (own_w hw 6 rfl) q122_hh (g := (mkF m 177 #[.val (.int p1), .val (.long q2), .second, .val (.int p3), .val (.int (5 : Int32)), .val (.int x103), .val (.int x107), .val (.int x111), .val (.int x115), .val (.int x119), .val (.int x123), .unset, .unset, .unset, .unset, .unset, .unset] [(.int (5 : Int32))])) rfl (hb hby at_177) rfl (by decide) (cap := 5) (by decide) (by decide) (by decide) (by decide)
  obtain ⟨b398, g398⟩ : ∃ z, z = h0.size := ⟨_, rfl⟩
  rw [← g398] at A398 st398
  have ge_b398 : n0 ≤ b398 := Nat.le_trans (Nat.le_trans Z0 (Keep.refl h0 []).1) (Nat.le_of_eq g398.symm)
  have sz_b398 : h0.size ≤ b398 := Nat.le_trans (Keep.refl h0 []).1 (Nat.le_of_eq g398.symm)
  have K399 : Keep h0 h398 [] := (Keep.refl h0 []).ext E398
  have V398 : Arv Z h398 b398 k398 .char (5 : Int32) [(.int (0 : Int32)), (.int (0 : Int32)), (.int (0 : Int32)), (.int (0 : Int32)), (.int (0 : Int32))] (.int (0 : Int32)) := (Arv.new A398 (by decide)).pad (pad_rep [] (.int (0 : Int32)) 5)
  have p400 : Go p.tables e below _ (T398.setTop (mkF m 183 #[.val (.int p1), .val (.long q2), .second, .val (.int p3), .val (.int (5 : Int32)), .val (.int x103), .val (.int x107), .val (.int x111), .val (.int x115), .val (.int x119), .val (.int x123), .unset, .unset, .unset, .unset, .unset, .unset] [(.int x103), (.int (0 : Int32)), (.ref b398), (.ref b398)])) := fun t_ k_ => (gc p397 st398) t_ (by
   refine XS.dup X398.here hx rfl (hb hby at_179) rfl rfl ?_
   refine XS.iconst X398.here hx rfl (hb hby at_180) ?_
   refine XS.iload X398.here hx rfl (hb hby at_181) rfl ?_
   exact k_)
  obtain ⟨cl401, Ar401, q401, S401, Ng401, H401, G401⟩ := id V398
  have hin401 := inb_of S401 (j := (0 : Int32)) ⟨by decide, by decide⟩
  obtain ⟨T401, h401, X401, e401, W401, st401⟩ := stC X398 hx hZ e398 Ar401 (j := (0 : Int32)) hin401 (g := (mkF m 183 #[.val (.int p1), .val (.long q2), .second, .val (.int p3), .val (.int (5 : Int32)), .val (.int x103), .val (.int x107), .val (.int x111), .val (.int x115), .val (.int x119), .val (.int x123), .unset, .unset, .unset, .unset, .unset, .unset] [(.int x103), (.int (0 : Int32)), (.ref b398), (.ref b398)])) rfl rfl (hb hby at_183)
  have K402 : Keep h0 h401 [] := K399.wr W401 (Or.inr sz_b398)
  have N401 := Fr.snoc X401 N122 ge_b398
  have V401 : Arv Z h401 b398 k398 .char (5 : Int32) [(.int (nar .char x103)), (.int (0 : Int32)), (.int (0 : Int32)), (.int (0 : Int32)), (.int (0 : Int32))] (.int (0 : Int32)) := Arv.set Ar401 q401 S401 Ng401 H401 G401 (fits_nar_char _) W401 0 rfl (Nat.le_of_ble_eq_true rfl)
  have p403 : Go p.tables e below _ (T401.setTop (mkF m 188 #[.val (.int p1), .val (.long q2), .second, .val (.int p3), .val (.int (5 : Int32)), .val (.int x103), .val (.int x107), .val (.int x111), .val (.int x115), .val (.int x119), .val (.int x123), .unset, .unset, .unset, .unset, .unset, .unset] [(.int x107), (.int (1 : Int32)), (.ref b398), (.ref b398)])) := fun t_ k_ => (gc p400 st401) t_ (by
   refine XS.dup X401.here hx rfl (hb hby at_184) rfl rfl ?_
   refine XS.iconst X401.here hx rfl (hb hby at_185) ?_
   refine XS.iload X401.here hx rfl (hb hby at_186) rfl ?_
   exact k_)
  obtain ⟨cl404, Ar404, q404, S404, Ng404, H404, G404⟩ := id V401
  have hin404 := inb_of S404 (j := (1 : Int32)) ⟨by decide, by decide⟩
  obtain ⟨T404, h404, X404, e404, W404, st404⟩ := stC X401 hx hZ e401 Ar404 (j := (1 : Int32)) hin404 (g := (mkF m 188 #[.val (.int p1), .val (.long q2), .second, .val (.int p3), .val (.int (5 : Int32)), .val (.int x103), .val (.int x107), .val (.int x111), .val (.int x115), .val (.int x119), .val (.int x123), .unset, .unset, .unset, .unset, .unset, .unset] [(.int x107), (.int (1 : Int32)), (.ref b398), (.ref b398)])) rfl rfl (hb hby at_188)
  have K405 : Keep h0 h404 [] := K402.wr W404 (Or.inr sz_b398)
  have N404 := Fr.snoc X404 N401 ge_b398
  have V404 : Arv Z h404 b398 k398 .char (5 : Int32) [(.int (nar .char x103)), (.int (nar .char x107)), (.int (0 : Int32)), (.int (0 : Int32)), (.int (0 : Int32))] (.int (0 : Int32)) := Arv.set Ar404 q404 S404 Ng404 H404 G404 (fits_nar_char _) W404 1 rfl (Nat.le_of_ble_eq_true rfl)
  have p406 : Go p.tables e below _ (T404.setTop (mkF m 193 #[.val (.int p1), .val (.long q2), .second, .val (.int p3), .val (.int (5 : Int32)), .val (.int x103), .val (.int x107), .val (.int x111), .val (.int x115), .val (.int x119), .val (.int x123), .unset, .unset, .unset, .unset, .unset, .unset] [(.int x111), (.int (2 : Int32)), (.ref b398), (.ref b398)])) := fun t_ k_ => (gc p403 st404) t_ (by
   refine XS.dup X404.here hx rfl (hb hby at_189) rfl rfl ?_
   refine XS.iconst X404.here hx rfl (hb hby at_190) ?_
   refine XS.iload X404.here hx rfl (hb hby at_191) rfl ?_
   exact k_)
  obtain ⟨cl407, Ar407, q407, S407, Ng407, H407, G407⟩ := id V404
  have hin407 := inb_of S407 (j := (2 : Int32)) ⟨by decide, by decide⟩
  obtain ⟨T407, h407, X407, e407, W407, st407⟩ := stC X404 hx hZ e404 Ar407 (j := (2 : Int32)) hin407 (g := (mkF m 193 #[.val (.int p1), .val (.long q2), .second, .val (.int p3), .val (.int (5 : Int32)), .val (.int x103), .val (.int x107), .val (.int x111), .val (.int x115), .val (.int x119), .val (.int x123), .unset, .unset, .unset, .unset, .unset, .unset] [(.int x111), (.int (2 : Int32)), (.ref b398), (.ref b398)])) rfl rfl (hb hby at_193)
  have K408 : Keep h0 h407 [] := K405.wr W407 (Or.inr sz_b398)
  have N407 := Fr.snoc X407 N404 ge_b398
  have V407 : Arv Z h407 b398 k398 .char (5 : Int32) [(.int (nar .char x103)), (.int (nar .char x107)), (.int (nar .char x111)), (.int (0 : Int32)), (.int (0 : Int32))] (.int (0 : Int32)) := Arv.set Ar407 q407 S407 Ng407 H407 G407 (fits_nar_char _) W407 2 rfl (Nat.le_of_ble_eq_true rfl)
  have p409 : Go p.tables e below _ (T407.setTop (mkF m 198 #[.val (.int p1), .val (.long q2), .second, .val (.int p3), .val (.int (5 : Int32)), .val (.int x103), .val (.int x107), .val (.int x111), .val (.int x115), .val (.int x119), .val (.int x123), .unset, .unset, .unset, .unset, .unset, .unset] [(.int x115), (.int (3 : Int32)), (.ref b398), (.ref b398)])) := fun t_ k_ => (gc p406 st407) t_ (by
   refine XS.dup X407.here hx rfl (hb hby at_194) rfl rfl ?_
   refine XS.iconst X407.here hx rfl (hb hby at_195) ?_
   refine XS.iload X407.here hx rfl (hb hby at_196) rfl ?_
   exact k_)
  obtain ⟨cl410, Ar410, q410, S410, Ng410, H410, G410⟩ := id V407
  have hin410 := inb_of S410 (j := (3 : Int32)) ⟨by decide, by decide⟩
  obtain ⟨T410, h410, X410, e410, W410, st410⟩ := stC X407 hx hZ e407 Ar410 (j := (3 : Int32)) hin410 (g := (mkF m 198 #[.val (.int p1), .val (.long q2), .second, .val (.int p3), .val (.int (5 : Int32)), .val (.int x103), .val (.int x107), .val (.int x111), .val (.int x115), .val (.int x119), .val (.int x123), .unset, .unset, .unset, .unset, .unset, .unset] [(.int x115), (.int (3 : Int32)), (.ref b398), (.ref b398)])) rfl rfl (hb hby at_198)
  have K411 : Keep h0 h410 [] := K408.wr W410 (Or.inr sz_b398)
  have N410 := Fr.snoc X410 N407 ge_b398
  have V410 : Arv Z h410 b398 k398 .char (5 : Int32) [(.int (nar .char x103)), (.int (nar .char x107)), (.int (nar .char x111)), (.int (nar .char x115)), (.int (0 : Int32))] (.int (0 : Int32)) := Arv.set Ar410 q410 S410 Ng410 H410 G410 (fits_nar_char _) W410 3 rfl (Nat.le_of_ble_eq_true rfl)
  have p412 : Go p.tables e below _ (T410.setTop (mkF m 203 #[.val (.int p1), .val (.long q2), .second, .val (.int p3), .val (.int (5 : Int32)), .val (.int x103), .val (.int x107), .val (.int x111), .val (.int x115), .val (.int x119), .val (.int x123), .unset, .unset, .unset, .unset, .unset, .unset] [(.int x119), (.int (4 : Int32)), (.ref b398), (.ref b398)])) := fun t_ k_ => (gc p409 st410) t_ (by
   refine XS.dup X410.here hx rfl (hb hby at_199) rfl rfl ?_
   refine XS.iconst X410.here hx rfl (hb hby at_200) ?_
   refine XS.iload X410.here hx rfl (hb hby at_201) rfl ?_
   exact k_)
  obtain ⟨cl413, Ar413, q413, S413, Ng413, H413, G413⟩ := id V410
  have hin413 := inb_of S413 (j := (4 : Int32)) ⟨by decide, by decide⟩
  obtain ⟨T413, h413, X413, e413, W413, st413⟩ := stC X410 hx hZ e410 Ar413 (j := (4 : Int32)) hin413 (g := (mkF m 203 #[.val (.int p1), .val (.long q2), .second, .val (.int p3), .val (.int (5 : Int32)), .val (.int x103), .val (.int x107), .val (.int x111), .val (.int x115), .val (.int x119), .val (.int x123), .unset, .unset, .unset, .unset, .unset, .unset] [(.int x119), (.int (4 : Int32)), (.ref b398), (.ref b398)])) rfl rfl (hb hby at_203)
  have K414 : Keep h0 h413 [] := K411.wr W413 (Or.inr sz_b398)
  have N413 := Fr.snoc X413 N410 ge_b398
  have V413 : Arv Z h413 b398 k398 .char (5 : Int32) [(.int (nar .char x103)), (.int (nar .char x107)), (.int (nar .char x111)), (.int (nar .char x115)), (.int (nar .char x119))] (.int (0 : Int32)) := Arv.set Ar413 q413 S413 Ng413 H413 G413 (fits_nar_char _) W413 4 rfl (Nat.le_of_ble_eq_true rfl)
  have p415 : Go p.tables e below _ (T413.setTop (mkF m 245 #[.val (.int p1), .val (.long q2), .second, .val (.int p3), .val (.int (5 : Int32)), .val (.int x103), .val (.int x107), .val (.int x111), .val (.int x115), .val (.int x119), .val (.int x123), .val (.ref b398), .unset, .unset, .unset, .unset, .unset] [])) := fun t_ k_ => (gc p412 st413) t_ (by
   refine XS.astore X413.here hx rfl (hb hby at_204) rfl rfl (l' := #[.val (.int p1), .val (.long q2), .second, .val (.int p3), .val (.int (5 : Int32)), .val (.int x103), .val (.int x107), .val (.int x111), .val (.int x115), .val (.int x119), .val (.int x123), .val (.ref b398), .unset, .unset, .unset, .unset, .unset]) rfl ?_
   refine XS.goto X413.here hx rfl (pc0 := 206) (pc' := 245) rfl (hb hby at_206) (by decide) (by decide) ?_
   exact k_)
  obtain ⟨T416, h416, X416, e416, E416, A416, D416, -, st416⟩ := newO X413 hx hZ hown (own_w hw 7 rfl) (own_w hw 8 rfl) (own_w hw 9 rfl) e413 (g := (mkF m 245 #[.val (.int p1), .val (.long q2), .second, .val (.int p3), .val (.int (5 : Int32)), .val (.int x103), .val (.int x107), .val (.int x111), .val (.int x115), .val (.int x119), .val (.int x123), .val (.ref b398), .unset, .unset, .unset, .unset, .unset] [])) rfl (hb hby at_245) (by decide) (by decide)
  obtain ⟨b416, g416⟩ : ∃ z, z = h413.size := ⟨_, rfl⟩
  rw [← g416] at A416 D416 st416
  have ne_b398_b416 : b398 ≠ b416 := Nat.ne_of_lt (Nat.lt_of_lt_of_le V413.lt (Nat.le_of_eq g416.symm))
  have ge_b416 : n0 ≤ b416 := Nat.le_trans (Nat.le_trans Z0 K414.1) (Nat.le_of_eq g416.symm)
  have sz_b416 : h0.size ≤ b416 := Nat.le_trans K414.1 (Nat.le_of_eq g416.symm)
  have K417 : Keep h0 h416 [] := K414.ext E416
  have F416_value : Fld Z h416 b416 "java/lang/String" "value" "[B" .null := D416 (Or.inr (own_w hw 22 rfl)) (ty := (.array .byte)) (by decide)
  have F416_coder : Fld Z h416 b416 "java/lang/String" "coder" "B" (.int (0 : Int32)) := D416 (Or.inr (own_w hw 23 rfl)) (ty := .byte) (by decide)
  have p418 : Go p.tables e below _ (T416.setTop (mkF m 251 #[.val (.int p1), .val (.long q2), .second, .val (.int p3), .val (.int (5 : Int32)), .val (.int x103), .val (.int x107), .val (.int x111), .val (.int x115), .val (.int x119), .val (.int x123), .val (.ref b398), .unset, .unset, .unset, .unset, .unset] [(.ref b398), (.ref b416), (.ref b416)])) := fun t_ k_ => (gc p415 st416) t_ (by
   refine XS.dup X416.here hx rfl (hb hby at_248) rfl rfl ?_
   refine XS.aload X416.here hx rfl (hb hby at_249) rfl rfl ?_
   exact k_)
  have f419 := (V413.ext E416)
  have f420 : Arv Z h416 b398 k398 .char (5 : Int32) [(.int x103), (.int x107), (.int x111), (.int x115), (.int x119)] (.int (0 : Int32)) := by have z := f419; rw [own_narc _ ra0 (own_le255 rb0), own_narc _ ra1 (own_le255 rb1), own_narc _ ra2 (own_le255 rb2), own_narc _ ra3 (own_le255 rb3), own_narc _ ra4 (own_le255 rb4)] at z; exact z
  have f421 := (((((((O1.ext E398).wr W401 ge_b398).wr W404 ge_b398).wr W407 ge_b398).wr W410 ge_b398).wr W413 ge_b398).ext E416)
  obtain ⟨_, _, ⟨T422, L422, k422, n422⟩, -, X422, ⟨Lc422, hQ422, l422, y422, z422⟩, st422⟩ := X416.specialBack hx (y := (⟨"java/lang/String", "<init>", "([C)V"⟩ : MethodName)) rfl hown (mvT hZ (own_w hw 10 rfl)) (mvT hZ (own_w hw 11 rfl)) (mvT hZ (own_w hw 12 rfl)) (by decide) (backOf (W := 1) (rm2_L5 l Z a0 hw [] b416 b398 k398 x103 x107 x111 x115 x119 cs1 fm h416 n0 (Nat.le_trans Z0 K417.1) f421 G F416_coder F416_value A416 f420 (Ne.symm ne_b398_b416) ge_b416 rb0 rb1 rb2 rb3 rb4) hZ (own_w hw 12 rfl) (own_w hw 9 rfl) (by decide) (by decide)) (g := (mkF m 251 #[.val (.int p1), .val (.long q2), .second, .val (.int p3), .val (.int (5 : Int32)), .val (.int x103), .val (.int x107), .val (.int x111), .val (.int x115), .val (.int x119), .val (.int x123), .val (.ref b398), .unset, .unset, .unset, .unset, .unset] [(.ref b398), (.ref b416), (.ref b416)])) rfl (by rw [hml]; rfl) (Steps.refl _) (a := b416) (argsL := [(.ref b398)]) (rest := [(.ref b416)]) (lenOf pd14 rfl) rfl (by show 2 * 0 + _ ≤ _; exact Nat.le_of_eq rfl) (hb hby at_251) (fun _ _ => ⟨rfl, e416, (by decide : 2 + 1 ≤ _), (by decide : 9 + 5 ≤ _)⟩)
  dsimp only [Pt.U, Pt.locs, Pt.cells, Pt.slots] at X422 l422 y422 z422 st422 hQ422
  subst l422 y422 z422
  obtain ⟨x423, x424, rfl, N422q, q422_K, q422_E, q422_c, q422_v, q422_g, q422_z, q422_V, q422_n⟩ := hQ422
  have N422 := Fr.app N413 N422q
  have K425 : Keep h0 T422.heap [] := K417.trans q422_K (allS (Or.inr sz_b416) all0)
  have ne_b398_x423 : b398 ≠ x423 := Nat.ne_of_lt (Nat.lt_of_lt_of_le f420.lt q422_z)
  have ne_b416_x423 : b416 ≠ x423 := Nat.ne_of_lt (Nat.lt_of_lt_of_le A416.lt q422_z)
  have p426 : Go p.tables e below _ (T422.setTop (mkF m 267 #[.val (.int p1), .val (.long q2), .second, .val (.int p3), .val (.int (5 : Int32)), .val (.int x103), .val (.int x107), .val (.int x111), .val (.int x115), .val (.int x119), .val (.int x123), .val (.ref b398), .val (.ref b416), .val (.int ((p3 &&& (2147483647 : Int32)) % (6 : Int32))), .unset, .unset, .unset] [])) := fun t_ k_ => (gcT p418 st422) t_ (by
   refine XS.astore X422.here hx rfl (hb hby at_254) rfl rfl (l' := #[.val (.int p1), .val (.long q2), .second, .val (.int p3), .val (.int (5 : Int32)), .val (.int x103), .val (.int x107), .val (.int x111), .val (.int x115), .val (.int x119), .val (.int x123), .val (.ref b398), .val (.ref b416), .unset, .unset, .unset, .unset]) rfl ?_
   refine XS.iloadN X422.here hx rfl (hb hby at_256) rfl ?_
   refine X422.ldcInt hx hown (mvT hZ (own_w hw 0 rfl)) (g := (mkF m 257 #[.val (.int p1), .val (.long q2), .second, .val (.int p3), .val (.int (5 : Int32)), .val (.int x103), .val (.int x107), .val (.int x111), .val (.int x115), .val (.int x119), .val (.int x123), .val (.ref b398), .val (.ref b416), .unset, .unset, .unset, .unset] [(.int p3)])) rfl (hb hby at_257) _ ?_
   refine XS.iand X422.here hx rfl (hb hby at_259) rfl ?_
   refine XS.iload X422.here hx rfl (hb hby at_260) rfl ?_
   refine XS.iconst X422.here hx rfl (hb hby at_262) ?_
   refine XS.iadd X422.here hx rfl (hb hby at_263) rfl ?_
   refine Jvm.RoadKit.iremM X422 hx rfl (hb hby at_264) rfl (by decide) ?_
   refine XS.istore X422.here hx rfl (hb hby at_265) rfl (l' := #[.val (.int p1), .val (.long q2), .second, .val (.int p3), .val (.int (5 : Int32)), .val (.int x103), .val (.int x107), .val (.int x111), .val (.int x115), .val (.int x119), .val (.int x123), .val (.ref b398), .val (.ref b416), .val (.int ((p3 &&& (2147483647 : Int32)) % (6 : Int32))), .unset, .unset, .unset]) rfl ?_
   exact k_)
  obtain ⟨ko, hko, hkz⟩ := own_modk p3 5 (by decide)
  have p427 : Go p.tables e below (s₁.setTop (entryFrame m #[(.int p1), (.long q2), (.int p3)] maxLocals)) (T422.setTop (mkF m 267 #[.val (.int p1), .val (.long q2), .second, .val (.int p3), .val (.int (5 : Int32)), .val (.int x103), .val (.int x107), .val (.int x111), .val (.int x115), .val (.int x119), .val (.int x123), .val (.ref b398), .val (.ref b416), .val (.int (Int32.ofNat ko)), .unset, .unset, .unset] [])) := by have z := p426; rw [← hkz]; exact z
  obtain ⟨T428, h428, X428, e428, E428, A428, D428, -, st428⟩ := newO X422 hx hZ hown (own_w hw 28 rfl) (own_w hw 29 rfl) (own_w hw 30 rfl) rfl (g := (mkF m 267 #[.val (.int p1), .val (.long q2), .second, .val (.int p3), .val (.int (5 : Int32)), .val (.int x103), .val (.int x107), .val (.int x111), .val (.int x115), .val (.int x119), .val (.int x123), .val (.ref b398), .val (.ref b416), .val (.int (Int32.ofNat ko)), .unset, .unset, .unset] [])) rfl (hb hby at_267) (by decide) (by decide)
  obtain ⟨b428, g428⟩ : ∃ z, z = T422.heap.size := ⟨_, rfl⟩
  rw [← g428] at A428 D428 st428
  have f429 := (f420.keep q422_K (ninS ne_b398_b416 nin0))
  have ne_b398_b428 : b398 ≠ b428 := Nat.ne_of_lt (Nat.lt_of_lt_of_le f429.lt (Nat.le_of_eq g428.symm))
  have ne_b416_b428 : b416 ≠ b428 := Nat.ne_of_lt (Nat.lt_of_lt_of_le q422_E.lt (Nat.le_of_eq g428.symm))
  have ne_x423_b428 : x423 ≠ b428 := Nat.ne_of_lt (Nat.lt_of_lt_of_le q422_V.lt (Nat.le_of_eq g428.symm))
  have ge_b428 : n0 ≤ b428 := Nat.le_trans (Nat.le_trans Z0 K425.1) (Nat.le_of_eq g428.symm)
  have sz_b428 : h0.size ≤ b428 := Nat.le_trans K425.1 (Nat.le_of_eq g428.symm)
  have K430 : Keep h0 h428 [] := K425.ext E428
  have F428_text : Fld Z h428 b428 "com/example/subsume/subsume/model/Lines" "text" "Ljava/lang/String;" .null := D428 (Or.inr (own_w hw 36 rfl)) (ty := (.object "java/lang/String")) (by decide)
  have F428_starts : Fld Z h428 b428 "com/example/subsume/subsume/model/Lines" "starts" "[I" .null := D428 (Or.inr (own_w hw 50 rfl)) (ty := (.array .int)) (by decide)
  have p431 : Go p.tables e below _ (T428.setTop (mkF m 273 #[.val (.int p1), .val (.long q2), .second, .val (.int p3), .val (.int (5 : Int32)), .val (.int x103), .val (.int x107), .val (.int x111), .val (.int x115), .val (.int x119), .val (.int x123), .val (.ref b398), .val (.ref b416), .val (.int (Int32.ofNat ko)), .unset, .unset, .unset] [(.ref b416), (.ref b428), (.ref b428)])) := fun t_ k_ => (gc p427 st428) t_ (by
   refine XS.dup X428.here hx rfl (hb hby at_270) rfl rfl ?_
   refine XS.aload X428.here hx rfl (hb hby at_271) rfl rfl ?_
   exact k_)
  have HBp : ∀ i, i < 5 → ∃ b : Int32, ([(.int (own_xl x103)), (.int (own_xl x107)), (.int (own_xl x111)), (.int (own_xl x115)), (.int (own_xl x119))] : List Value).getD ((Int32.ofNat i)).toNatClampNeg (.int (0 : Int32)) = .int b ∧ own_c8 b = own_at [x103, x107, x111, x115, x119] i := by
   intro i hi
   rcases (by omega : i = 0 ∨ i = 1 ∨ i = 2 ∨ i = 3 ∨ i = 4) with rfl | rfl | rfl | rfl | rfl
   ·exact ⟨_, rfl, own_l8 _ ra0 rb0⟩
   ·exact ⟨_, rfl, own_l8 _ ra1 rb1⟩
   ·exact ⟨_, rfl, own_l8 _ ra2 rb2⟩
   ·exact ⟨_, rfl, own_l8 _ ra3 rb3⟩
   ·exact ⟨_, rfl, own_l8 _ ra4 rb4⟩
  have f432 := (f429.ext E428)
  have f433 := (q422_E.ext E428)
  have f434 := (q422_V.ext E428)
  have f435 := ((f421.keep q422_K (allS ge_b416 all0)).ext E428)
  have f436 := (q422_c.ext E428)
  have f437 := (q422_v.ext E428)
  obtain ⟨_, _, ⟨T438, L438, k438, n438⟩, -, X438, ⟨Lc438, hQ438, l438, y438, z438⟩, st438⟩ := X428.specialBack hx (y := (⟨"com/example/subsume/subsume/model/Lines", "<init>", "(Ljava/lang/String;)V"⟩ : MethodName)) rfl hown (mvT hZ (own_w hw 31 rfl)) (mvT hZ (own_w hw 32 rfl)) (mvT hZ (own_w hw 33 rfl)) (by decide) (backOf (W := 1) (rm5_0 l Z a0 hw [] b428 b416 x423 x424 (5 : Int32) [(.int (own_xl x103)), (.int (own_xl x107)), (.int (own_xl x111)), (.int (own_xl x115)), (.int (own_xl x119))] [x103, x107, x111, x115, x119] 5 cs1 fm h428 n0 (Nat.le_trans Z0 K430.1) f435 G f433 f436 f437 f434 F428_starts F428_text A428 ge_b428 (Ne.symm ne_b416_b428) (Ne.symm ne_x423_b428) (by decide) (by decide) HBp rfl) hZ (own_w hw 33 rfl) (own_w hw 30 rfl) (by decide) (by decide)) (g := (mkF m 273 #[.val (.int p1), .val (.long q2), .second, .val (.int p3), .val (.int (5 : Int32)), .val (.int x103), .val (.int x107), .val (.int x111), .val (.int x115), .val (.int x119), .val (.int x123), .val (.ref b398), .val (.ref b416), .val (.int (Int32.ofNat ko)), .unset, .unset, .unset] [(.ref b416), (.ref b428), (.ref b428)])) rfl (by rw [hml]; rfl) (Steps.refl _) (a := b428) (argsL := [(.ref b416)]) (rest := [(.ref b428)]) (lenOf pd15 rfl) rfl (by show 2 * 0 + _ ≤ _; exact Nat.le_of_eq rfl) (hb hby at_273) (fun _ _ => ⟨rfl, e428, (by decide : 4 + 1 ≤ _), (by decide : 16 + 9 ≤ _)⟩)
  dsimp only [Pt.U, Pt.locs, Pt.cells, Pt.slots] at X438 l438 y438 z438 st438 hQ438
  subst l438 y438 z438
  obtain ⟨x439, x440, rfl, N438q, q438_K, q438_E, q438_t, q438_s, q438_V, q438_g, q438_z, q438_n⟩ := hQ438
  have N438 := Fr.app N422 N438q
  have K441 : Keep h0 T438.heap [] := K430.trans q438_K (allS (Or.inr sz_b428) all0)
  have ne_b398_x439 : b398 ≠ x439 := Nat.ne_of_lt (Nat.lt_of_lt_of_le f432.lt q438_z)
  have ne_b416_x439 : b416 ≠ x439 := Nat.ne_of_lt (Nat.lt_of_lt_of_le f433.lt q438_z)
  have ne_x423_x439 : x423 ≠ x439 := Nat.ne_of_lt (Nat.lt_of_lt_of_le f434.lt q438_z)
  have ne_b428_x439 : b428 ≠ x439 := Nat.ne_of_lt (Nat.lt_of_lt_of_le A428.lt q438_z)
  have p442 : Go p.tables e below _ (T438.setTop (mkF m 282 #[.val (.int p1), .val (.long q2), .second, .val (.int p3), .val (.int (5 : Int32)), .val (.int x103), .val (.int x107), .val (.int x111), .val (.int x115), .val (.int x119), .val (.int x123), .val (.ref b398), .val (.ref b416), .val (.int (Int32.ofNat ko)), .val (.ref b428), .unset, .unset] [(.int (Int32.ofNat ko)), (.ref b428)])) := fun t_ k_ => (gcT p431 st438) t_ (by
   refine XS.astore X438.here hx rfl (hb hby at_276) rfl rfl (l' := #[.val (.int p1), .val (.long q2), .second, .val (.int p3), .val (.int (5 : Int32)), .val (.int x103), .val (.int x107), .val (.int x111), .val (.int x115), .val (.int x119), .val (.int x123), .val (.ref b398), .val (.ref b416), .val (.int (Int32.ofNat ko)), .val (.ref b428), .unset, .unset]) rfl ?_
   refine XS.aload X438.here hx rfl (hb hby at_278) rfl rfl ?_
   refine XS.iload X438.here hx rfl (hb hby at_280) rfl ?_
   exact k_)
  obtain ⟨cq443, kq443, q443a, q443b, q443c⟩ := isOf hZ rfl q438_E
  obtain ⟨_, _, ⟨T443, L443, k443, n443⟩, -, X443, ⟨Lc443, hQ443, l443, y443, z443⟩, st443⟩ := X438.virtualBack hx (y := (⟨"com/example/subsume/subsume/model/Lines", "line", "(I)I"⟩ : MethodName)) (z := (⟨"com/example/subsume/subsume/model/Lines", "line", "(I)I"⟩ : MethodName)) hown (mvT hZ (own_w hw 51 rfl)) (mvT hZ (own_w hw 52 rfl)) (notFace_of_selects (args := #[]) (mvT hZ (own_w hw 54 rfl))) (mvT hZ (own_w hw 54 rfl)) (mvT hZ (own_w hw 53 rfl)) (by decide) (backOf (W := 0) (rm8 l Z a0 hw [] b428 x439 x440 [x103, x107, x111, x115, x119] 5 ko T438.heap n0 (Nat.le_trans Z0 K441.1) q438_s q438_V (by decide) hko) hZ (own_w hw 55 rfl) (own_w hw 30 rfl) (by decide) (by decide)) q443a q443c (g := (mkF m 282 #[.val (.int p1), .val (.long q2), .second, .val (.int p3), .val (.int (5 : Int32)), .val (.int x103), .val (.int x107), .val (.int x111), .val (.int x115), .val (.int x119), .val (.int x123), .val (.ref b398), .val (.ref b416), .val (.int (Int32.ofNat ko)), .val (.ref b428), .unset, .unset] [(.int (Int32.ofNat ko)), (.ref b428)])) rfl (by rw [hml]; rfl) (Steps.refl _) (argsL := [(.int (Int32.ofNat ko))]) (rest := []) (lenOf pd16 rfl) rfl (by show 2 * 0 + _ ≤ _; exact Nat.le_of_eq rfl) (hb hby at_282) (fun _ _ => ⟨rfl, rfl, (by decide : 5 + 0 ≤ _), (by decide : 25 + 0 ≤ _)⟩)
  dsimp only [Pt.U, Pt.locs, Pt.cells, Pt.slots] at X443 l443 y443 z443 st443 hQ443
  subst l443 y443 z443
  obtain ⟨rfl, N443q, q443_hh⟩ := hQ443
  have N443 := Fr.app N438 N443q
  have p444 : Go p.tables e below _ (T443.setTop (mkF m 292 #[.val (.int p1), .val (.long q2), .second, .val (.int p3), .val (.int (5 : Int32)), .val (.int x103), .val (.int x107), .val (.int x111), .val (.int x115), .val (.int x119), .val (.int x123), .val (.ref b398), .val (.ref b416), .val (.int (Int32.ofNat ko)), .val (.ref b428), .val (.int (Int32.ofNat (own_nl [x103, x107, x111, x115, x119] ko + 1))), .unset] [(.int (Int32.ofNat ko)), (.int (0 : Int32)), (.int x103)])) := fun t_ k_ => (gcT p442 st443) t_ (by
   refine XS.istore X443.here hx rfl (hb hby at_285) rfl (l' := #[.val (.int p1), .val (.long q2), .second, .val (.int p3), .val (.int (5 : Int32)), .val (.int x103), .val (.int x107), .val (.int x111), .val (.int x115), .val (.int x119), .val (.int x123), .val (.ref b398), .val (.ref b416), .val (.int (Int32.ofNat ko)), .val (.ref b428), .val (.int (Int32.ofNat (own_nl [x103, x107, x111, x115, x119] ko + 1))), .unset]) rfl ?_
   refine XS.iload X443.here hx rfl (hb hby at_287) rfl ?_
   refine XS.iconst X443.here hx rfl (hb hby at_289) ?_
   refine XS.iload X443.here hx rfl (hb hby at_290) rfl ?_
   exact k_)
  obtain ⟨_, _, ⟨T445, L445, k445, n445⟩, -, X445, ⟨Lc445, hQ445, l445, y445, z445⟩, st445⟩ := Jvm.LawKit.callS X443 hx (y := (⟨"com/example/subsume/subsume/model/LinesLinePinLaw", "nl", "(CII)I"⟩ : MethodName)) hown (mvT hZ (own_w hw 63 rfl)) (mvT hZ (own_w hw 64 rfl)) (mvT hZ (own_w hw 3 rfl)) (mvT hZ (own_w hw 65 rfl)) (by decide) (backOf (W := 0) (rm11 l Z a0 hw [] x103 0 ko T438.heap n0 (Nat.le_trans Z0 K441.1) (by decide) (by omega)) hZ (own_w hw 65 rfl) (own_w hw 3 rfl) (by decide) (by decide)) (g := (mkF m 292 #[.val (.int p1), .val (.long q2), .second, .val (.int p3), .val (.int (5 : Int32)), .val (.int x103), .val (.int x107), .val (.int x111), .val (.int x115), .val (.int x119), .val (.int x123), .val (.ref b398), .val (.ref b416), .val (.int (Int32.ofNat ko)), .val (.ref b428), .val (.int (Int32.ofNat (own_nl [x103, x107, x111, x115, x119] ko + 1))), .unset] [(.int (Int32.ofNat ko)), (.int (0 : Int32)), (.int x103)])) rfl (by rw [hml]; rfl) (argsL := [(.int x103), (.int (0 : Int32)), (.int (Int32.ofNat ko))]) (rest := []) (lenOf pd17 rfl) rfl (by show 2 * 0 + _ ≤ _; exact Nat.le_of_eq rfl) (hb hby at_292) (fun _ _ => ⟨rfl, q443_hh, (by decide : 5 + 0 ≤ _), (by decide : 25 + 0 ≤ _)⟩)
  dsimp only [Pt.U, Pt.locs, Pt.cells, Pt.slots] at X445 l445 y445 z445 st445 hQ445
  subst l445 y445 z445
  obtain ⟨rfl, N445q, q445_hh⟩ := hQ445
  have N445 := Fr.app N443 N445q
  have p446 : Go p.tables e below _ (T445.setTop (mkF m 300 #[.val (.int p1), .val (.long q2), .second, .val (.int p3), .val (.int (5 : Int32)), .val (.int x103), .val (.int x107), .val (.int x111), .val (.int x115), .val (.int x119), .val (.int x123), .val (.ref b398), .val (.ref b416), .val (.int (Int32.ofNat ko)), .val (.ref b428), .val (.int (Int32.ofNat (own_nl [x103, x107, x111, x115, x119] ko + 1))), .unset] [(.int (Int32.ofNat ko)), (.int (1 : Int32)), (.int x107), (.int (own_n1 x103 0 ko))])) := fun t_ k_ => (gc p444 st445) t_ (by
   refine XS.iload X445.here hx rfl (hb hby at_295) rfl ?_
   refine XS.iconst X445.here hx rfl (hb hby at_297) ?_
   refine XS.iload X445.here hx rfl (hb hby at_298) rfl ?_
   exact k_)
  obtain ⟨_, _, ⟨T447, L447, k447, n447⟩, -, X447, ⟨Lc447, hQ447, l447, y447, z447⟩, st447⟩ := Jvm.LawKit.callS X445 hx (y := (⟨"com/example/subsume/subsume/model/LinesLinePinLaw", "nl", "(CII)I"⟩ : MethodName)) hown (mvT hZ (own_w hw 63 rfl)) (mvT hZ (own_w hw 64 rfl)) (mvT hZ (own_w hw 3 rfl)) (mvT hZ (own_w hw 65 rfl)) (by decide) (backOf (W := 1) (rm11 l Z a0 hw [] x107 1 ko T438.heap n0 (Nat.le_trans Z0 K441.1) (by decide) (by omega)) hZ (own_w hw 65 rfl) (own_w hw 3 rfl) (by decide) (by decide)) (g := (mkF m 300 #[.val (.int p1), .val (.long q2), .second, .val (.int p3), .val (.int (5 : Int32)), .val (.int x103), .val (.int x107), .val (.int x111), .val (.int x115), .val (.int x119), .val (.int x123), .val (.ref b398), .val (.ref b416), .val (.int (Int32.ofNat ko)), .val (.ref b428), .val (.int (Int32.ofNat (own_nl [x103, x107, x111, x115, x119] ko + 1))), .unset] [(.int (Int32.ofNat ko)), (.int (1 : Int32)), (.int x107), (.int (own_n1 x103 0 ko))])) rfl (by rw [hml]; rfl) (argsL := [(.int x107), (.int (1 : Int32)), (.int (Int32.ofNat ko))]) (rest := [(.int (own_n1 x103 0 ko))]) (lenOf pd17 rfl) rfl (by show 2 * 0 + _ ≤ _; exact Nat.le_of_eq rfl) (hb hby at_300) (fun _ _ => ⟨rfl, q445_hh, (by decide : 5 + 0 ≤ _), (by decide : 25 + 0 ≤ _)⟩)
  dsimp only [Pt.U, Pt.locs, Pt.cells, Pt.slots] at X447 l447 y447 z447 st447 hQ447
  subst l447 y447 z447
  obtain ⟨rfl, N447q, q447_hh⟩ := hQ447
  have N447 := Fr.app N445 N447q
  have p448 : Go p.tables e below _ (T447.setTop (mkF m 309 #[.val (.int p1), .val (.long q2), .second, .val (.int p3), .val (.int (5 : Int32)), .val (.int x103), .val (.int x107), .val (.int x111), .val (.int x115), .val (.int x119), .val (.int x123), .val (.ref b398), .val (.ref b416), .val (.int (Int32.ofNat ko)), .val (.ref b428), .val (.int (Int32.ofNat (own_nl [x103, x107, x111, x115, x119] ko + 1))), .unset] [(.int (Int32.ofNat ko)), (.int (2 : Int32)), (.int x111), (.int ((own_n1 x103 0 ko) + (own_n1 x107 1 ko)))])) := fun t_ k_ => (gc p446 st447) t_ (by
   refine XS.iadd X447.here hx rfl (hb hby at_303) rfl ?_
   refine XS.iload X447.here hx rfl (hb hby at_304) rfl ?_
   refine XS.iconst X447.here hx rfl (hb hby at_306) ?_
   refine XS.iload X447.here hx rfl (hb hby at_307) rfl ?_
   exact k_)
  obtain ⟨_, _, ⟨T449, L449, k449, n449⟩, -, X449, ⟨Lc449, hQ449, l449, y449, z449⟩, st449⟩ := Jvm.LawKit.callS X447 hx (y := (⟨"com/example/subsume/subsume/model/LinesLinePinLaw", "nl", "(CII)I"⟩ : MethodName)) hown (mvT hZ (own_w hw 63 rfl)) (mvT hZ (own_w hw 64 rfl)) (mvT hZ (own_w hw 3 rfl)) (mvT hZ (own_w hw 65 rfl)) (by decide) (backOf (W := 1) (rm11 l Z a0 hw [] x111 2 ko T438.heap n0 (Nat.le_trans Z0 K441.1) (by decide) (by omega)) hZ (own_w hw 65 rfl) (own_w hw 3 rfl) (by decide) (by decide)) (g := (mkF m 309 #[.val (.int p1), .val (.long q2), .second, .val (.int p3), .val (.int (5 : Int32)), .val (.int x103), .val (.int x107), .val (.int x111), .val (.int x115), .val (.int x119), .val (.int x123), .val (.ref b398), .val (.ref b416), .val (.int (Int32.ofNat ko)), .val (.ref b428), .val (.int (Int32.ofNat (own_nl [x103, x107, x111, x115, x119] ko + 1))), .unset] [(.int (Int32.ofNat ko)), (.int (2 : Int32)), (.int x111), (.int ((own_n1 x103 0 ko) + (own_n1 x107 1 ko)))])) rfl (by rw [hml]; rfl) (argsL := [(.int x111), (.int (2 : Int32)), (.int (Int32.ofNat ko))]) (rest := [(.int ((own_n1 x103 0 ko) + (own_n1 x107 1 ko)))]) (lenOf pd17 rfl) rfl (by show 2 * 0 + _ ≤ _; exact Nat.le_of_eq rfl) (hb hby at_309) (fun _ _ => ⟨rfl, q447_hh, (by decide : 5 + 0 ≤ _), (by decide : 25 + 0 ≤ _)⟩)
  dsimp only [Pt.U, Pt.locs, Pt.cells, Pt.slots] at X449 l449 y449 z449 st449 hQ449
  subst l449 y449 z449
  obtain ⟨rfl, N449q, q449_hh⟩ := hQ449
  have N449 := Fr.app N447 N449q
  have p450 : Go p.tables e below _ (T449.setTop (mkF m 318 #[.val (.int p1), .val (.long q2), .second, .val (.int p3), .val (.int (5 : Int32)), .val (.int x103), .val (.int x107), .val (.int x111), .val (.int x115), .val (.int x119), .val (.int x123), .val (.ref b398), .val (.ref b416), .val (.int (Int32.ofNat ko)), .val (.ref b428), .val (.int (Int32.ofNat (own_nl [x103, x107, x111, x115, x119] ko + 1))), .unset] [(.int (Int32.ofNat ko)), (.int (3 : Int32)), (.int x115), (.int (((own_n1 x103 0 ko) + (own_n1 x107 1 ko)) + (own_n1 x111 2 ko)))])) := fun t_ k_ => (gc p448 st449) t_ (by
   refine XS.iadd X449.here hx rfl (hb hby at_312) rfl ?_
   refine XS.iload X449.here hx rfl (hb hby at_313) rfl ?_
   refine XS.iconst X449.here hx rfl (hb hby at_315) ?_
   refine XS.iload X449.here hx rfl (hb hby at_316) rfl ?_
   exact k_)
  obtain ⟨_, _, ⟨T451, L451, k451, n451⟩, -, X451, ⟨Lc451, hQ451, l451, y451, z451⟩, st451⟩ := Jvm.LawKit.callS X449 hx (y := (⟨"com/example/subsume/subsume/model/LinesLinePinLaw", "nl", "(CII)I"⟩ : MethodName)) hown (mvT hZ (own_w hw 63 rfl)) (mvT hZ (own_w hw 64 rfl)) (mvT hZ (own_w hw 3 rfl)) (mvT hZ (own_w hw 65 rfl)) (by decide) (backOf (W := 1) (rm11 l Z a0 hw [] x115 3 ko T438.heap n0 (Nat.le_trans Z0 K441.1) (by decide) (by omega)) hZ (own_w hw 65 rfl) (own_w hw 3 rfl) (by decide) (by decide)) (g := (mkF m 318 #[.val (.int p1), .val (.long q2), .second, .val (.int p3), .val (.int (5 : Int32)), .val (.int x103), .val (.int x107), .val (.int x111), .val (.int x115), .val (.int x119), .val (.int x123), .val (.ref b398), .val (.ref b416), .val (.int (Int32.ofNat ko)), .val (.ref b428), .val (.int (Int32.ofNat (own_nl [x103, x107, x111, x115, x119] ko + 1))), .unset] [(.int (Int32.ofNat ko)), (.int (3 : Int32)), (.int x115), (.int (((own_n1 x103 0 ko) + (own_n1 x107 1 ko)) + (own_n1 x111 2 ko)))])) rfl (by rw [hml]; rfl) (argsL := [(.int x115), (.int (3 : Int32)), (.int (Int32.ofNat ko))]) (rest := [(.int (((own_n1 x103 0 ko) + (own_n1 x107 1 ko)) + (own_n1 x111 2 ko)))]) (lenOf pd17 rfl) rfl (by show 2 * 0 + _ ≤ _; exact Nat.le_of_eq rfl) (hb hby at_318) (fun _ _ => ⟨rfl, q449_hh, (by decide : 5 + 0 ≤ _), (by decide : 25 + 0 ≤ _)⟩)
  dsimp only [Pt.U, Pt.locs, Pt.cells, Pt.slots] at X451 l451 y451 z451 st451 hQ451
  subst l451 y451 z451
  obtain ⟨rfl, N451q, q451_hh⟩ := hQ451
  have N451 := Fr.app N449 N451q
  have p452 : Go p.tables e below _ (T451.setTop (mkF m 327 #[.val (.int p1), .val (.long q2), .second, .val (.int p3), .val (.int (5 : Int32)), .val (.int x103), .val (.int x107), .val (.int x111), .val (.int x115), .val (.int x119), .val (.int x123), .val (.ref b398), .val (.ref b416), .val (.int (Int32.ofNat ko)), .val (.ref b428), .val (.int (Int32.ofNat (own_nl [x103, x107, x111, x115, x119] ko + 1))), .unset] [(.int (Int32.ofNat ko)), (.int (4 : Int32)), (.int x119), (.int ((((own_n1 x103 0 ko) + (own_n1 x107 1 ko)) + (own_n1 x111 2 ko)) + (own_n1 x115 3 ko)))])) := fun t_ k_ => (gc p450 st451) t_ (by
   refine XS.iadd X451.here hx rfl (hb hby at_321) rfl ?_
   refine XS.iload X451.here hx rfl (hb hby at_322) rfl ?_
   refine XS.iconst X451.here hx rfl (hb hby at_324) ?_
   refine XS.iload X451.here hx rfl (hb hby at_325) rfl ?_
   exact k_)
  obtain ⟨_, _, ⟨T453, L453, k453, n453⟩, -, X453, ⟨Lc453, hQ453, l453, y453, z453⟩, st453⟩ := Jvm.LawKit.callS X451 hx (y := (⟨"com/example/subsume/subsume/model/LinesLinePinLaw", "nl", "(CII)I"⟩ : MethodName)) hown (mvT hZ (own_w hw 63 rfl)) (mvT hZ (own_w hw 64 rfl)) (mvT hZ (own_w hw 3 rfl)) (mvT hZ (own_w hw 65 rfl)) (by decide) (backOf (W := 1) (rm11 l Z a0 hw [] x119 4 ko T438.heap n0 (Nat.le_trans Z0 K441.1) (by decide) (by omega)) hZ (own_w hw 65 rfl) (own_w hw 3 rfl) (by decide) (by decide)) (g := (mkF m 327 #[.val (.int p1), .val (.long q2), .second, .val (.int p3), .val (.int (5 : Int32)), .val (.int x103), .val (.int x107), .val (.int x111), .val (.int x115), .val (.int x119), .val (.int x123), .val (.ref b398), .val (.ref b416), .val (.int (Int32.ofNat ko)), .val (.ref b428), .val (.int (Int32.ofNat (own_nl [x103, x107, x111, x115, x119] ko + 1))), .unset] [(.int (Int32.ofNat ko)), (.int (4 : Int32)), (.int x119), (.int ((((own_n1 x103 0 ko) + (own_n1 x107 1 ko)) + (own_n1 x111 2 ko)) + (own_n1 x115 3 ko)))])) rfl (by rw [hml]; rfl) (argsL := [(.int x119), (.int (4 : Int32)), (.int (Int32.ofNat ko))]) (rest := [(.int ((((own_n1 x103 0 ko) + (own_n1 x107 1 ko)) + (own_n1 x111 2 ko)) + (own_n1 x115 3 ko)))]) (lenOf pd17 rfl) rfl (by show 2 * 0 + _ ≤ _; exact Nat.le_of_eq rfl) (hb hby at_327) (fun _ _ => ⟨rfl, q451_hh, (by decide : 5 + 0 ≤ _), (by decide : 25 + 0 ≤ _)⟩)
  dsimp only [Pt.U, Pt.locs, Pt.cells, Pt.slots] at X453 l453 y453 z453 st453 hQ453
  subst l453 y453 z453
  obtain ⟨rfl, N453q, q453_hh⟩ := hQ453
  have N453 := Fr.app N451 N453q
  have p454 : Go p.tables e below _ (T453.setTop (mkF m 336 #[.val (.int p1), .val (.long q2), .second, .val (.int p3), .val (.int (5 : Int32)), .val (.int x103), .val (.int x107), .val (.int x111), .val (.int x115), .val (.int x119), .val (.int x123), .val (.ref b398), .val (.ref b416), .val (.int (Int32.ofNat ko)), .val (.ref b428), .val (.int (Int32.ofNat (own_nl [x103, x107, x111, x115, x119] ko + 1))), .unset] [(.int (Int32.ofNat ko)), (.int (5 : Int32)), (.int x123), (.int (((((own_n1 x103 0 ko) + (own_n1 x107 1 ko)) + (own_n1 x111 2 ko)) + (own_n1 x115 3 ko)) + (own_n1 x119 4 ko)))])) := fun t_ k_ => (gc p452 st453) t_ (by
   refine XS.iadd X453.here hx rfl (hb hby at_330) rfl ?_
   refine XS.iload X453.here hx rfl (hb hby at_331) rfl ?_
   refine XS.iconst X453.here hx rfl (hb hby at_333) ?_
   refine XS.iload X453.here hx rfl (hb hby at_334) rfl ?_
   exact k_)
  obtain ⟨_, _, ⟨T455, L455, k455, n455⟩, -, X455, ⟨Lc455, hQ455, l455, y455, z455⟩, st455⟩ := Jvm.LawKit.callS X453 hx (y := (⟨"com/example/subsume/subsume/model/LinesLinePinLaw", "nl", "(CII)I"⟩ : MethodName)) hown (mvT hZ (own_w hw 63 rfl)) (mvT hZ (own_w hw 64 rfl)) (mvT hZ (own_w hw 3 rfl)) (mvT hZ (own_w hw 65 rfl)) (by decide) (backOf (W := 1) (rm11 l Z a0 hw [] x123 5 ko T438.heap n0 (Nat.le_trans Z0 K441.1) (by decide) (by omega)) hZ (own_w hw 65 rfl) (own_w hw 3 rfl) (by decide) (by decide)) (g := (mkF m 336 #[.val (.int p1), .val (.long q2), .second, .val (.int p3), .val (.int (5 : Int32)), .val (.int x103), .val (.int x107), .val (.int x111), .val (.int x115), .val (.int x119), .val (.int x123), .val (.ref b398), .val (.ref b416), .val (.int (Int32.ofNat ko)), .val (.ref b428), .val (.int (Int32.ofNat (own_nl [x103, x107, x111, x115, x119] ko + 1))), .unset] [(.int (Int32.ofNat ko)), (.int (5 : Int32)), (.int x123), (.int (((((own_n1 x103 0 ko) + (own_n1 x107 1 ko)) + (own_n1 x111 2 ko)) + (own_n1 x115 3 ko)) + (own_n1 x119 4 ko)))])) rfl (by rw [hml]; rfl) (argsL := [(.int x123), (.int (5 : Int32)), (.int (Int32.ofNat ko))]) (rest := [(.int (((((own_n1 x103 0 ko) + (own_n1 x107 1 ko)) + (own_n1 x111 2 ko)) + (own_n1 x115 3 ko)) + (own_n1 x119 4 ko)))]) (lenOf pd17 rfl) rfl (by show 2 * 0 + _ ≤ _; exact Nat.le_of_eq rfl) (hb hby at_336) (fun _ _ => ⟨rfl, q453_hh, (by decide : 5 + 0 ≤ _), (by decide : 25 + 0 ≤ _)⟩)
  dsimp only [Pt.U, Pt.locs, Pt.cells, Pt.slots] at X455 l455 y455 z455 st455 hQ455
  subst l455 y455 z455
  obtain ⟨rfl, N455q, q455_hh⟩ := hQ455
  have N455 := Fr.app N453 N455q
  have p456 : Go p.tables e below _ (T455.setTop (mkF m 348 #[.val (.int p1), .val (.long q2), .second, .val (.int p3), .val (.int (5 : Int32)), .val (.int x103), .val (.int x107), .val (.int x111), .val (.int x115), .val (.int x119), .val (.int x123), .val (.ref b398), .val (.ref b416), .val (.int (Int32.ofNat ko)), .val (.ref b428), .val (.int (Int32.ofNat (own_nl [x103, x107, x111, x115, x119] ko + 1))), .val (.int ((((((own_n1 x103 0 ko) + (own_n1 x107 1 ko)) + (own_n1 x111 2 ko)) + (own_n1 x115 3 ko)) + (own_n1 x119 4 ko)) + (own_n1 x123 5 ko)))] [(.int ((1 : Int32) + ((((((own_n1 x103 0 ko) + (own_n1 x107 1 ko)) + (own_n1 x111 2 ko)) + (own_n1 x115 3 ko)) + (own_n1 x119 4 ko)) + (own_n1 x123 5 ko)))), (.int (Int32.ofNat (own_nl [x103, x107, x111, x115, x119] ko + 1)))])) := fun t_ k_ => (gc p454 st455) t_ (by
   refine XS.iadd X455.here hx rfl (hb hby at_339) rfl ?_
   refine XS.istore X455.here hx rfl (hb hby at_340) rfl (l' := #[.val (.int p1), .val (.long q2), .second, .val (.int p3), .val (.int (5 : Int32)), .val (.int x103), .val (.int x107), .val (.int x111), .val (.int x115), .val (.int x119), .val (.int x123), .val (.ref b398), .val (.ref b416), .val (.int (Int32.ofNat ko)), .val (.ref b428), .val (.int (Int32.ofNat (own_nl [x103, x107, x111, x115, x119] ko + 1))), .val (.int ((((((own_n1 x103 0 ko) + (own_n1 x107 1 ko)) + (own_n1 x111 2 ko)) + (own_n1 x115 3 ko)) + (own_n1 x119 4 ko)) + (own_n1 x123 5 ko)))]) rfl ?_
   refine XS.iload X455.here hx rfl (hb hby at_342) rfl ?_
   refine XS.iconst X455.here hx rfl (hb hby at_344) ?_
   refine XS.iload X455.here hx rfl (hb hby at_345) rfl ?_
   refine XS.iadd X455.here hx rfl (hb hby at_347) rfl ?_
   exact k_)
  have c457 : ((Int32.ofNat (own_nl [x103, x107, x111, x115, x119] ko + 1)) = ((1 : Int32) + ((((((own_n1 x103 0 ko) + (own_n1 x107 1 ko)) + (own_n1 x111 2 ko)) + (own_n1 x115 3 ko)) + (own_n1 x119 4 ko)) + (own_n1 x123 5 ko)))) := own_fin5 x103 x107 x111 x115 x119 x123 ko hko
  have p458 : Go p.tables e below _ (T455.setTop (mkF m 356 #[.val (.int p1), .val (.long q2), .second, .val (.int p3), .val (.int (5 : Int32)), .val (.int x103), .val (.int x107), .val (.int x111), .val (.int x115), .val (.int x119), .val (.int x123), .val (.ref b398), .val (.ref b416), .val (.int (Int32.ofNat ko)), .val (.ref b428), .val (.int (Int32.ofNat (own_nl [x103, x107, x111, x115, x119] ko + 1))), .val (.int ((((((own_n1 x103 0 ko) + (own_n1 x107 1 ko)) + (own_n1 x111 2 ko)) + (own_n1 x115 3 ko)) + (own_n1 x119 4 ko)) + (own_n1 x123 5 ko)))] [(.int (1 : Int32))])) := fun t_ k_ => p456 t_ (by
   refine XS.icmpNo X455.here hx rfl (hb hby at_348) rfl (teq c457).2 ?_
   refine XS.iconst X455.here hx rfl (hb hby at_351) ?_
   refine XS.goto X455.here hx rfl (pc0 := 352) (pc' := 356) rfl (hb hby at_352) (by decide) (by decide) ?_
   exact k_)
  obtain ⟨fs, hr, hrun, hended, hW, hsame⟩ := X455.leave (v := some (.int (1 : Int32))) (fun h => by rw [Bd.returns] at h; cases h)
  refine ⟨_, _, p458 _ (retN X455 hx (t := .boolean) Bd.returns (by simp) (hb hby at_356) hr), hrun, hended, _, _, rfl, ?_, ReturnedEndW.of_narrow ⟨_, rfl⟩ hW (hsame.mono (by decide) (by decide))⟩
  show Q0 Z p1 q2 p3 cs1 fm h0 n0 _ T455.heap _
  rw [q455_hh]
  exact ⟨rfl, N455⟩
 ·have p459 : Go p.tables e below (s₁.setTop (entryFrame m #[(.int p1), (.long q2), (.int p3)] maxLocals)) (T122.setTop (mkF m 51 #[.val (.int p1), .val (.long q2), .second, .val (.int p3), .val (.int (6 : Int32)), .val (.int x103), .val (.int x107), .val (.int x111), .val (.int x115), .val (.int x119), .val (.int x123), .unset, .unset, .unset, .unset, .unset, .unset] [])) := by have z := p125; rw [ro] at z; exact z
  have p460 : Go p.tables e below _ (T122.setTop (mkF m 211 #[.val (.int p1), .val (.long q2), .second, .val (.int p3), .val (.int (6 : Int32)), .val (.int x103), .val (.int x107), .val (.int x111), .val (.int x115), .val (.int x119), .val (.int x123), .unset, .unset, .unset, .unset, .unset, .unset] [(.int (6 : Int32))])) := fun t_ k_ => p459 t_ (by
   refine XS.iload X122.here hx rfl (hb hby at_51) rfl ?_
   refine XS.ifYes X122.here hx rfl (pc0 := 53) (pc' := 64) rfl (hb hby at_53) rfl ((if0 _ _).trans (feq (by decide : ¬ ((6 : Int32) = (0 : Int32)))).2) (by decide) (by decide) ?_
   refine XS.iload X122.here hx rfl (hb hby at_64) rfl ?_
   refine XS.iconst X122.here hx rfl (hb hby at_66) ?_
   refine XS.icmpYes X122.here hx rfl (pc0 := 67) (pc' := 83) rfl (hb hby at_67) rfl (feq (by decide : ¬ ((6 : Int32) = (1 : Int32)))).2 (by decide) (by decide) ?_
   refine XS.iload X122.here hx rfl (hb hby at_83) rfl ?_
   refine XS.iconst X122.here hx rfl (hb hby at_85) ?_
   refine XS.icmpYes X122.here hx rfl (pc0 := 86) (pc' := 107) rfl (hb hby at_86) rfl (feq (by decide : ¬ ((6 : Int32) = (2 : Int32)))).2 (by decide) (by decide) ?_
   refine XS.iload X122.here hx rfl (hb hby at_107) rfl ?_
   refine XS.iconst X122.here hx rfl (hb hby at_109) ?_
   refine XS.icmpYes X122.here hx rfl (pc0 := 110) (pc' := 136) rfl (hb hby at_110) rfl (feq (by decide : ¬ ((6 : Int32) = (3 : Int32)))).2 (by decide) (by decide) ?_
   refine XS.iload X122.here hx rfl (hb hby at_136) rfl ?_
   refine XS.iconst X122.here hx rfl (hb hby at_138) ?_
   refine XS.icmpYes X122.here hx rfl (pc0 := 139) (pc' := 170) rfl (hb hby at_139) rfl (feq (by decide : ¬ ((6 : Int32) = (4 : Int32)))).2 (by decide) (by decide) ?_
   refine XS.iload X122.here hx rfl (hb hby at_170) rfl ?_
   refine XS.iconst X122.here hx rfl (hb hby at_172) ?_
   refine XS.icmpYes X122.here hx rfl (pc0 := 173) (pc' := 209) rfl (hb hby at_173) rfl (feq (by decide : ¬ ((6 : Int32) = (5 : Int32)))).2 (by decide) (by decide) ?_
   refine XS.bipush X122.here hx rfl (hb hby at_209) ?_
   exact k_)
  obtain ⟨T461, h461, k461, X461, e461, E461, A461, st461⟩ := newP X122 hx hZ (own_w hw 6 rfl) q122_hh (g := (mkF m 211 #[.val (.int p1), .val (.long q2), .second, .val (.int p3), .val (.int (6 : Int32)), .val (.int x103), .val (.int x107), .val (.int x111), .val (.int x115), .val (.int x119), .val (.int x123), .unset, .unset, .unset, .unset, .unset, .unset] [(.int (6 : Int32))])) rfl (hb hby at_211) rfl (by decide) (cap := 6) (by decide) (by decide) (by decide) (by decide)
  obtain ⟨b461, g461⟩ : ∃ z, z = h0.size := ⟨_, rfl⟩
  rw [← g461] at A461 st461
  have ge_b461 : n0 ≤ b461 := Nat.le_trans (Nat.le_trans Z0 (Keep.refl h0 []).1) (Nat.le_of_eq g461.symm)
  have sz_b461 : h0.size ≤ b461 := Nat.le_trans (Keep.refl h0 []).1 (Nat.le_of_eq g461.symm)
  have K462 : Keep h0 h461 [] := (Keep.refl h0 []).ext E461
  have V461 : Arv Z h461 b461 k461 .char (6 : Int32) [(.int (0 : Int32)), (.int (0 : Int32)), (.int (0 : Int32)), (.int (0 : Int32)), (.int (0 : Int32)), (.int (0 : Int32))] (.int (0 : Int32)) := (Arv.new A461 (by decide)).pad (pad_rep [] (.int (0 : Int32)) 6)
  have p463 : Go p.tables e below _ (T461.setTop (mkF m 217 #[.val (.int p1), .val (.long q2), .second, .val (.int p3), .val (.int (6 : Int32)), .val (.int x103), .val (.int x107), .val (.int x111), .val (.int x115), .val (.int x119), .val (.int x123), .unset, .unset, .unset, .unset, .unset, .unset] [(.int x103), (.int (0 : Int32)), (.ref b461), (.ref b461)])) := fun t_ k_ => (gc p460 st461) t_ (by
   refine XS.dup X461.here hx rfl (hb hby at_213) rfl rfl ?_
   refine XS.iconst X461.here hx rfl (hb hby at_214) ?_
   refine XS.iload X461.here hx rfl (hb hby at_215) rfl ?_
   exact k_)
  obtain ⟨cl464, Ar464, q464, S464, Ng464, H464, G464⟩ := id V461
  have hin464 := inb_of S464 (j := (0 : Int32)) ⟨by decide, by decide⟩
  obtain ⟨T464, h464, X464, e464, W464, st464⟩ := stC X461 hx hZ e461 Ar464 (j := (0 : Int32)) hin464 (g := (mkF m 217 #[.val (.int p1), .val (.long q2), .second, .val (.int p3), .val (.int (6 : Int32)), .val (.int x103), .val (.int x107), .val (.int x111), .val (.int x115), .val (.int x119), .val (.int x123), .unset, .unset, .unset, .unset, .unset, .unset] [(.int x103), (.int (0 : Int32)), (.ref b461), (.ref b461)])) rfl rfl (hb hby at_217)
  have K465 : Keep h0 h464 [] := K462.wr W464 (Or.inr sz_b461)
  have N464 := Fr.snoc X464 N122 ge_b461
  have V464 : Arv Z h464 b461 k461 .char (6 : Int32) [(.int (nar .char x103)), (.int (0 : Int32)), (.int (0 : Int32)), (.int (0 : Int32)), (.int (0 : Int32)), (.int (0 : Int32))] (.int (0 : Int32)) := Arv.set Ar464 q464 S464 Ng464 H464 G464 (fits_nar_char _) W464 0 rfl (Nat.le_of_ble_eq_true rfl)
  have p466 : Go p.tables e below _ (T464.setTop (mkF m 222 #[.val (.int p1), .val (.long q2), .second, .val (.int p3), .val (.int (6 : Int32)), .val (.int x103), .val (.int x107), .val (.int x111), .val (.int x115), .val (.int x119), .val (.int x123), .unset, .unset, .unset, .unset, .unset, .unset] [(.int x107), (.int (1 : Int32)), (.ref b461), (.ref b461)])) := fun t_ k_ => (gc p463 st464) t_ (by
   refine XS.dup X464.here hx rfl (hb hby at_218) rfl rfl ?_
   refine XS.iconst X464.here hx rfl (hb hby at_219) ?_
   refine XS.iload X464.here hx rfl (hb hby at_220) rfl ?_
   exact k_)
  obtain ⟨cl467, Ar467, q467, S467, Ng467, H467, G467⟩ := id V464
  have hin467 := inb_of S467 (j := (1 : Int32)) ⟨by decide, by decide⟩
  obtain ⟨T467, h467, X467, e467, W467, st467⟩ := stC X464 hx hZ e464 Ar467 (j := (1 : Int32)) hin467 (g := (mkF m 222 #[.val (.int p1), .val (.long q2), .second, .val (.int p3), .val (.int (6 : Int32)), .val (.int x103), .val (.int x107), .val (.int x111), .val (.int x115), .val (.int x119), .val (.int x123), .unset, .unset, .unset, .unset, .unset, .unset] [(.int x107), (.int (1 : Int32)), (.ref b461), (.ref b461)])) rfl rfl (hb hby at_222)
  have K468 : Keep h0 h467 [] := K465.wr W467 (Or.inr sz_b461)
  have N467 := Fr.snoc X467 N464 ge_b461
  have V467 : Arv Z h467 b461 k461 .char (6 : Int32) [(.int (nar .char x103)), (.int (nar .char x107)), (.int (0 : Int32)), (.int (0 : Int32)), (.int (0 : Int32)), (.int (0 : Int32))] (.int (0 : Int32)) := Arv.set Ar467 q467 S467 Ng467 H467 G467 (fits_nar_char _) W467 1 rfl (Nat.le_of_ble_eq_true rfl)
  have p469 : Go p.tables e below _ (T467.setTop (mkF m 227 #[.val (.int p1), .val (.long q2), .second, .val (.int p3), .val (.int (6 : Int32)), .val (.int x103), .val (.int x107), .val (.int x111), .val (.int x115), .val (.int x119), .val (.int x123), .unset, .unset, .unset, .unset, .unset, .unset] [(.int x111), (.int (2 : Int32)), (.ref b461), (.ref b461)])) := fun t_ k_ => (gc p466 st467) t_ (by
   refine XS.dup X467.here hx rfl (hb hby at_223) rfl rfl ?_
   refine XS.iconst X467.here hx rfl (hb hby at_224) ?_
   refine XS.iload X467.here hx rfl (hb hby at_225) rfl ?_
   exact k_)
  obtain ⟨cl470, Ar470, q470, S470, Ng470, H470, G470⟩ := id V467
  have hin470 := inb_of S470 (j := (2 : Int32)) ⟨by decide, by decide⟩
  obtain ⟨T470, h470, X470, e470, W470, st470⟩ := stC X467 hx hZ e467 Ar470 (j := (2 : Int32)) hin470 (g := (mkF m 227 #[.val (.int p1), .val (.long q2), .second, .val (.int p3), .val (.int (6 : Int32)), .val (.int x103), .val (.int x107), .val (.int x111), .val (.int x115), .val (.int x119), .val (.int x123), .unset, .unset, .unset, .unset, .unset, .unset] [(.int x111), (.int (2 : Int32)), (.ref b461), (.ref b461)])) rfl rfl (hb hby at_227)
  have K471 : Keep h0 h470 [] := K468.wr W470 (Or.inr sz_b461)
  have N470 := Fr.snoc X470 N467 ge_b461
  have V470 : Arv Z h470 b461 k461 .char (6 : Int32) [(.int (nar .char x103)), (.int (nar .char x107)), (.int (nar .char x111)), (.int (0 : Int32)), (.int (0 : Int32)), (.int (0 : Int32))] (.int (0 : Int32)) := Arv.set Ar470 q470 S470 Ng470 H470 G470 (fits_nar_char _) W470 2 rfl (Nat.le_of_ble_eq_true rfl)
  have p472 : Go p.tables e below _ (T470.setTop (mkF m 232 #[.val (.int p1), .val (.long q2), .second, .val (.int p3), .val (.int (6 : Int32)), .val (.int x103), .val (.int x107), .val (.int x111), .val (.int x115), .val (.int x119), .val (.int x123), .unset, .unset, .unset, .unset, .unset, .unset] [(.int x115), (.int (3 : Int32)), (.ref b461), (.ref b461)])) := fun t_ k_ => (gc p469 st470) t_ (by
   refine XS.dup X470.here hx rfl (hb hby at_228) rfl rfl ?_
   refine XS.iconst X470.here hx rfl (hb hby at_229) ?_
   refine XS.iload X470.here hx rfl (hb hby at_230) rfl ?_
   exact k_)
  obtain ⟨cl473, Ar473, q473, S473, Ng473, H473, G473⟩ := id V470
  have hin473 := inb_of S473 (j := (3 : Int32)) ⟨by decide, by decide⟩
  obtain ⟨T473, h473, X473, e473, W473, st473⟩ := stC X470 hx hZ e470 Ar473 (j := (3 : Int32)) hin473 (g := (mkF m 232 #[.val (.int p1), .val (.long q2), .second, .val (.int p3), .val (.int (6 : Int32)), .val (.int x103), .val (.int x107), .val (.int x111), .val (.int x115), .val (.int x119), .val (.int x123), .unset, .unset, .unset, .unset, .unset, .unset] [(.int x115), (.int (3 : Int32)), (.ref b461), (.ref b461)])) rfl rfl (hb hby at_232)
  have K474 : Keep h0 h473 [] := K471.wr W473 (Or.inr sz_b461)
  have N473 := Fr.snoc X473 N470 ge_b461
  have V473 : Arv Z h473 b461 k461 .char (6 : Int32) [(.int (nar .char x103)), (.int (nar .char x107)), (.int (nar .char x111)), (.int (nar .char x115)), (.int (0 : Int32)), (.int (0 : Int32))] (.int (0 : Int32)) := Arv.set Ar473 q473 S473 Ng473 H473 G473 (fits_nar_char _) W473 3 rfl (Nat.le_of_ble_eq_true rfl)
  have p475 : Go p.tables e below _ (T473.setTop (mkF m 237 #[.val (.int p1), .val (.long q2), .second, .val (.int p3), .val (.int (6 : Int32)), .val (.int x103), .val (.int x107), .val (.int x111), .val (.int x115), .val (.int x119), .val (.int x123), .unset, .unset, .unset, .unset, .unset, .unset] [(.int x119), (.int (4 : Int32)), (.ref b461), (.ref b461)])) := fun t_ k_ => (gc p472 st473) t_ (by
   refine XS.dup X473.here hx rfl (hb hby at_233) rfl rfl ?_
   refine XS.iconst X473.here hx rfl (hb hby at_234) ?_
   refine XS.iload X473.here hx rfl (hb hby at_235) rfl ?_
   exact k_)
  obtain ⟨cl476, Ar476, q476, S476, Ng476, H476, G476⟩ := id V473
  have hin476 := inb_of S476 (j := (4 : Int32)) ⟨by decide, by decide⟩
  obtain ⟨T476, h476, X476, e476, W476, st476⟩ := stC X473 hx hZ e473 Ar476 (j := (4 : Int32)) hin476 (g := (mkF m 237 #[.val (.int p1), .val (.long q2), .second, .val (.int p3), .val (.int (6 : Int32)), .val (.int x103), .val (.int x107), .val (.int x111), .val (.int x115), .val (.int x119), .val (.int x123), .unset, .unset, .unset, .unset, .unset, .unset] [(.int x119), (.int (4 : Int32)), (.ref b461), (.ref b461)])) rfl rfl (hb hby at_237)
  have K477 : Keep h0 h476 [] := K474.wr W476 (Or.inr sz_b461)
  have N476 := Fr.snoc X476 N473 ge_b461
  have V476 : Arv Z h476 b461 k461 .char (6 : Int32) [(.int (nar .char x103)), (.int (nar .char x107)), (.int (nar .char x111)), (.int (nar .char x115)), (.int (nar .char x119)), (.int (0 : Int32))] (.int (0 : Int32)) := Arv.set Ar476 q476 S476 Ng476 H476 G476 (fits_nar_char _) W476 4 rfl (Nat.le_of_ble_eq_true rfl)
  have p478 : Go p.tables e below _ (T476.setTop (mkF m 242 #[.val (.int p1), .val (.long q2), .second, .val (.int p3), .val (.int (6 : Int32)), .val (.int x103), .val (.int x107), .val (.int x111), .val (.int x115), .val (.int x119), .val (.int x123), .unset, .unset, .unset, .unset, .unset, .unset] [(.int x123), (.int (5 : Int32)), (.ref b461), (.ref b461)])) := fun t_ k_ => (gc p475 st476) t_ (by
   refine XS.dup X476.here hx rfl (hb hby at_238) rfl rfl ?_
   refine XS.iconst X476.here hx rfl (hb hby at_239) ?_
   refine XS.iload X476.here hx rfl (hb hby at_240) rfl ?_
   exact k_)
  obtain ⟨cl479, Ar479, q479, S479, Ng479, H479, G479⟩ := id V476
  have hin479 := inb_of S479 (j := (5 : Int32)) ⟨by decide, by decide⟩
  obtain ⟨T479, h479, X479, e479, W479, st479⟩ := stC X476 hx hZ e476 Ar479 (j := (5 : Int32)) hin479 (g := (mkF m 242 #[.val (.int p1), .val (.long q2), .second, .val (.int p3), .val (.int (6 : Int32)), .val (.int x103), .val (.int x107), .val (.int x111), .val (.int x115), .val (.int x119), .val (.int x123), .unset, .unset, .unset, .unset, .unset, .unset] [(.int x123), (.int (5 : Int32)), (.ref b461), (.ref b461)])) rfl rfl (hb hby at_242)
  have K480 : Keep h0 h479 [] := K477.wr W479 (Or.inr sz_b461)
  have N479 := Fr.snoc X479 N476 ge_b461
  have V479 : Arv Z h479 b461 k461 .char (6 : Int32) [(.int (nar .char x103)), (.int (nar .char x107)), (.int (nar .char x111)), (.int (nar .char x115)), (.int (nar .char x119)), (.int (nar .char x123))] (.int (0 : Int32)) := Arv.set Ar479 q479 S479 Ng479 H479 G479 (fits_nar_char _) W479 5 rfl (Nat.le_of_ble_eq_true rfl)
  have p481 : Go p.tables e below _ (T479.setTop (mkF m 245 #[.val (.int p1), .val (.long q2), .second, .val (.int p3), .val (.int (6 : Int32)), .val (.int x103), .val (.int x107), .val (.int x111), .val (.int x115), .val (.int x119), .val (.int x123), .val (.ref b461), .unset, .unset, .unset, .unset, .unset] [])) := fun t_ k_ => (gc p478 st479) t_ (by
   refine XS.astore X479.here hx rfl (hb hby at_243) rfl rfl (l' := #[.val (.int p1), .val (.long q2), .second, .val (.int p3), .val (.int (6 : Int32)), .val (.int x103), .val (.int x107), .val (.int x111), .val (.int x115), .val (.int x119), .val (.int x123), .val (.ref b461), .unset, .unset, .unset, .unset, .unset]) rfl ?_
   exact k_)
  obtain ⟨T482, h482, X482, e482, E482, A482, D482, -, st482⟩ := newO X479 hx hZ hown (own_w hw 7 rfl) (own_w hw 8 rfl) (own_w hw 9 rfl) e479 (g := (mkF m 245 #[.val (.int p1), .val (.long q2), .second, .val (.int p3), .val (.int (6 : Int32)), .val (.int x103), .val (.int x107), .val (.int x111), .val (.int x115), .val (.int x119), .val (.int x123), .val (.ref b461), .unset, .unset, .unset, .unset, .unset] [])) rfl (hb hby at_245) (by decide) (by decide)
  obtain ⟨b482, g482⟩ : ∃ z, z = h479.size := ⟨_, rfl⟩
  rw [← g482] at A482 D482 st482
  have ne_b461_b482 : b461 ≠ b482 := Nat.ne_of_lt (Nat.lt_of_lt_of_le V479.lt (Nat.le_of_eq g482.symm))
  have ge_b482 : n0 ≤ b482 := Nat.le_trans (Nat.le_trans Z0 K480.1) (Nat.le_of_eq g482.symm)
  have sz_b482 : h0.size ≤ b482 := Nat.le_trans K480.1 (Nat.le_of_eq g482.symm)
  have K483 : Keep h0 h482 [] := K480.ext E482
  have F482_value : Fld Z h482 b482 "java/lang/String" "value" "[B" .null := D482 (Or.inr (own_w hw 22 rfl)) (ty := (.array .byte)) (by decide)
  have F482_coder : Fld Z h482 b482 "java/lang/String" "coder" "B" (.int (0 : Int32)) := D482 (Or.inr (own_w hw 23 rfl)) (ty := .byte) (by decide)
  have p484 : Go p.tables e below _ (T482.setTop (mkF m 251 #[.val (.int p1), .val (.long q2), .second, .val (.int p3), .val (.int (6 : Int32)), .val (.int x103), .val (.int x107), .val (.int x111), .val (.int x115), .val (.int x119), .val (.int x123), .val (.ref b461), .unset, .unset, .unset, .unset, .unset] [(.ref b461), (.ref b482), (.ref b482)])) := fun t_ k_ => (gc p481 st482) t_ (by
   refine XS.dup X482.here hx rfl (hb hby at_248) rfl rfl ?_
   refine XS.aload X482.here hx rfl (hb hby at_249) rfl rfl ?_
   exact k_)
  have f485 := (V479.ext E482)
  have f486 : Arv Z h482 b461 k461 .char (6 : Int32) [(.int x103), (.int x107), (.int x111), (.int x115), (.int x119), (.int x123)] (.int (0 : Int32)) := by have z := f485; rw [own_narc _ ra0 (own_le255 rb0), own_narc _ ra1 (own_le255 rb1), own_narc _ ra2 (own_le255 rb2), own_narc _ ra3 (own_le255 rb3), own_narc _ ra4 (own_le255 rb4), own_narc _ ra5 (own_le255 rb5)] at z; exact z
  have f487 := ((((((((O1.ext E461).wr W464 ge_b461).wr W467 ge_b461).wr W470 ge_b461).wr W473 ge_b461).wr W476 ge_b461).wr W479 ge_b461).ext E482)
  obtain ⟨_, _, ⟨T488, L488, k488, n488⟩, -, X488, ⟨Lc488, hQ488, l488, y488, z488⟩, st488⟩ := X482.specialBack hx (y := (⟨"java/lang/String", "<init>", "([C)V"⟩ : MethodName)) rfl hown (mvT hZ (own_w hw 10 rfl)) (mvT hZ (own_w hw 11 rfl)) (mvT hZ (own_w hw 12 rfl)) (by decide) (backOf (W := 1) (rm2_L6 l Z a0 hw [] b482 b461 k461 x103 x107 x111 x115 x119 x123 cs1 fm h482 n0 (Nat.le_trans Z0 K483.1) f487 G F482_coder F482_value A482 f486 (Ne.symm ne_b461_b482) ge_b482 rb0 rb1 rb2 rb3 rb4 rb5) hZ (own_w hw 12 rfl) (own_w hw 9 rfl) (by decide) (by decide)) (g := (mkF m 251 #[.val (.int p1), .val (.long q2), .second, .val (.int p3), .val (.int (6 : Int32)), .val (.int x103), .val (.int x107), .val (.int x111), .val (.int x115), .val (.int x119), .val (.int x123), .val (.ref b461), .unset, .unset, .unset, .unset, .unset] [(.ref b461), (.ref b482), (.ref b482)])) rfl (by rw [hml]; rfl) (Steps.refl _) (a := b482) (argsL := [(.ref b461)]) (rest := [(.ref b482)]) (lenOf pd14 rfl) rfl (by show 2 * 0 + _ ≤ _; exact Nat.le_of_eq rfl) (hb hby at_251) (fun _ _ => ⟨rfl, e482, (by decide : 2 + 1 ≤ _), (by decide : 10 + 6 ≤ _)⟩)
  dsimp only [Pt.U, Pt.locs, Pt.cells, Pt.slots] at X488 l488 y488 z488 st488 hQ488
  subst l488 y488 z488
  obtain ⟨x489, x490, rfl, N488q, q488_K, q488_E, q488_c, q488_v, q488_g, q488_z, q488_V, q488_n⟩ := hQ488
  have N488 := Fr.app N479 N488q
  have K491 : Keep h0 T488.heap [] := K483.trans q488_K (allS (Or.inr sz_b482) all0)
  have ne_b461_x489 : b461 ≠ x489 := Nat.ne_of_lt (Nat.lt_of_lt_of_le f486.lt q488_z)
  have ne_b482_x489 : b482 ≠ x489 := Nat.ne_of_lt (Nat.lt_of_lt_of_le A482.lt q488_z)
  have p492 : Go p.tables e below _ (T488.setTop (mkF m 267 #[.val (.int p1), .val (.long q2), .second, .val (.int p3), .val (.int (6 : Int32)), .val (.int x103), .val (.int x107), .val (.int x111), .val (.int x115), .val (.int x119), .val (.int x123), .val (.ref b461), .val (.ref b482), .val (.int ((p3 &&& (2147483647 : Int32)) % (7 : Int32))), .unset, .unset, .unset] [])) := fun t_ k_ => (gcT p484 st488) t_ (by
   refine XS.astore X488.here hx rfl (hb hby at_254) rfl rfl (l' := #[.val (.int p1), .val (.long q2), .second, .val (.int p3), .val (.int (6 : Int32)), .val (.int x103), .val (.int x107), .val (.int x111), .val (.int x115), .val (.int x119), .val (.int x123), .val (.ref b461), .val (.ref b482), .unset, .unset, .unset, .unset]) rfl ?_
   refine XS.iloadN X488.here hx rfl (hb hby at_256) rfl ?_
   refine X488.ldcInt hx hown (mvT hZ (own_w hw 0 rfl)) (g := (mkF m 257 #[.val (.int p1), .val (.long q2), .second, .val (.int p3), .val (.int (6 : Int32)), .val (.int x103), .val (.int x107), .val (.int x111), .val (.int x115), .val (.int x119), .val (.int x123), .val (.ref b461), .val (.ref b482), .unset, .unset, .unset, .unset] [(.int p3)])) rfl (hb hby at_257) _ ?_
   refine XS.iand X488.here hx rfl (hb hby at_259) rfl ?_
   refine XS.iload X488.here hx rfl (hb hby at_260) rfl ?_
   refine XS.iconst X488.here hx rfl (hb hby at_262) ?_
   refine XS.iadd X488.here hx rfl (hb hby at_263) rfl ?_
   refine Jvm.RoadKit.iremM X488 hx rfl (hb hby at_264) rfl (by decide) ?_
   refine XS.istore X488.here hx rfl (hb hby at_265) rfl (l' := #[.val (.int p1), .val (.long q2), .second, .val (.int p3), .val (.int (6 : Int32)), .val (.int x103), .val (.int x107), .val (.int x111), .val (.int x115), .val (.int x119), .val (.int x123), .val (.ref b461), .val (.ref b482), .val (.int ((p3 &&& (2147483647 : Int32)) % (7 : Int32))), .unset, .unset, .unset]) rfl ?_
   exact k_)
  obtain ⟨ko, hko, hkz⟩ := own_modk p3 6 (by decide)
  have p493 : Go p.tables e below (s₁.setTop (entryFrame m #[(.int p1), (.long q2), (.int p3)] maxLocals)) (T488.setTop (mkF m 267 #[.val (.int p1), .val (.long q2), .second, .val (.int p3), .val (.int (6 : Int32)), .val (.int x103), .val (.int x107), .val (.int x111), .val (.int x115), .val (.int x119), .val (.int x123), .val (.ref b461), .val (.ref b482), .val (.int (Int32.ofNat ko)), .unset, .unset, .unset] [])) := by have z := p492; rw [← hkz]; exact z
  obtain ⟨T494, h494, X494, e494, E494, A494, D494, -, st494⟩ := newO X488 hx hZ hown (own_w hw 28 rfl) (own_w hw 29 rfl) (own_w hw 30 rfl) rfl (g := (mkF m 267 #[.val (.int p1), .val (.long q2), .second, .val (.int p3), .val (.int (6 : Int32)), .val (.int x103), .val (.int x107), .val (.int x111), .val (.int x115), .val (.int x119), .val (.int x123), .val (.ref b461), .val (.ref b482), .val (.int (Int32.ofNat ko)), .unset, .unset, .unset] [])) rfl (hb hby at_267) (by decide) (by decide)
  obtain ⟨b494, g494⟩ : ∃ z, z = T488.heap.size := ⟨_, rfl⟩
  rw [← g494] at A494 D494 st494
  have f495 := (f486.keep q488_K (ninS ne_b461_b482 nin0))
  have ne_b461_b494 : b461 ≠ b494 := Nat.ne_of_lt (Nat.lt_of_lt_of_le f495.lt (Nat.le_of_eq g494.symm))
  have ne_b482_b494 : b482 ≠ b494 := Nat.ne_of_lt (Nat.lt_of_lt_of_le q488_E.lt (Nat.le_of_eq g494.symm))
  have ne_x489_b494 : x489 ≠ b494 := Nat.ne_of_lt (Nat.lt_of_lt_of_le q488_V.lt (Nat.le_of_eq g494.symm))
  have ge_b494 : n0 ≤ b494 := Nat.le_trans (Nat.le_trans Z0 K491.1) (Nat.le_of_eq g494.symm)
  have sz_b494 : h0.size ≤ b494 := Nat.le_trans K491.1 (Nat.le_of_eq g494.symm)
  have K496 : Keep h0 h494 [] := K491.ext E494
  have F494_text : Fld Z h494 b494 "com/example/subsume/subsume/model/Lines" "text" "Ljava/lang/String;" .null := D494 (Or.inr (own_w hw 36 rfl)) (ty := (.object "java/lang/String")) (by decide)
  have F494_starts : Fld Z h494 b494 "com/example/subsume/subsume/model/Lines" "starts" "[I" .null := D494 (Or.inr (own_w hw 50 rfl)) (ty := (.array .int)) (by decide)
  have p497 : Go p.tables e below _ (T494.setTop (mkF m 273 #[.val (.int p1), .val (.long q2), .second, .val (.int p3), .val (.int (6 : Int32)), .val (.int x103), .val (.int x107), .val (.int x111), .val (.int x115), .val (.int x119), .val (.int x123), .val (.ref b461), .val (.ref b482), .val (.int (Int32.ofNat ko)), .unset, .unset, .unset] [(.ref b482), (.ref b494), (.ref b494)])) := fun t_ k_ => (gc p493 st494) t_ (by
   refine XS.dup X494.here hx rfl (hb hby at_270) rfl rfl ?_
   refine XS.aload X494.here hx rfl (hb hby at_271) rfl rfl ?_
   exact k_)
  have HBp : ∀ i, i < 6 → ∃ b : Int32, ([(.int (own_xl x103)), (.int (own_xl x107)), (.int (own_xl x111)), (.int (own_xl x115)), (.int (own_xl x119)), (.int (own_xl x123))] : List Value).getD ((Int32.ofNat i)).toNatClampNeg (.int (0 : Int32)) = .int b ∧ own_c8 b = own_at [x103, x107, x111, x115, x119, x123] i := by
   intro i hi
   rcases (by omega : i = 0 ∨ i = 1 ∨ i = 2 ∨ i = 3 ∨ i = 4 ∨ i = 5) with rfl | rfl | rfl | rfl | rfl | rfl
   ·exact ⟨_, rfl, own_l8 _ ra0 rb0⟩
   ·exact ⟨_, rfl, own_l8 _ ra1 rb1⟩
   ·exact ⟨_, rfl, own_l8 _ ra2 rb2⟩
   ·exact ⟨_, rfl, own_l8 _ ra3 rb3⟩
   ·exact ⟨_, rfl, own_l8 _ ra4 rb4⟩
   ·exact ⟨_, rfl, own_l8 _ ra5 rb5⟩
  have f498 := (f495.ext E494)
  have f499 := (q488_E.ext E494)
  have f500 := (q488_V.ext E494)
  have f501 := ((f487.keep q488_K (allS ge_b482 all0)).ext E494)
  have f502 := (q488_c.ext E494)
  have f503 := (q488_v.ext E494)
  obtain ⟨_, _, ⟨T504, L504, k504, n504⟩, -, X504, ⟨Lc504, hQ504, l504, y504, z504⟩, st504⟩ := X494.specialBack hx (y := (⟨"com/example/subsume/subsume/model/Lines", "<init>", "(Ljava/lang/String;)V"⟩ : MethodName)) rfl hown (mvT hZ (own_w hw 31 rfl)) (mvT hZ (own_w hw 32 rfl)) (mvT hZ (own_w hw 33 rfl)) (by decide) (backOf (W := 1) (rm5_0 l Z a0 hw [] b494 b482 x489 x490 (6 : Int32) [(.int (own_xl x103)), (.int (own_xl x107)), (.int (own_xl x111)), (.int (own_xl x115)), (.int (own_xl x119)), (.int (own_xl x123))] [x103, x107, x111, x115, x119, x123] 6 cs1 fm h494 n0 (Nat.le_trans Z0 K496.1) f501 G f499 f502 f503 f500 F494_starts F494_text A494 ge_b494 (Ne.symm ne_b482_b494) (Ne.symm ne_x489_b494) (by decide) (by decide) HBp rfl) hZ (own_w hw 33 rfl) (own_w hw 30 rfl) (by decide) (by decide)) (g := (mkF m 273 #[.val (.int p1), .val (.long q2), .second, .val (.int p3), .val (.int (6 : Int32)), .val (.int x103), .val (.int x107), .val (.int x111), .val (.int x115), .val (.int x119), .val (.int x123), .val (.ref b461), .val (.ref b482), .val (.int (Int32.ofNat ko)), .unset, .unset, .unset] [(.ref b482), (.ref b494), (.ref b494)])) rfl (by rw [hml]; rfl) (Steps.refl _) (a := b494) (argsL := [(.ref b482)]) (rest := [(.ref b494)]) (lenOf pd15 rfl) rfl (by show 2 * 0 + _ ≤ _; exact Nat.le_of_eq rfl) (hb hby at_273) (fun _ _ => ⟨rfl, e494, (by decide : 4 + 1 ≤ _), (by decide : 18 + 9 ≤ _)⟩)
  dsimp only [Pt.U, Pt.locs, Pt.cells, Pt.slots] at X504 l504 y504 z504 st504 hQ504
  subst l504 y504 z504
  obtain ⟨x505, x506, rfl, N504q, q504_K, q504_E, q504_t, q504_s, q504_V, q504_g, q504_z, q504_n⟩ := hQ504
  have N504 := Fr.app N488 N504q
  have K507 : Keep h0 T504.heap [] := K496.trans q504_K (allS (Or.inr sz_b494) all0)
  have ne_b461_x505 : b461 ≠ x505 := Nat.ne_of_lt (Nat.lt_of_lt_of_le f498.lt q504_z)
  have ne_b482_x505 : b482 ≠ x505 := Nat.ne_of_lt (Nat.lt_of_lt_of_le f499.lt q504_z)
  have ne_x489_x505 : x489 ≠ x505 := Nat.ne_of_lt (Nat.lt_of_lt_of_le f500.lt q504_z)
  have ne_b494_x505 : b494 ≠ x505 := Nat.ne_of_lt (Nat.lt_of_lt_of_le A494.lt q504_z)
  have p508 : Go p.tables e below _ (T504.setTop (mkF m 282 #[.val (.int p1), .val (.long q2), .second, .val (.int p3), .val (.int (6 : Int32)), .val (.int x103), .val (.int x107), .val (.int x111), .val (.int x115), .val (.int x119), .val (.int x123), .val (.ref b461), .val (.ref b482), .val (.int (Int32.ofNat ko)), .val (.ref b494), .unset, .unset] [(.int (Int32.ofNat ko)), (.ref b494)])) := fun t_ k_ => (gcT p497 st504) t_ (by
   refine XS.astore X504.here hx rfl (hb hby at_276) rfl rfl (l' := #[.val (.int p1), .val (.long q2), .second, .val (.int p3), .val (.int (6 : Int32)), .val (.int x103), .val (.int x107), .val (.int x111), .val (.int x115), .val (.int x119), .val (.int x123), .val (.ref b461), .val (.ref b482), .val (.int (Int32.ofNat ko)), .val (.ref b494), .unset, .unset]) rfl ?_
   refine XS.aload X504.here hx rfl (hb hby at_278) rfl rfl ?_
   refine XS.iload X504.here hx rfl (hb hby at_280) rfl ?_
   exact k_)
  obtain ⟨cq509, kq509, q509a, q509b, q509c⟩ := isOf hZ rfl q504_E
  obtain ⟨_, _, ⟨T509, L509, k509, n509⟩, -, X509, ⟨Lc509, hQ509, l509, y509, z509⟩, st509⟩ := X504.virtualBack hx (y := (⟨"com/example/subsume/subsume/model/Lines", "line", "(I)I"⟩ : MethodName)) (z := (⟨"com/example/subsume/subsume/model/Lines", "line", "(I)I"⟩ : MethodName)) hown (mvT hZ (own_w hw 51 rfl)) (mvT hZ (own_w hw 52 rfl)) (notFace_of_selects (args := #[]) (mvT hZ (own_w hw 54 rfl))) (mvT hZ (own_w hw 54 rfl)) (mvT hZ (own_w hw 53 rfl)) (by decide) (backOf (W := 0) (rm8 l Z a0 hw [] b494 x505 x506 [x103, x107, x111, x115, x119, x123] 6 ko T504.heap n0 (Nat.le_trans Z0 K507.1) q504_s q504_V (by decide) hko) hZ (own_w hw 55 rfl) (own_w hw 30 rfl) (by decide) (by decide)) q509a q509c (g := (mkF m 282 #[.val (.int p1), .val (.long q2), .second, .val (.int p3), .val (.int (6 : Int32)), .val (.int x103), .val (.int x107), .val (.int x111), .val (.int x115), .val (.int x119), .val (.int x123), .val (.ref b461), .val (.ref b482), .val (.int (Int32.ofNat ko)), .val (.ref b494), .unset, .unset] [(.int (Int32.ofNat ko)), (.ref b494)])) rfl (by rw [hml]; rfl) (Steps.refl _) (argsL := [(.int (Int32.ofNat ko))]) (rest := []) (lenOf pd16 rfl) rfl (by show 2 * 0 + _ ≤ _; exact Nat.le_of_eq rfl) (hb hby at_282) (fun _ _ => ⟨rfl, rfl, (by decide : 5 + 0 ≤ _), (by decide : 27 + 0 ≤ _)⟩)
  dsimp only [Pt.U, Pt.locs, Pt.cells, Pt.slots] at X509 l509 y509 z509 st509 hQ509
  subst l509 y509 z509
  obtain ⟨rfl, N509q, q509_hh⟩ := hQ509
  have N509 := Fr.app N504 N509q
  have p510 : Go p.tables e below _ (T509.setTop (mkF m 292 #[.val (.int p1), .val (.long q2), .second, .val (.int p3), .val (.int (6 : Int32)), .val (.int x103), .val (.int x107), .val (.int x111), .val (.int x115), .val (.int x119), .val (.int x123), .val (.ref b461), .val (.ref b482), .val (.int (Int32.ofNat ko)), .val (.ref b494), .val (.int (Int32.ofNat (own_nl [x103, x107, x111, x115, x119, x123] ko + 1))), .unset] [(.int (Int32.ofNat ko)), (.int (0 : Int32)), (.int x103)])) := fun t_ k_ => (gcT p508 st509) t_ (by
   refine XS.istore X509.here hx rfl (hb hby at_285) rfl (l' := #[.val (.int p1), .val (.long q2), .second, .val (.int p3), .val (.int (6 : Int32)), .val (.int x103), .val (.int x107), .val (.int x111), .val (.int x115), .val (.int x119), .val (.int x123), .val (.ref b461), .val (.ref b482), .val (.int (Int32.ofNat ko)), .val (.ref b494), .val (.int (Int32.ofNat (own_nl [x103, x107, x111, x115, x119, x123] ko + 1))), .unset]) rfl ?_
   refine XS.iload X509.here hx rfl (hb hby at_287) rfl ?_
   refine XS.iconst X509.here hx rfl (hb hby at_289) ?_
   refine XS.iload X509.here hx rfl (hb hby at_290) rfl ?_
   exact k_)
  obtain ⟨_, _, ⟨T511, L511, k511, n511⟩, -, X511, ⟨Lc511, hQ511, l511, y511, z511⟩, st511⟩ := Jvm.LawKit.callS X509 hx (y := (⟨"com/example/subsume/subsume/model/LinesLinePinLaw", "nl", "(CII)I"⟩ : MethodName)) hown (mvT hZ (own_w hw 63 rfl)) (mvT hZ (own_w hw 64 rfl)) (mvT hZ (own_w hw 3 rfl)) (mvT hZ (own_w hw 65 rfl)) (by decide) (backOf (W := 0) (rm11 l Z a0 hw [] x103 0 ko T504.heap n0 (Nat.le_trans Z0 K507.1) (by decide) (by omega)) hZ (own_w hw 65 rfl) (own_w hw 3 rfl) (by decide) (by decide)) (g := (mkF m 292 #[.val (.int p1), .val (.long q2), .second, .val (.int p3), .val (.int (6 : Int32)), .val (.int x103), .val (.int x107), .val (.int x111), .val (.int x115), .val (.int x119), .val (.int x123), .val (.ref b461), .val (.ref b482), .val (.int (Int32.ofNat ko)), .val (.ref b494), .val (.int (Int32.ofNat (own_nl [x103, x107, x111, x115, x119, x123] ko + 1))), .unset] [(.int (Int32.ofNat ko)), (.int (0 : Int32)), (.int x103)])) rfl (by rw [hml]; rfl) (argsL := [(.int x103), (.int (0 : Int32)), (.int (Int32.ofNat ko))]) (rest := []) (lenOf pd17 rfl) rfl (by show 2 * 0 + _ ≤ _; exact Nat.le_of_eq rfl) (hb hby at_292) (fun _ _ => ⟨rfl, q509_hh, (by decide : 5 + 0 ≤ _), (by decide : 27 + 0 ≤ _)⟩)
  dsimp only [Pt.U, Pt.locs, Pt.cells, Pt.slots] at X511 l511 y511 z511 st511 hQ511
  subst l511 y511 z511
  obtain ⟨rfl, N511q, q511_hh⟩ := hQ511
  have N511 := Fr.app N509 N511q
  have p512 : Go p.tables e below _ (T511.setTop (mkF m 300 #[.val (.int p1), .val (.long q2), .second, .val (.int p3), .val (.int (6 : Int32)), .val (.int x103), .val (.int x107), .val (.int x111), .val (.int x115), .val (.int x119), .val (.int x123), .val (.ref b461), .val (.ref b482), .val (.int (Int32.ofNat ko)), .val (.ref b494), .val (.int (Int32.ofNat (own_nl [x103, x107, x111, x115, x119, x123] ko + 1))), .unset] [(.int (Int32.ofNat ko)), (.int (1 : Int32)), (.int x107), (.int (own_n1 x103 0 ko))])) := fun t_ k_ => (gc p510 st511) t_ (by
   refine XS.iload X511.here hx rfl (hb hby at_295) rfl ?_
   refine XS.iconst X511.here hx rfl (hb hby at_297) ?_
   refine XS.iload X511.here hx rfl (hb hby at_298) rfl ?_
   exact k_)
  obtain ⟨_, _, ⟨T513, L513, k513, n513⟩, -, X513, ⟨Lc513, hQ513, l513, y513, z513⟩, st513⟩ := Jvm.LawKit.callS X511 hx (y := (⟨"com/example/subsume/subsume/model/LinesLinePinLaw", "nl", "(CII)I"⟩ : MethodName)) hown (mvT hZ (own_w hw 63 rfl)) (mvT hZ (own_w hw 64 rfl)) (mvT hZ (own_w hw 3 rfl)) (mvT hZ (own_w hw 65 rfl)) (by decide) (backOf (W := 1) (rm11 l Z a0 hw [] x107 1 ko T504.heap n0 (Nat.le_trans Z0 K507.1) (by decide) (by omega)) hZ (own_w hw 65 rfl) (own_w hw 3 rfl) (by decide) (by decide)) (g := (mkF m 300 #[.val (.int p1), .val (.long q2), .second, .val (.int p3), .val (.int (6 : Int32)), .val (.int x103), .val (.int x107), .val (.int x111), .val (.int x115), .val (.int x119), .val (.int x123), .val (.ref b461), .val (.ref b482), .val (.int (Int32.ofNat ko)), .val (.ref b494), .val (.int (Int32.ofNat (own_nl [x103, x107, x111, x115, x119, x123] ko + 1))), .unset] [(.int (Int32.ofNat ko)), (.int (1 : Int32)), (.int x107), (.int (own_n1 x103 0 ko))])) rfl (by rw [hml]; rfl) (argsL := [(.int x107), (.int (1 : Int32)), (.int (Int32.ofNat ko))]) (rest := [(.int (own_n1 x103 0 ko))]) (lenOf pd17 rfl) rfl (by show 2 * 0 + _ ≤ _; exact Nat.le_of_eq rfl) (hb hby at_300) (fun _ _ => ⟨rfl, q511_hh, (by decide : 5 + 0 ≤ _), (by decide : 27 + 0 ≤ _)⟩)
  dsimp only [Pt.U, Pt.locs, Pt.cells, Pt.slots] at X513 l513 y513 z513 st513 hQ513
  subst l513 y513 z513
  obtain ⟨rfl, N513q, q513_hh⟩ := hQ513
  have N513 := Fr.app N511 N513q
  have p514 : Go p.tables e below _ (T513.setTop (mkF m 309 #[.val (.int p1), .val (.long q2), .second, .val (.int p3), .val (.int (6 : Int32)), .val (.int x103), .val (.int x107), .val (.int x111), .val (.int x115), .val (.int x119), .val (.int x123), .val (.ref b461), .val (.ref b482), .val (.int (Int32.ofNat ko)), .val (.ref b494), .val (.int (Int32.ofNat (own_nl [x103, x107, x111, x115, x119, x123] ko + 1))), .unset] [(.int (Int32.ofNat ko)), (.int (2 : Int32)), (.int x111), (.int ((own_n1 x103 0 ko) + (own_n1 x107 1 ko)))])) := fun t_ k_ => (gc p512 st513) t_ (by
   refine XS.iadd X513.here hx rfl (hb hby at_303) rfl ?_
   refine XS.iload X513.here hx rfl (hb hby at_304) rfl ?_
   refine XS.iconst X513.here hx rfl (hb hby at_306) ?_
   refine XS.iload X513.here hx rfl (hb hby at_307) rfl ?_
   exact k_)
  obtain ⟨_, _, ⟨T515, L515, k515, n515⟩, -, X515, ⟨Lc515, hQ515, l515, y515, z515⟩, st515⟩ := Jvm.LawKit.callS X513 hx (y := (⟨"com/example/subsume/subsume/model/LinesLinePinLaw", "nl", "(CII)I"⟩ : MethodName)) hown (mvT hZ (own_w hw 63 rfl)) (mvT hZ (own_w hw 64 rfl)) (mvT hZ (own_w hw 3 rfl)) (mvT hZ (own_w hw 65 rfl)) (by decide) (backOf (W := 1) (rm11 l Z a0 hw [] x111 2 ko T504.heap n0 (Nat.le_trans Z0 K507.1) (by decide) (by omega)) hZ (own_w hw 65 rfl) (own_w hw 3 rfl) (by decide) (by decide)) (g := (mkF m 309 #[.val (.int p1), .val (.long q2), .second, .val (.int p3), .val (.int (6 : Int32)), .val (.int x103), .val (.int x107), .val (.int x111), .val (.int x115), .val (.int x119), .val (.int x123), .val (.ref b461), .val (.ref b482), .val (.int (Int32.ofNat ko)), .val (.ref b494), .val (.int (Int32.ofNat (own_nl [x103, x107, x111, x115, x119, x123] ko + 1))), .unset] [(.int (Int32.ofNat ko)), (.int (2 : Int32)), (.int x111), (.int ((own_n1 x103 0 ko) + (own_n1 x107 1 ko)))])) rfl (by rw [hml]; rfl) (argsL := [(.int x111), (.int (2 : Int32)), (.int (Int32.ofNat ko))]) (rest := [(.int ((own_n1 x103 0 ko) + (own_n1 x107 1 ko)))]) (lenOf pd17 rfl) rfl (by show 2 * 0 + _ ≤ _; exact Nat.le_of_eq rfl) (hb hby at_309) (fun _ _ => ⟨rfl, q513_hh, (by decide : 5 + 0 ≤ _), (by decide : 27 + 0 ≤ _)⟩)
  dsimp only [Pt.U, Pt.locs, Pt.cells, Pt.slots] at X515 l515 y515 z515 st515 hQ515
  subst l515 y515 z515
  obtain ⟨rfl, N515q, q515_hh⟩ := hQ515
  have N515 := Fr.app N513 N515q
  have p516 : Go p.tables e below _ (T515.setTop (mkF m 318 #[.val (.int p1), .val (.long q2), .second, .val (.int p3), .val (.int (6 : Int32)), .val (.int x103), .val (.int x107), .val (.int x111), .val (.int x115), .val (.int x119), .val (.int x123), .val (.ref b461), .val (.ref b482), .val (.int (Int32.ofNat ko)), .val (.ref b494), .val (.int (Int32.ofNat (own_nl [x103, x107, x111, x115, x119, x123] ko + 1))), .unset] [(.int (Int32.ofNat ko)), (.int (3 : Int32)), (.int x115), (.int (((own_n1 x103 0 ko) + (own_n1 x107 1 ko)) + (own_n1 x111 2 ko)))])) := fun t_ k_ => (gc p514 st515) t_ (by
   refine XS.iadd X515.here hx rfl (hb hby at_312) rfl ?_
   refine XS.iload X515.here hx rfl (hb hby at_313) rfl ?_
   refine XS.iconst X515.here hx rfl (hb hby at_315) ?_
   refine XS.iload X515.here hx rfl (hb hby at_316) rfl ?_
   exact k_)
  obtain ⟨_, _, ⟨T517, L517, k517, n517⟩, -, X517, ⟨Lc517, hQ517, l517, y517, z517⟩, st517⟩ := Jvm.LawKit.callS X515 hx (y := (⟨"com/example/subsume/subsume/model/LinesLinePinLaw", "nl", "(CII)I"⟩ : MethodName)) hown (mvT hZ (own_w hw 63 rfl)) (mvT hZ (own_w hw 64 rfl)) (mvT hZ (own_w hw 3 rfl)) (mvT hZ (own_w hw 65 rfl)) (by decide) (backOf (W := 1) (rm11 l Z a0 hw [] x115 3 ko T504.heap n0 (Nat.le_trans Z0 K507.1) (by decide) (by omega)) hZ (own_w hw 65 rfl) (own_w hw 3 rfl) (by decide) (by decide)) (g := (mkF m 318 #[.val (.int p1), .val (.long q2), .second, .val (.int p3), .val (.int (6 : Int32)), .val (.int x103), .val (.int x107), .val (.int x111), .val (.int x115), .val (.int x119), .val (.int x123), .val (.ref b461), .val (.ref b482), .val (.int (Int32.ofNat ko)), .val (.ref b494), .val (.int (Int32.ofNat (own_nl [x103, x107, x111, x115, x119, x123] ko + 1))), .unset] [(.int (Int32.ofNat ko)), (.int (3 : Int32)), (.int x115), (.int (((own_n1 x103 0 ko) + (own_n1 x107 1 ko)) + (own_n1 x111 2 ko)))])) rfl (by rw [hml]; rfl) (argsL := [(.int x115), (.int (3 : Int32)), (.int (Int32.ofNat ko))]) (rest := [(.int (((own_n1 x103 0 ko) + (own_n1 x107 1 ko)) + (own_n1 x111 2 ko)))]) (lenOf pd17 rfl) rfl (by show 2 * 0 + _ ≤ _; exact Nat.le_of_eq rfl) (hb hby at_318) (fun _ _ => ⟨rfl, q515_hh, (by decide : 5 + 0 ≤ _), (by decide : 27 + 0 ≤ _)⟩)
  dsimp only [Pt.U, Pt.locs, Pt.cells, Pt.slots] at X517 l517 y517 z517 st517 hQ517
  subst l517 y517 z517
  obtain ⟨rfl, N517q, q517_hh⟩ := hQ517
  have N517 := Fr.app N515 N517q
  have p518 : Go p.tables e below _ (T517.setTop (mkF m 327 #[.val (.int p1), .val (.long q2), .second, .val (.int p3), .val (.int (6 : Int32)), .val (.int x103), .val (.int x107), .val (.int x111), .val (.int x115), .val (.int x119), .val (.int x123), .val (.ref b461), .val (.ref b482), .val (.int (Int32.ofNat ko)), .val (.ref b494), .val (.int (Int32.ofNat (own_nl [x103, x107, x111, x115, x119, x123] ko + 1))), .unset] [(.int (Int32.ofNat ko)), (.int (4 : Int32)), (.int x119), (.int ((((own_n1 x103 0 ko) + (own_n1 x107 1 ko)) + (own_n1 x111 2 ko)) + (own_n1 x115 3 ko)))])) := fun t_ k_ => (gc p516 st517) t_ (by
   refine XS.iadd X517.here hx rfl (hb hby at_321) rfl ?_
   refine XS.iload X517.here hx rfl (hb hby at_322) rfl ?_
   refine XS.iconst X517.here hx rfl (hb hby at_324) ?_
   refine XS.iload X517.here hx rfl (hb hby at_325) rfl ?_
   exact k_)
  obtain ⟨_, _, ⟨T519, L519, k519, n519⟩, -, X519, ⟨Lc519, hQ519, l519, y519, z519⟩, st519⟩ := Jvm.LawKit.callS X517 hx (y := (⟨"com/example/subsume/subsume/model/LinesLinePinLaw", "nl", "(CII)I"⟩ : MethodName)) hown (mvT hZ (own_w hw 63 rfl)) (mvT hZ (own_w hw 64 rfl)) (mvT hZ (own_w hw 3 rfl)) (mvT hZ (own_w hw 65 rfl)) (by decide) (backOf (W := 1) (rm11 l Z a0 hw [] x119 4 ko T504.heap n0 (Nat.le_trans Z0 K507.1) (by decide) (by omega)) hZ (own_w hw 65 rfl) (own_w hw 3 rfl) (by decide) (by decide)) (g := (mkF m 327 #[.val (.int p1), .val (.long q2), .second, .val (.int p3), .val (.int (6 : Int32)), .val (.int x103), .val (.int x107), .val (.int x111), .val (.int x115), .val (.int x119), .val (.int x123), .val (.ref b461), .val (.ref b482), .val (.int (Int32.ofNat ko)), .val (.ref b494), .val (.int (Int32.ofNat (own_nl [x103, x107, x111, x115, x119, x123] ko + 1))), .unset] [(.int (Int32.ofNat ko)), (.int (4 : Int32)), (.int x119), (.int ((((own_n1 x103 0 ko) + (own_n1 x107 1 ko)) + (own_n1 x111 2 ko)) + (own_n1 x115 3 ko)))])) rfl (by rw [hml]; rfl) (argsL := [(.int x119), (.int (4 : Int32)), (.int (Int32.ofNat ko))]) (rest := [(.int ((((own_n1 x103 0 ko) + (own_n1 x107 1 ko)) + (own_n1 x111 2 ko)) + (own_n1 x115 3 ko)))]) (lenOf pd17 rfl) rfl (by show 2 * 0 + _ ≤ _; exact Nat.le_of_eq rfl) (hb hby at_327) (fun _ _ => ⟨rfl, q517_hh, (by decide : 5 + 0 ≤ _), (by decide : 27 + 0 ≤ _)⟩)
  dsimp only [Pt.U, Pt.locs, Pt.cells, Pt.slots] at X519 l519 y519 z519 st519 hQ519
  subst l519 y519 z519
  obtain ⟨rfl, N519q, q519_hh⟩ := hQ519
  have N519 := Fr.app N517 N519q
  have p520 : Go p.tables e below _ (T519.setTop (mkF m 336 #[.val (.int p1), .val (.long q2), .second, .val (.int p3), .val (.int (6 : Int32)), .val (.int x103), .val (.int x107), .val (.int x111), .val (.int x115), .val (.int x119), .val (.int x123), .val (.ref b461), .val (.ref b482), .val (.int (Int32.ofNat ko)), .val (.ref b494), .val (.int (Int32.ofNat (own_nl [x103, x107, x111, x115, x119, x123] ko + 1))), .unset] [(.int (Int32.ofNat ko)), (.int (5 : Int32)), (.int x123), (.int (((((own_n1 x103 0 ko) + (own_n1 x107 1 ko)) + (own_n1 x111 2 ko)) + (own_n1 x115 3 ko)) + (own_n1 x119 4 ko)))])) := fun t_ k_ => (gc p518 st519) t_ (by
   refine XS.iadd X519.here hx rfl (hb hby at_330) rfl ?_
   refine XS.iload X519.here hx rfl (hb hby at_331) rfl ?_
   refine XS.iconst X519.here hx rfl (hb hby at_333) ?_
   refine XS.iload X519.here hx rfl (hb hby at_334) rfl ?_
   exact k_)
  obtain ⟨_, _, ⟨T521, L521, k521, n521⟩, -, X521, ⟨Lc521, hQ521, l521, y521, z521⟩, st521⟩ := Jvm.LawKit.callS X519 hx (y := (⟨"com/example/subsume/subsume/model/LinesLinePinLaw", "nl", "(CII)I"⟩ : MethodName)) hown (mvT hZ (own_w hw 63 rfl)) (mvT hZ (own_w hw 64 rfl)) (mvT hZ (own_w hw 3 rfl)) (mvT hZ (own_w hw 65 rfl)) (by decide) (backOf (W := 1) (rm11 l Z a0 hw [] x123 5 ko T504.heap n0 (Nat.le_trans Z0 K507.1) (by decide) (by omega)) hZ (own_w hw 65 rfl) (own_w hw 3 rfl) (by decide) (by decide)) (g := (mkF m 336 #[.val (.int p1), .val (.long q2), .second, .val (.int p3), .val (.int (6 : Int32)), .val (.int x103), .val (.int x107), .val (.int x111), .val (.int x115), .val (.int x119), .val (.int x123), .val (.ref b461), .val (.ref b482), .val (.int (Int32.ofNat ko)), .val (.ref b494), .val (.int (Int32.ofNat (own_nl [x103, x107, x111, x115, x119, x123] ko + 1))), .unset] [(.int (Int32.ofNat ko)), (.int (5 : Int32)), (.int x123), (.int (((((own_n1 x103 0 ko) + (own_n1 x107 1 ko)) + (own_n1 x111 2 ko)) + (own_n1 x115 3 ko)) + (own_n1 x119 4 ko)))])) rfl (by rw [hml]; rfl) (argsL := [(.int x123), (.int (5 : Int32)), (.int (Int32.ofNat ko))]) (rest := [(.int (((((own_n1 x103 0 ko) + (own_n1 x107 1 ko)) + (own_n1 x111 2 ko)) + (own_n1 x115 3 ko)) + (own_n1 x119 4 ko)))]) (lenOf pd17 rfl) rfl (by show 2 * 0 + _ ≤ _; exact Nat.le_of_eq rfl) (hb hby at_336) (fun _ _ => ⟨rfl, q519_hh, (by decide : 5 + 0 ≤ _), (by decide : 27 + 0 ≤ _)⟩)
  dsimp only [Pt.U, Pt.locs, Pt.cells, Pt.slots] at X521 l521 y521 z521 st521 hQ521
  subst l521 y521 z521
  obtain ⟨rfl, N521q, q521_hh⟩ := hQ521
  have N521 := Fr.app N519 N521q
  have p522 : Go p.tables e below _ (T521.setTop (mkF m 348 #[.val (.int p1), .val (.long q2), .second, .val (.int p3), .val (.int (6 : Int32)), .val (.int x103), .val (.int x107), .val (.int x111), .val (.int x115), .val (.int x119), .val (.int x123), .val (.ref b461), .val (.ref b482), .val (.int (Int32.ofNat ko)), .val (.ref b494), .val (.int (Int32.ofNat (own_nl [x103, x107, x111, x115, x119, x123] ko + 1))), .val (.int ((((((own_n1 x103 0 ko) + (own_n1 x107 1 ko)) + (own_n1 x111 2 ko)) + (own_n1 x115 3 ko)) + (own_n1 x119 4 ko)) + (own_n1 x123 5 ko)))] [(.int ((1 : Int32) + ((((((own_n1 x103 0 ko) + (own_n1 x107 1 ko)) + (own_n1 x111 2 ko)) + (own_n1 x115 3 ko)) + (own_n1 x119 4 ko)) + (own_n1 x123 5 ko)))), (.int (Int32.ofNat (own_nl [x103, x107, x111, x115, x119, x123] ko + 1)))])) := fun t_ k_ => (gc p520 st521) t_ (by
   refine XS.iadd X521.here hx rfl (hb hby at_339) rfl ?_
   refine XS.istore X521.here hx rfl (hb hby at_340) rfl (l' := #[.val (.int p1), .val (.long q2), .second, .val (.int p3), .val (.int (6 : Int32)), .val (.int x103), .val (.int x107), .val (.int x111), .val (.int x115), .val (.int x119), .val (.int x123), .val (.ref b461), .val (.ref b482), .val (.int (Int32.ofNat ko)), .val (.ref b494), .val (.int (Int32.ofNat (own_nl [x103, x107, x111, x115, x119, x123] ko + 1))), .val (.int ((((((own_n1 x103 0 ko) + (own_n1 x107 1 ko)) + (own_n1 x111 2 ko)) + (own_n1 x115 3 ko)) + (own_n1 x119 4 ko)) + (own_n1 x123 5 ko)))]) rfl ?_
   refine XS.iload X521.here hx rfl (hb hby at_342) rfl ?_
   refine XS.iconst X521.here hx rfl (hb hby at_344) ?_
   refine XS.iload X521.here hx rfl (hb hby at_345) rfl ?_
   refine XS.iadd X521.here hx rfl (hb hby at_347) rfl ?_
   exact k_)
  have c523 : ((Int32.ofNat (own_nl [x103, x107, x111, x115, x119, x123] ko + 1)) = ((1 : Int32) + ((((((own_n1 x103 0 ko) + (own_n1 x107 1 ko)) + (own_n1 x111 2 ko)) + (own_n1 x115 3 ko)) + (own_n1 x119 4 ko)) + (own_n1 x123 5 ko)))) := own_fin6 x103 x107 x111 x115 x119 x123 ko hko
  have p524 : Go p.tables e below _ (T521.setTop (mkF m 356 #[.val (.int p1), .val (.long q2), .second, .val (.int p3), .val (.int (6 : Int32)), .val (.int x103), .val (.int x107), .val (.int x111), .val (.int x115), .val (.int x119), .val (.int x123), .val (.ref b461), .val (.ref b482), .val (.int (Int32.ofNat ko)), .val (.ref b494), .val (.int (Int32.ofNat (own_nl [x103, x107, x111, x115, x119, x123] ko + 1))), .val (.int ((((((own_n1 x103 0 ko) + (own_n1 x107 1 ko)) + (own_n1 x111 2 ko)) + (own_n1 x115 3 ko)) + (own_n1 x119 4 ko)) + (own_n1 x123 5 ko)))] [(.int (1 : Int32))])) := fun t_ k_ => p522 t_ (by
   refine XS.icmpNo X521.here hx rfl (hb hby at_348) rfl (teq c523).2 ?_
   refine XS.iconst X521.here hx rfl (hb hby at_351) ?_
   refine XS.goto X521.here hx rfl (pc0 := 352) (pc' := 356) rfl (hb hby at_352) (by decide) (by decide) ?_
   exact k_)
  obtain ⟨fs, hr, hrun, hended, hW, hsame⟩ := X521.leave (v := some (.int (1 : Int32))) (fun h => by rw [Bd.returns] at h; cases h)
  refine ⟨_, _, p524 _ (retN X521 hx (t := .boolean) Bd.returns (by simp) (hb hby at_356) hr), hrun, hended, _, _, rfl, ?_, ReturnedEndW.of_narrow ⟨_, rfl⟩ hW (hsame.mono (by decide) (by decide))⟩
  show Q0 Z p1 q2 p3 cs1 fm h0 n0 _ T521.heap _
  rw [q521_hh]
  exact ⟨rfl, N521⟩
set_option maxRecDepth 65536 in
set_option maxHeartbeats 40000000 in
theorem comes_1 {Post : Tables → Env → Array Value → State → Outcome → State → Prop} (hpost : ∀ tb e args s v u, (limb_1_1.after args s (.returned v) u = true ∧ limb_1_2.after args s (.returned v) u = true ∧ True) → ReturnedEndW s (.returned v) u (Jvm.fieldLocs frame_1_writes args s ++ Jvm.arrayLocs frame_1_arrays args s ++ Jvm.staticLocs frame_1_statics s) 24 1152 → Post tb e args s (.returned v) u) :
    ArmFor flags0 classFile x code maxLocals ret World_1 tables_1 room_1 Calls_1 rest_1 Pre_1 Post := by
  intro l hfl _ _ p e ha hc hk s m args below hf hA hF happ hP
  obtain ⟨hcalls, hrest, hpre⟩ := hP
  obtain ⟨-, -, -, hnamed, -, -, -, hat⟩ := (Spec.applies_iff hf).mp happ
  obtain ⟨hg, hn⟩ := and_e (Cond.before_iff.mp (show (Jvm.Cond.and given_1 narrow_1).before args s = true from hpre))
  obtain ⟨ga, gb0⟩ := and_e hg
  obtain ⟨gi0, gb1⟩ := and_e gb0
  obtain ⟨gi1, gb2⟩ := and_e gb1
  have gi2 := gb2
  obtain ⟨w0, w1, w2, rfl⟩ : ∃ w0 w1 w2 : Value, args = #[w0, w1, w2] := by
    have hs : args.size = 3 := by simpa [Cond.value, given_1] using ga
    obtain ⟨L⟩ := args
    match L, hs with
    | [w0, w1, w2], _ => exact ⟨w0, w1, w2, rfl⟩
  have hw := fun d (hd : d ∈ tables_1) => atoms_spec (ws := Jvm.Cond.code x code maxLocals ret :: tables_1) hat d (List.mem_cons_of_mem _ hd)
  have hfit : Fit s := fun {y c} hc i hi => by
    obtain ⟨ha, rfl⟩ := Array.getElem?_eq_some_iff.mp hc
    have q := List.all_eq_true.mp ((Array.all_eq_true_iff_forall_mem.mp hF) _ (Array.getElem_mem ha)) i (List.mem_range.mpr hi)
    simpa [Array.getElem?_eq_getElem hi] using q
  obtain ⟨hsets, hown0⟩ := atoms_of _ (rest_1_c_eq ▸ (show rest_1_c.before _ s = true from hrest))
  have hr0 := Cond.before_iff.mp hown0
  obtain ⟨i0, ei0⟩ := is_v gi0
  obtain rfl : w0 = (.int i0) := Option.some.inj ei0
  obtain ⟨i1, ei1⟩ := isL_v gi1
  obtain rfl : w1 = (.long i1) := Option.some.inj ei1
  obtain ⟨i2, ei2⟩ := is_v gi2
  obtain rfl : w2 = (.int i2) := Option.some.inj ei2
  obtain ⟨cs1, evc⟩ := is_v (Cond.before_iff.mp (hsets _ (List.mem_of_getElem? (i := 1) rfl)))
  have SC := Sta.start evc (Or.inl (hsets _ (List.mem_of_getElem? (i := 0) rfl)))
  have hcs : ¬ (cs1 = (0 : Int32)) := neqInt evc (Cond.before_iff.mp (hsets _ (List.mem_of_getElem? (i := 2) rfl)))
  obtain ⟨fm, evf, hfm⟩ := isR_v (Cond.before_iff.mp (hsets _ (List.mem_of_getElem? (i := 8) rfl)))
  have SF := Sta.start evf (Or.inl (hsets _ (List.mem_of_getElem? (i := 7) rfl)))
  have hcw : Jvm.Lit.compactW.before _ s = true := hsets _ (List.mem_of_getElem? (i := 2) rfl)
  have hheld : Jvm.Lit.constHeld s "java/lang/String" 7 := hcalls.1 ("java/lang/String", 7) (by simp [consts_1])
  obtain ⟨n, o, h1, h2, h3, _, L, rfl, ⟨rfl, N⟩, hq⟩ := rm0 l s _ hw tables_1 i0 i1 i2 cs1 fm s.heap s.heap.size (Nat.le_refl _) (Old.start s) ⟨SC, hcs, SF, hfm⟩ hcw hheld p e ha hc hk s m _ below hf ((Spec.applies_iff_loose hf).mp happ).1 ⟨rfl, State.Warmed39.refl s, rfl, IB.start⟩ trivial
  refine ⟨n, _, h1, h2, h3, hpost _ _ _ _ _ _ ⟨Cond.after_iff.mpr rfl, Cond.after_iff.mpr (eq_i res_at (Term.int_eval (1)) rfl), trivial⟩ ⟨hq.1, hq.2.1, hq.2.2.1, (hq.2.2.2.sift fun y hy => Or.inr (N y hy)).mono (by decide) (by decide)⟩⟩
theorem main_1_1 : Claimed_1_1 := comes_1 fun _ _ _ _ _ _ h hF => ⟨h.1, hF⟩
theorem main_1_2 : Claimed_1_2 := comes_1 fun _ _ _ _ _ _ h hF => ⟨h.2.1, hF⟩
end Jvm.Pilot.@@N@@
namespace Jvm.Pilot.@@N@@
open Jvm Jvm.ClassFile Sem Op Lib Jvm.Free Jvm.Stand Jvm.Pilot.@@N@@.Jvm.D
/-! MADE BY PROGRAM (witnessworld.py) out of the Statement's table words and the real class files: 21 classes; the members and pool entries that the words name. The judged class is class 1, her method 3. -/
namespace start1
open Jvm.ClassFile
def u (s : String) : CpInfo := .utf8 (stringToUtf16 s)
/-- a pool by its gaps: so many unusable entries, then the entry; so many at the end -/
def gap : Nat → List CpInfo → List CpInfo
  | 0, r => r
  | n + 1, r => .unusable :: gap n r
def poolList (es : List (Nat × CpInfo)) (last : Nat) : List CpInfo := es.foldr (fun e r => gap e.1 (e.2 :: r)) (gap last [])
def pool (es : List (Nat × CpInfo)) (last : Nat) : Array CpInfo := ⟨poolList es last⟩
def fileOf (pool : Array CpInfo) (this : Nat) (attrs : Array Attribute := #[]) (ms : Array MethodInfo := #[]) (fl : Nat := 33) (sup : Nat := 0) (ifs : Array Nat := #[]) (fds : Array FieldInfo := #[]) : ClassFile where
  minorVersion := 0
  majorVersion := 65
  constantPool := pool
  accessFlags := fl
  thisClass := this
  superClass := sup
  interfaces := ifs
  fields := fds
  methods := ms
  attributes := attrs
def plain (name : String) (sup : Option ClassId) : Class where
  name := name
  kind := .ordinary
  loader := none
  accessFlags := 33
  super := sup
  interfaces := #[]
  cf := none
  fields := #[]
  methods := #[]
  instanceTypes := #[]
  staticTypes := #[]
  resolved := #[]
  callSites := []
  init := .initialized
  statics := none
  mirror := none

def pool0 : Array CpInfo := pool [(5, u "<init>"), (0, u "()V"), (1, .class_ 10), (1, u "java/lang/Object")] 113

def k0c0 : Code := { maxStack := 0, maxLocals := 1, code := object_method_1_code, exceptionTable := #[], attributes := #[] }
def k0m0 : Method := { name := "<init>", desc := "()V", sig := { parameters := [], returnType := none }, accessFlags := 1, code := some k0c0 }
/-- java/lang/Object -/
def k0 : Class := { plain "java/lang/Object" none with
  accessFlags := 33
  interfaces := #[]
  cf := some (fileOf pool0 8 #[] #[{ accessFlags := 1, nameIndex := 5, descriptorIndex := 6, attributes := #[] }] 33 0 #[] #[])
  fields := #[]
  methods := #[k0m0]
  instanceTypes := #[]
  staticTypes := #[]
  resolved := Array.replicate 124 none
  statics := none }

def pool1 : Array CpInfo := pool [(2, .class_ 4), (1, u "java/lang/Object"), (0, u "<init>"), (0, u "()V"), (0, .long 511), (1, .integer 2147483647), (0, .methodref 11 12), (0, .class_ 13), (0, .nameAndType 14 15), (0, u "com/example/subsume/subsume/model/LinesLinePinLaw"), (0, u "ch"), (0, u "(JI)C"), (0, .class_ 17), (0, u "java/lang/String"), (0, .methodref 16 19), (0, .nameAndType 5 20), (0, u "([C)V"), (0, .class_ 22), (0, u "com/example/subsume/subsume/model/Lines"), (0, .methodref 21 24), (0, .nameAndType 5 25), (0, u "(Ljava/lang/String;)V"), (0, .methodref 21 27), (0, .nameAndType 28 29), (0, u "line"), (0, u "(I)I"), (0, .methodref 11 31), (0, .nameAndType 32 33), (0, u "nl"), (0, u "(CII)I"), (3, u "law"), (0, u "(IJI)Z")] 4

def k1m0 : Method := { name := "<init>", desc := "()V", sig := { parameters := [], returnType := none }, accessFlags := 1, code := none }
def k1c1 : Code := { maxStack := 4, maxLocals := 4, code := method_2_code, exceptionTable := #[], attributes := #[] }
def k1m1 : Method := { name := "ch", desc := "(JI)C", sig := { parameters := [.long, .int], returnType := some .char }, accessFlags := 10, code := some k1c1 }
def k1c2 : Code := { maxStack := 2, maxLocals := 3, code := method_3_code, exceptionTable := #[], attributes := #[] }
def k1m2 : Method := { name := "nl", desc := "(CII)I", sig := { parameters := [.char, .int, .int], returnType := some .int }, accessFlags := 10, code := some k1c2 }
def k1c3 : Code := { maxStack := 4, maxLocals := 17, code := code, exceptionTable := #[], attributes := #[] }
def k1m3 : Method := { name := "law", desc := "(IJI)Z", sig := { parameters := [.int, .long, .int], returnType := some .boolean }, accessFlags := 9, code := some k1c3 }
/-- com/example/subsume/subsume/model/LinesLinePinLaw -/
def k1 : Class := { plain "com/example/subsume/subsume/model/LinesLinePinLaw" (some 0) with
  accessFlags := 49
  interfaces := #[]
  cf := some (fileOf pool1 11 #[] #[{ accessFlags := 1, nameIndex := 5, descriptorIndex := 6, attributes := #[] }, { accessFlags := 10, nameIndex := 14, descriptorIndex := 15, attributes := #[] }, { accessFlags := 10, nameIndex := 32, descriptorIndex := 33, attributes := #[] }, { accessFlags := 9, nameIndex := 37, descriptorIndex := 38, attributes := #[] }] 49 2 #[] #[])
  fields := #[]
  methods := #[k1m0, k1m1, k1m2, k1m3]
  instanceTypes := #[]
  staticTypes := #[]
  resolved := Array.replicate 43 none
  statics := none }

def pool2 : Array CpInfo := pool [(1, .class_ 2), (0, u "java/io/Serializable"), (0, .class_ 4), (0, u "java/lang/Object")] 2

/-- java/io/Serializable -/
def k2 : Class := { plain "java/io/Serializable" (some 0) with
  accessFlags := 1537
  interfaces := #[]
  cf := some (fileOf pool2 1 #[] #[] 1537 3 #[] #[])
  fields := #[]
  methods := #[]
  instanceTypes := #[]
  staticTypes := #[]
  resolved := Array.replicate 7 none
  statics := none }

def pool3 : Array CpInfo := pool [(1, .class_ 2), (0, u "java/lang/Comparable"), (0, .class_ 4), (0, u "java/lang/Object")] 7

/-- java/lang/Comparable -/
def k3 : Class := { plain "java/lang/Comparable" (some 0) with
  accessFlags := 1537
  interfaces := #[]
  cf := some (fileOf pool3 1 #[] #[] 1537 3 #[] #[])
  fields := #[]
  methods := #[]
  instanceTypes := #[]
  staticTypes := #[]
  resolved := Array.replicate 12 none
  statics := none }

def pool4 : Array CpInfo := pool [(2, .class_ 4), (1, u "java/lang/CharSequence"), (42, .class_ 48), (0, u "java/lang/CharSequence$1CodePointIterator"), (10, .class_ 60), (0, u "java/lang/CharSequence$1CharIterator"), (5, .class_ 67), (0, u "java/lang/Object")] 63

/-- java/lang/CharSequence -/
def k4 : Class := { plain "java/lang/CharSequence" (some 0) with
  accessFlags := 1537
  interfaces := #[]
  cf := some (fileOf pool4 2 #[.nestMembers #[47, 59]] #[] 1537 66 #[] #[])
  fields := #[]
  methods := #[]
  instanceTypes := #[]
  staticTypes := #[]
  resolved := Array.replicate 131 none
  statics := none }

def pool5 : Array CpInfo := pool [(1, .class_ 2), (0, u "java/lang/constant/Constable"), (0, .class_ 4), (0, u "java/lang/Object")] 6

/-- java/lang/constant/Constable -/
def k5 : Class := { plain "java/lang/constant/Constable" (some 0) with
  accessFlags := 1537
  interfaces := #[]
  cf := some (fileOf pool5 1 #[] #[] 1537 3 #[] #[])
  fields := #[]
  methods := #[]
  instanceTypes := #[]
  staticTypes := #[]
  resolved := Array.replicate 11 none
  statics := none }

def pool6 : Array CpInfo := pool [(1, .class_ 2), (0, u "java/lang/constant/ConstantDesc"), (0, .class_ 4), (0, u "java/lang/Object")] 32

/-- java/lang/constant/ConstantDesc -/
def k6 : Class := { plain "java/lang/constant/ConstantDesc" (some 0) with
  accessFlags := 1537
  interfaces := #[]
  cf := some (fileOf pool6 1 #[] #[] 1537 3 #[] #[])
  fields := #[]
  methods := #[]
  instanceTypes := #[]
  staticTypes := #[]
  resolved := Array.replicate 37 none
  statics := none }

def pool7 : Array CpInfo := pool [(1, .methodref 2 3), (0, .class_ 4), (0, .nameAndType 5 6), (0, u "java/lang/Object"), (0, u "<init>"), (0, u "()V"), (0, .string 8), (0, u ""), (0, .fieldref 10 11), (0, .class_ 12), (0, .nameAndType 13 14), (0, u "java/lang/String"), (0, u "value"), (0, u "[B"), (0, .fieldref 10 16), (0, .nameAndType 17 18), (0, u "coder"), (0, u "B"), (2, u "hash"), (0, u "I"), (2, u "hashIsZero"), (0, u "Z"), (0, .methodref 10 28), (0, .nameAndType 5 29), (0, u "([CIILjava/lang/Void;)V"), (8, .fieldref 10 39), (0, .nameAndType 40 26), (0, u "COMPACT_STRINGS"), (1, .class_ 44), (1, u "java/lang/StringUTF16"), (0, u "compress"), (1, .methodref 42 48), (0, .nameAndType 49 50), (0, u "coderFromArrayLen"), (0, u "([BI)B"), (56, .class_ 109), (1, u "java/lang/StringLatin1"), (32, u "()Z"), (34, .methodref 42 178), (0, .nameAndType 45 179), (0, u "([CII)[B"), (154, u "()I"), (0, .methodref 10 336), (0, .nameAndType 17 337), (0, u "()B"), (25, u "([BI)C"), (27, u "(II)V"), (35, u "(I)C"), (64, .methodref 10 493), (0, .nameAndType 494 142), (0, u "isLatin1"), (0, .methodref 107 496), (0, .nameAndType 497 363), (0, u "charAt"), (3, u "checkIndex"), (5, u "length"), (67, .class_ 576), (0, u "java/lang/CharSequence"), (22, u "CASE_INSENSITIVE_ORDER"), (0, u "Ljava/util/Comparator;"), (409, u "([C)V"), (42, .fieldref 1054 1055), (0, .class_ 1056), (0, .nameAndType 1057 1058), (0, u "jdk/internal/util/Preconditions"), (0, u "SIOOBE_FORMATTER"), (0, u "Ljava/util/function/BiFunction;"), (0, .methodref 1054 1060), (0, .nameAndType 501 1061), (0, u "(IILjava/util/function/BiFunction;)I"), (39, u "serialPersistentFields"), (0, u "[Ljava/io/ObjectStreamField;"), (0, .class_ 1104), (0, u "java/lang/String$CaseInsensitiveComparator"), (1, .class_ 1107), (0, u "java/io/Serializable"), (0, .class_ 1109), (0, u "java/lang/Comparable"), (0, .class_ 1111), (0, u "java/lang/constant/Constable"), (0, .class_ 1113), (0, u "java/lang/constant/ConstantDesc"), (2, u "serialVersionUID"), (0, u "J"), (3, u "REPL"), (0, u "C"), (2, u "LATIN1"), (1, u "UTF16")] 323

def k7m0 : Method := { name := "<init>", desc := "()V", sig := { parameters := [], returnType := none }, accessFlags := 1, code := none }
def k7c1 : Code := { maxStack := 5, maxLocals := 2, code := jdk_42_method_3_code, exceptionTable := #[], attributes := #[] }
def k7m1 : Method := { name := "<init>", desc := "([C)V", sig := { parameters := [(.array .char)], returnType := none }, accessFlags := 1, code := some k7c1 }
def k7c2 : Code := { maxStack := 2, maxLocals := 1, code := jdk_42_method_54_code, exceptionTable := #[], attributes := #[] }
def k7m2 : Method := { name := "length", desc := "()I", sig := { parameters := [], returnType := some .int }, accessFlags := 1, code := some k7c2 }
def k7c3 : Code := { maxStack := 2, maxLocals := 2, code := jdk_42_method_56_code, exceptionTable := #[], attributes := #[] }
def k7m3 : Method := { name := "charAt", desc := "(I)C", sig := { parameters := [.int], returnType := some .char }, accessFlags := 1, code := some k7c3 }
def k7c4 : Code := { maxStack := 4, maxLocals := 6, code := jdk_42_method_149_code, exceptionTable := #[], attributes := #[] }
def k7m4 : Method := { name := "<init>", desc := "([CIILjava/lang/Void;)V", sig := { parameters := [(.array .char), .int, .int, (.object "java/lang/Void")], returnType := none }, accessFlags := 2, code := some k7c4 }
def k7c5 : Code := { maxStack := 1, maxLocals := 1, code := jdk_42_method_152_code, exceptionTable := #[], attributes := #[] }
def k7m5 : Method := { name := "coder", desc := "()B", sig := { parameters := [], returnType := some .byte }, accessFlags := 0, code := some k7c5 }
def k7c6 : Code := { maxStack := 1, maxLocals := 1, code := jdk_42_method_154_code, exceptionTable := #[], attributes := #[] }
def k7m6 : Method := { name := "isLatin1", desc := "()Z", sig := { parameters := [], returnType := some .boolean }, accessFlags := 0, code := some k7c6 }
def k7c7 : Code := { maxStack := 3, maxLocals := 2, code := jdk_42_method_155_code, exceptionTable := #[], attributes := #[] }
def k7m7 : Method := { name := "checkIndex", desc := "(II)V", sig := { parameters := [.int, .int], returnType := none }, accessFlags := 8, code := some k7c7 }
/-- java/lang/String -/
def k7 : Class := { plain "java/lang/String" (some 0) with
  accessFlags := 49
  interfaces := #[2, 3, 4, 5, 6]
  cf := some (fileOf pool7 10 #[.nestMembers #[1103]] #[{ accessFlags := 1, nameIndex := 5, descriptorIndex := 6, attributes := #[] }, { accessFlags := 1, nameIndex := 5, descriptorIndex := 1010, attributes := #[] }, { accessFlags := 1, nameIndex := 507, descriptorIndex := 334, attributes := #[] }, { accessFlags := 1, nameIndex := 497, descriptorIndex := 427, attributes := #[] }, { accessFlags := 2, nameIndex := 5, descriptorIndex := 29, attributes := #[] }, { accessFlags := 0, nameIndex := 17, descriptorIndex := 337, attributes := #[] }, { accessFlags := 0, nameIndex := 494, descriptorIndex := 142, attributes := #[] }, { accessFlags := 8, nameIndex := 501, descriptorIndex := 391, attributes := #[] }] 49 2 #[1106, 1108, 575, 1110, 1112] #[{ accessFlags := 18, nameIndex := 13, descriptorIndex := 14, attributes := #[] }, { accessFlags := 18, nameIndex := 17, descriptorIndex := 18, attributes := #[] }, { accessFlags := 2, nameIndex := 21, descriptorIndex := 22, attributes := #[] }, { accessFlags := 2, nameIndex := 25, descriptorIndex := 26, attributes := #[] }, { accessFlags := 26, nameIndex := 1116, descriptorIndex := 1117, attributes := #[] }, { accessFlags := 24, nameIndex := 40, descriptorIndex := 26, attributes := #[] }, { accessFlags := 26, nameIndex := 1101, descriptorIndex := 1102, attributes := #[] }, { accessFlags := 26, nameIndex := 1121, descriptorIndex := 1122, attributes := #[] }, { accessFlags := 25, nameIndex := 599, descriptorIndex := 600, attributes := #[] }, { accessFlags := 24, nameIndex := 1125, descriptorIndex := 18, attributes := #[] }, { accessFlags := 24, nameIndex := 1127, descriptorIndex := 18, attributes := #[] }])
  fields := #[{ name := "value", type := (.array .byte), accessFlags := 18, slot := 0, constantValue := 0 }, { name := "coder", type := .byte, accessFlags := 18, slot := 1, constantValue := 0 }, { name := "hash", type := .int, accessFlags := 2, slot := 2, constantValue := 0 }, { name := "hashIsZero", type := .boolean, accessFlags := 2, slot := 3, constantValue := 0 }, { name := "serialVersionUID", type := .long, accessFlags := 26, slot := 0, constantValue := 0 }, { name := "COMPACT_STRINGS", type := .boolean, accessFlags := 24, slot := 1, constantValue := 0 }, { name := "serialPersistentFields", type := (.array (.object "java/io/ObjectStreamField")), accessFlags := 26, slot := 2, constantValue := 0 }, { name := "REPL", type := .char, accessFlags := 26, slot := 3, constantValue := 0 }, { name := "CASE_INSENSITIVE_ORDER", type := (.object "java/util/Comparator"), accessFlags := 25, slot := 4, constantValue := 0 }, { name := "LATIN1", type := .byte, accessFlags := 24, slot := 5, constantValue := 0 }, { name := "UTF16", type := .byte, accessFlags := 24, slot := 6, constantValue := 0 }]
  methods := #[k7m0, k7m1, k7m2, k7m3, k7m4, k7m5, k7m6, k7m7]
  instanceTypes := #[(.array .byte), .byte, .int, .boolean]
  staticTypes := #[.long, .boolean, (.array (.object "java/io/ObjectStreamField")), .char, (.object "java/util/Comparator"), .byte, .byte]
  resolved := Array.replicate 1451 none
  statics := some 0 }

def pool8 : Array CpInfo := pool [(1, .methodref 2 3), (0, .class_ 4), (0, .nameAndType 5 6), (0, u "java/lang/Object"), (0, u "<init>"), (0, u "()V"), (0, .fieldref 8 9), (0, .class_ 10), (0, .nameAndType 11 12), (0, u "com/example/subsume/subsume/model/Lines"), (0, u "text"), (0, u "Ljava/lang/String;"), (0, .methodref 14 15), (0, .class_ 16), (0, .nameAndType 17 18), (0, u "java/lang/String"), (0, u "length"), (0, u "()I"), (0, .methodref 14 20), (0, .nameAndType 21 22), (0, u "charAt"), (0, u "(I)C"), (0, .fieldref 8 24), (0, .nameAndType 25 26), (0, u "starts"), (0, u "[I"), (4, .methodref 32 33), (0, .class_ 34), (0, .nameAndType 35 36), (0, u "java/util/Arrays"), (0, u "binarySearch"), (0, u "([II)I"), (2, u "line"), (0, u "(I)I"), (0, u "(Ljava/lang/String;)V")] 7

def k8c0 : Code := { maxStack := 4, maxLocals := 5, code := prog_16_method_1_code, exceptionTable := #[], attributes := #[] }
def k8m0 : Method := { name := "<init>", desc := "(Ljava/lang/String;)V", sig := { parameters := [(.object "java/lang/String")], returnType := none }, accessFlags := 0, code := some k8c0 }
def k8c1 : Code := { maxStack := 2, maxLocals := 3, code := prog_16_method_3_code, exceptionTable := #[], attributes := #[] }
def k8m1 : Method := { name := "line", desc := "(I)I", sig := { parameters := [.int], returnType := some .int }, accessFlags := 0, code := some k8c1 }
/-- com/example/subsume/subsume/model/Lines -/
def k8 : Class := { plain "com/example/subsume/subsume/model/Lines" (some 0) with
  accessFlags := 48
  interfaces := #[]
  cf := some (fileOf pool8 8 #[] #[{ accessFlags := 0, nameIndex := 5, descriptorIndex := 41, attributes := #[] }, { accessFlags := 0, nameIndex := 39, descriptorIndex := 40, attributes := #[] }] 48 2 #[] #[{ accessFlags := 18, nameIndex := 11, descriptorIndex := 12, attributes := #[] }, { accessFlags := 18, nameIndex := 25, descriptorIndex := 26, attributes := #[] }])
  fields := #[{ name := "text", type := (.object "java/lang/String"), accessFlags := 18, slot := 0, constantValue := 0 }, { name := "starts", type := (.array .int), accessFlags := 18, slot := 1, constantValue := 0 }]
  methods := #[k8m0, k8m1]
  instanceTypes := #[(.object "java/lang/String"), (.array .int)]
  staticTypes := #[]
  resolved := Array.replicate 49 none
  statics := none }

def pool9 : Array CpInfo := pool [(2, .class_ 4), (1, u "java/lang/Object"), (0, u "<init>"), (0, u "()V"), (7, .class_ 16), (1, u "java/util/Arrays"), (57, .class_ 76), (1, u "java/util/Arrays$NaturalOrder"), (36, .class_ 115), (1, u "java/util/Arrays$LegacyMergeSort"), (1, u "Z"), (89, u "binarySearch0"), (1, .methodref 14 210), (0, .nameAndType 207 211), (0, u "([IIII)I"), (163, .class_ 376), (0, u "java/util/Arrays$ArrayList"), (68, u "$assertionsDisabled"), (269, u "MIN_ARRAY_SORT_GRAN"), (0, u "I"), (2, u "INSERTIONSORT_THRESHOLD"), (74, u "binarySearch"), (4, u "([II)I"), (175, .class_ 976), (0, u "java/util/Arrays$ArrayItr")] 52

def k9m0 : Method := { name := "<init>", desc := "()V", sig := { parameters := [], returnType := none }, accessFlags := 2, code := none }
def k9c1 : Code := { maxStack := 4, maxLocals := 2, code := jdk_65_method_57_code, exceptionTable := #[], attributes := #[] }
def k9m1 : Method := { name := "binarySearch", desc := "([II)I", sig := { parameters := [(.array .int), .int], returnType := some .int }, accessFlags := 9, code := some k9c1 }
def k9c2 : Code := { maxStack := 2, maxLocals := 8, code := jdk_65_method_59_code, exceptionTable := #[], attributes := #[] }
def k9m2 : Method := { name := "binarySearch0", desc := "([IIII)I", sig := { parameters := [(.array .int), .int, .int, .int], returnType := some .int }, accessFlags := 10, code := some k9c2 }
/-- java/util/Arrays -/
def k9 : Class := { plain "java/util/Arrays" (some 0) with
  accessFlags := 49
  interfaces := #[]
  cf := some (fileOf pool9 14 #[.nestMembers #[975, 375, 113, 74]] #[{ accessFlags := 2, nameIndex := 5, descriptorIndex := 6, attributes := #[] }, { accessFlags := 9, nameIndex := 794, descriptorIndex := 799, attributes := #[] }, { accessFlags := 10, nameIndex := 207, descriptorIndex := 211, attributes := #[] }] 49 2 #[] #[{ accessFlags := 26, nameIndex := 715, descriptorIndex := 716, attributes := #[] }, { accessFlags := 26, nameIndex := 719, descriptorIndex := 716, attributes := #[] }, { accessFlags := 4120, nameIndex := 445, descriptorIndex := 117, attributes := #[] }])
  fields := #[{ name := "MIN_ARRAY_SORT_GRAN", type := .int, accessFlags := 26, slot := 0, constantValue := 0 }, { name := "INSERTIONSORT_THRESHOLD", type := .int, accessFlags := 26, slot := 1, constantValue := 0 }, { name := "$assertionsDisabled", type := .boolean, accessFlags := 4120, slot := 2, constantValue := 0 }]
  methods := #[k9m0, k9m1, k9m2]
  instanceTypes := #[]
  staticTypes := #[.int, .int, .boolean]
  resolved := Array.replicate 1029 none
  statics := none }

def pool10 : Array CpInfo := pool [(6, .class_ 8), (1, u "java/lang/Object"), (0, u "<init>"), (0, u "()V"), (1, .class_ 14), (1, u "java/lang/StringUTF16"), (31, u "$assertionsDisabled"), (0, u "Z"), (13, u "HI_BYTE_SHIFT"), (0, u "I"), (2, u "LO_BYTE_SHIFT"), (49, .methodref 12 116), (0, .nameAndType 117 118), (0, u "compress"), (0, u "([CI[BII)I"), (3, u "([CII)[B"), (138, u "coderFromArrayLen"), (0, u "([BI)B"), (106, .class_ 371), (1, u "java/lang/StringUTF16$LinesSpliterator"), (58, u "MAX_LENGTH"), (196, .class_ 628), (0, u "java/lang/StringUTF16$CodePointsSpliterator"), (0, .class_ 630), (0, u "java/lang/StringUTF16$CharsSpliterator")] 4

def k10m0 : Method := { name := "<init>", desc := "()V", sig := { parameters := [], returnType := none }, accessFlags := 0, code := none }
def k10c1 : Code := { maxStack := 2, maxLocals := 2, code := jdk_52_method_15_code, exceptionTable := #[], attributes := #[] }
def k10m1 : Method := { name := "coderFromArrayLen", desc := "([BI)B", sig := { parameters := [(.array .byte), .int], returnType := some .byte }, accessFlags := 8, code := some k10c1 }
def k10c2 : Code := { maxStack := 5, maxLocals := 6, code := jdk_52_method_16_code, exceptionTable := #[], attributes := #[] }
def k10m2 : Method := { name := "compress", desc := "([CII)[B", sig := { parameters := [(.array .char), .int, .int], returnType := some (.array .byte) }, accessFlags := 9, code := some k10c2 }
def k10c3 : Code := { maxStack := 3, maxLocals := 7, code := jdk_52_method_21_code, exceptionTable := #[], attributes := #[] }
def k10m3 : Method := { name := "compress", desc := "([CI[BII)I", sig := { parameters := [(.array .char), .int, (.array .byte), .int, .int], returnType := some .int }, accessFlags := 9, code := some k10c3 }
/-- java/lang/StringUTF16 -/
def k10 : Class := { plain "java/lang/StringUTF16" (some 0) with
  accessFlags := 48
  interfaces := #[]
  cf := some (fileOf pool10 12 #[.nestMembers #[627, 629, 369]] #[{ accessFlags := 0, nameIndex := 9, descriptorIndex := 10, attributes := #[] }, { accessFlags := 8, nameIndex := 261, descriptorIndex := 262, attributes := #[] }, { accessFlags := 9, nameIndex := 117, descriptorIndex := 122, attributes := #[] }, { accessFlags := 9, nameIndex := 117, descriptorIndex := 118, attributes := #[] }] 48 6 #[] #[{ accessFlags := 26, nameIndex := 61, descriptorIndex := 62, attributes := #[] }, { accessFlags := 26, nameIndex := 65, descriptorIndex := 62, attributes := #[] }, { accessFlags := 24, nameIndex := 430, descriptorIndex := 62, attributes := #[] }, { accessFlags := 4120, nameIndex := 46, descriptorIndex := 47, attributes := #[] }])
  fields := #[{ name := "HI_BYTE_SHIFT", type := .int, accessFlags := 26, slot := 0, constantValue := 0 }, { name := "LO_BYTE_SHIFT", type := .int, accessFlags := 26, slot := 1, constantValue := 0 }, { name := "MAX_LENGTH", type := .int, accessFlags := 24, slot := 2, constantValue := 0 }, { name := "$assertionsDisabled", type := .boolean, accessFlags := 4120, slot := 3, constantValue := 0 }]
  methods := #[k10m0, k10m1, k10m2, k10m3]
  instanceTypes := #[]
  staticTypes := #[.int, .int, .int, .boolean]
  resolved := Array.replicate 635 none
  statics := none }

def pool11 : Array CpInfo := pool [(1, .class_ 2), (0, u "java/lang/String"), (1, .class_ 6), (1, u "java/lang/Object"), (0, u "<init>"), (0, u "()V"), (0, .methodref 1 10), (0, .nameAndType 11 12), (0, u "checkIndex"), (0, u "(II)V"), (1, .class_ 16), (1, u "java/lang/StringLatin1"), (36, u "([BI)C"), (67, u "$assertionsDisabled"), (0, u "Z"), (98, .class_ 223), (1, u "java/lang/StringLatin1$LinesSpliterator"), (28, u "charAt"), (137, .class_ 391), (0, u "java/lang/StringLatin1$CharsSpliterator")] 3

def k11m0 : Method := { name := "<init>", desc := "()V", sig := { parameters := [], returnType := none }, accessFlags := 0, code := none }
def k11c1 : Code := { maxStack := 2, maxLocals := 2, code := jdk_43_method_2_code, exceptionTable := #[], attributes := #[] }
def k11m1 : Method := { name := "charAt", desc := "([BI)C", sig := { parameters := [(.array .byte), .int], returnType := some .char }, accessFlags := 9, code := some k11c1 }
/-- java/lang/StringLatin1 -/
def k11 : Class := { plain "java/lang/StringLatin1" (some 0) with
  accessFlags := 48
  interfaces := #[]
  cf := some (fileOf pool11 14 #[.nestMembers #[390, 221]] #[{ accessFlags := 0, nameIndex := 7, descriptorIndex := 8, attributes := #[] }, { accessFlags := 9, nameIndex := 252, descriptorIndex := 53, attributes := #[] }] 48 4 #[] #[{ accessFlags := 4120, nameIndex := 121, descriptorIndex := 122, attributes := #[] }])
  fields := #[{ name := "$assertionsDisabled", type := .boolean, accessFlags := 4120, slot := 0, constantValue := 0 }]
  methods := #[k11m0, k11m1]
  instanceTypes := #[]
  staticTypes := #[.boolean]
  resolved := Array.replicate 395 none
  statics := none }

def pool12 : Array CpInfo := pool [(2, .class_ 4), (1, u "java/lang/Object"), (0, u "<init>"), (0, u "()V"), (17, .class_ 26), (1, u "jdk/internal/util/Preconditions"), (6, u "checkIndex"), (21, .class_ 56), (0, u "jdk/internal/util/Preconditions$4"), (57, .class_ 115), (0, u "jdk/internal/util/Preconditions$1"), (7, u "SIOOBE_FORMATTER"), (0, u "Ljava/util/function/BiFunction;"), (0, .class_ 126), (0, u "jdk/internal/util/Preconditions$2"), (3, u "AIOOBE_FORMATTER"), (0, .class_ 132), (0, u "jdk/internal/util/Preconditions$3"), (3, u "IOOBE_FORMATTER"), (41, u "(IILjava/util/function/BiFunction;)I")] 15

def k12m0 : Method := { name := "<init>", desc := "()V", sig := { parameters := [], returnType := none }, accessFlags := 1, code := none }
def k12c1 : Code := { maxStack := 3, maxLocals := 3, code := jdk_41_method_11_code, exceptionTable := #[], attributes := #[] }
def k12m1 : Method := { name := "checkIndex", desc := "(IILjava/util/function/BiFunction;)I", sig := { parameters := [.int, .int, (.object "java/util/function/BiFunction")], returnType := some .int }, accessFlags := 9, code := some k12c1 }
/-- jdk/internal/util/Preconditions -/
def k12 : Class := { plain "jdk/internal/util/Preconditions" (some 0) with
  accessFlags := 33
  interfaces := #[]
  cf := some (fileOf pool12 24 #[.nestMembers #[55, 131, 125, 114]] #[{ accessFlags := 1, nameIndex := 5, descriptorIndex := 6, attributes := #[] }, { accessFlags := 9, nameIndex := 33, descriptorIndex := 178, attributes := #[] }] 33 2 #[] #[{ accessFlags := 25, nameIndex := 123, descriptorIndex := 124, attributes := #[] }, { accessFlags := 25, nameIndex := 130, descriptorIndex := 124, attributes := #[] }, { accessFlags := 25, nameIndex := 136, descriptorIndex := 124, attributes := #[] }])
  fields := #[{ name := "SIOOBE_FORMATTER", type := (.object "java/util/function/BiFunction"), accessFlags := 25, slot := 0, constantValue := 0 }, { name := "AIOOBE_FORMATTER", type := (.object "java/util/function/BiFunction"), accessFlags := 25, slot := 1, constantValue := 0 }, { name := "IOOBE_FORMATTER", type := (.object "java/util/function/BiFunction"), accessFlags := 25, slot := 2, constantValue := 0 }]
  methods := #[k12m0, k12m1]
  instanceTypes := #[]
  staticTypes := #[(.object "java/util/function/BiFunction"), (.object "java/util/function/BiFunction"), (.object "java/util/function/BiFunction")]
  resolved := Array.replicate 194 none
  statics := some 1 }

def pool13 : Array CpInfo := pool [(9, u "<init>"), (6, .class_ 18), (1, u "java/lang/Object"), (0, u "()V"), (1, .class_ 23), (1, u "jdk/internal/util/ArraysSupport"), (0, u "LOG2_ARRAY_LONG_INDEX_SCALE"), (0, u "I"), (2, u "U"), (0, u "Ljdk/internal/misc/Unsafe;"), (8, u "BIG_ENDIAN"), (0, u "Z"), (8, u "LOG2_BYTE_BIT_SIZE"), (4, u "LOG2_ARRAY_INT_INDEX_SCALE"), (54, u "JLA"), (0, u "Ljdk/internal/access/JavaLangAccess;"), (11, u "LOG2_ARRAY_BOOLEAN_INDEX_SCALE"), (9, u "LOG2_ARRAY_BYTE_INDEX_SCALE"), (5, u "LOG2_ARRAY_CHAR_INDEX_SCALE"), (5, u "LOG2_ARRAY_SHORT_INDEX_SCALE"), (18, u "LOG2_ARRAY_FLOAT_INDEX_SCALE"), (24, u "LOG2_ARRAY_DOUBLE_INDEX_SCALE"), (89, u "T_BOOLEAN"), (2, u "T_CHAR"), (1, u "T_FLOAT"), (1, u "T_DOUBLE"), (1, u "T_BYTE"), (1, u "T_SHORT"), (1, u "T_INT"), (1, u "T_LONG"), (1, u "SOFT_MAX_ARRAY_LENGTH")] 83

def k13m0 : Method := { name := "<init>", desc := "()V", sig := { parameters := [], returnType := none }, accessFlags := 2, code := none }
/-- jdk/internal/util/ArraysSupport -/
def k13 : Class := { plain "jdk/internal/util/ArraysSupport" (some 0) with
  accessFlags := 33
  interfaces := #[]
  cf := some (fileOf pool13 21 #[] #[{ accessFlags := 2, nameIndex := 9, descriptorIndex := 19, attributes := #[] }] 33 16 #[] #[{ accessFlags := 24, nameIndex := 28, descriptorIndex := 29, attributes := #[] }, { accessFlags := 26, nameIndex := 38, descriptorIndex := 39, attributes := #[] }, { accessFlags := 25, nameIndex := 121, descriptorIndex := 25, attributes := #[] }, { accessFlags := 25, nameIndex := 131, descriptorIndex := 25, attributes := #[] }, { accessFlags := 25, nameIndex := 137, descriptorIndex := 25, attributes := #[] }, { accessFlags := 25, nameIndex := 143, descriptorIndex := 25, attributes := #[] }, { accessFlags := 25, nameIndex := 53, descriptorIndex := 25, attributes := #[] }, { accessFlags := 25, nameIndex := 24, descriptorIndex := 25, attributes := #[] }, { accessFlags := 25, nameIndex := 162, descriptorIndex := 25, attributes := #[] }, { accessFlags := 25, nameIndex := 187, descriptorIndex := 25, attributes := #[] }, { accessFlags := 26, nameIndex := 48, descriptorIndex := 25, attributes := #[] }, { accessFlags := 25, nameIndex := 277, descriptorIndex := 25, attributes := #[] }, { accessFlags := 25, nameIndex := 280, descriptorIndex := 25, attributes := #[] }, { accessFlags := 25, nameIndex := 282, descriptorIndex := 25, attributes := #[] }, { accessFlags := 25, nameIndex := 284, descriptorIndex := 25, attributes := #[] }, { accessFlags := 25, nameIndex := 286, descriptorIndex := 25, attributes := #[] }, { accessFlags := 25, nameIndex := 288, descriptorIndex := 25, attributes := #[] }, { accessFlags := 25, nameIndex := 290, descriptorIndex := 25, attributes := #[] }, { accessFlags := 25, nameIndex := 292, descriptorIndex := 25, attributes := #[] }, { accessFlags := 26, nameIndex := 108, descriptorIndex := 109, attributes := #[] }, { accessFlags := 25, nameIndex := 294, descriptorIndex := 25, attributes := #[] }])
  fields := #[{ name := "U", type := (.object "jdk/internal/misc/Unsafe"), accessFlags := 24, slot := 0, constantValue := 0 }, { name := "BIG_ENDIAN", type := .boolean, accessFlags := 26, slot := 1, constantValue := 0 }, { name := "LOG2_ARRAY_BOOLEAN_INDEX_SCALE", type := .int, accessFlags := 25, slot := 2, constantValue := 0 }, { name := "LOG2_ARRAY_BYTE_INDEX_SCALE", type := .int, accessFlags := 25, slot := 3, constantValue := 0 }, { name := "LOG2_ARRAY_CHAR_INDEX_SCALE", type := .int, accessFlags := 25, slot := 4, constantValue := 0 }, { name := "LOG2_ARRAY_SHORT_INDEX_SCALE", type := .int, accessFlags := 25, slot := 5, constantValue := 0 }, { name := "LOG2_ARRAY_INT_INDEX_SCALE", type := .int, accessFlags := 25, slot := 6, constantValue := 0 }, { name := "LOG2_ARRAY_LONG_INDEX_SCALE", type := .int, accessFlags := 25, slot := 7, constantValue := 0 }, { name := "LOG2_ARRAY_FLOAT_INDEX_SCALE", type := .int, accessFlags := 25, slot := 8, constantValue := 0 }, { name := "LOG2_ARRAY_DOUBLE_INDEX_SCALE", type := .int, accessFlags := 25, slot := 9, constantValue := 0 }, { name := "LOG2_BYTE_BIT_SIZE", type := .int, accessFlags := 26, slot := 10, constantValue := 0 }, { name := "T_BOOLEAN", type := .int, accessFlags := 25, slot := 11, constantValue := 0 }, { name := "T_CHAR", type := .int, accessFlags := 25, slot := 12, constantValue := 0 }, { name := "T_FLOAT", type := .int, accessFlags := 25, slot := 13, constantValue := 0 }, { name := "T_DOUBLE", type := .int, accessFlags := 25, slot := 14, constantValue := 0 }, { name := "T_BYTE", type := .int, accessFlags := 25, slot := 15, constantValue := 0 }, { name := "T_SHORT", type := .int, accessFlags := 25, slot := 16, constantValue := 0 }, { name := "T_INT", type := .int, accessFlags := 25, slot := 17, constantValue := 0 }, { name := "T_LONG", type := .int, accessFlags := 25, slot := 18, constantValue := 0 }, { name := "JLA", type := (.object "jdk/internal/access/JavaLangAccess"), accessFlags := 26, slot := 19, constantValue := 0 }, { name := "SOFT_MAX_ARRAY_LENGTH", type := .int, accessFlags := 25, slot := 20, constantValue := 0 }]
  methods := #[k13m0]
  instanceTypes := #[]
  staticTypes := #[(.object "jdk/internal/misc/Unsafe"), .boolean, .int, .int, .int, .int, .int, .int, .int, .int, .int, .int, .int, .int, .int, .int, .int, .int, .int, (.object "jdk/internal/access/JavaLangAccess"), .int]
  resolved := Array.replicate 378 none
  statics := none }

def pool14 : Array CpInfo := pool [(1, u "java/lang/Cloneable"), (0, .class_ 1), (0, u "java/lang/Object"), (0, .class_ 3)] 3

/-- java/lang/Cloneable -/
def k14 : Class := { plain "java/lang/Cloneable" (some 0) with
  accessFlags := 1537
  interfaces := #[]
  cf := some (fileOf pool14 2 #[] #[] 1537 4 #[] #[])
  fields := #[]
  methods := #[]
  instanceTypes := #[]
  staticTypes := #[]
  resolved := Array.replicate 8 none
  statics := none }

/-- the primitive byte -/
def k15 : Class := { plain "byte" none with kind := .primitive 'B', accessFlags := 0x411 }
/-- [B -/
def k16 : Class := { plain "[B" (some 0) with kind := .array 15 .byte, interfaces := #[14, 2], accessFlags := 1041 }

/-- the primitive char -/
def k17 : Class := { plain "char" none with kind := .primitive 'C', accessFlags := 0x411 }
/-- [C -/
def k18 : Class := { plain "[C" (some 0) with kind := .array 17 .char, interfaces := #[14, 2], accessFlags := 1041 }

/-- the primitive int -/
def k19 : Class := { plain "int" none with kind := .primitive 'I', accessFlags := 0x411 }
/-- [I -/
def k20 : Class := { plain "[I" (some 0) with kind := .array 19 .int, interfaces := #[14, 2], accessFlags := 1041 }

def heap : Heap := #[{ cls := 7, slots := #[.long 0, .int 1, .null, .int 0, .null, .int 0, .int 0], vm := .statics 7 },
  { cls := 12, slots := #[.null, .null, .null], vm := .statics 12 }]
def classes : Array Class := #[k0, k1, k2, k3, k4, k5, k6, k7, k8, k9, k10, k11, k12, k13, k14, k15, k16, k17, k18, k19, k20]
def interned : List (Array UInt16 × Addr) := []
def slotsUsed : Nat := 10
def theMethod : MethodId := ⟨1, 3⟩
def args0 : Array Value := #[.int 5, .long 77, .int 3]
def aboutOver (below : List Frame) : State where
  vm := { classes := classes, interned := interned.toArray }
  heap := heap
  slotsUsed := slotsUsed
  threads := #[{ frames := .invoking theMethod args0 :: below }]
def below0 : List Frame := [.native { method := ⟨0, 0⟩, args := #[] }]
def about1 : State := aboutOver below0
def p0 : Program := .bare "" "" ""
def e0 : Env := launch0.env 0 0 0
theorem w_frames : about1.frames = Frame.invoking theMethod args0 :: below0 := rfl
set_option maxRecDepth 65536 in
theorem w_args : argsFit about1.vm theMethod args0 = true := by decide +kernel
set_option maxRecDepth 65536 in
theorem w_heap : heapFits about1 = true := by decide +kernel
set_option maxRecDepth 65536 in
theorem w_runnable : about1.curStatus? = some .runnable := by decide +kernel
set_option maxRecDepth 65536 in
theorem w_alone : about1.alone = true := by decide +kernel
set_option maxRecDepth 65536 in
theorem w_named : about1.methodNamed? x = some theMethod := by decide +kernel
set_option maxRecDepth 65536 in
theorem w_hears : about1.hears theMethod below0 = true := by decide +kernel
set_option maxRecDepth 65536 in
theorem w_ripe : about1.ripe theMethod args0 below0 = true := by decide +kernel
theorem w_running : about1.status = .running := rfl
set_option maxRecDepth 65536 in
theorem w_room : about1.hasRoom e0.platform room_1 = true :=
  launch0.hasRoom_least _ room_1 (by decide +kernel) (by decide +kernel) (by decide +kernel) (by decide +kernel) (by decide +kernel) (by decide +kernel)
theorem allAtoms_all (ts : List Jvm.Cond) (a : Array Jvm.Value) (st : Jvm.State) : (allAtoms ts).before a st = ts.all (fun c => c.before a st) := by
  induction ts with
  | nil => rfl
  | cons c t ih =>
    show (Jvm.Cond.and c (allAtoms t)).before a st = _
    rw [Jvm.Cond.before_and, ih, List.all_cons]
def words1 : List Jvm.Cond := Jvm.Cond.code x code maxLocals ret :: tables_1
/-- a 'code' word, met by the world's own term for the bytes: nothing is compared byte by byte -/
theorem code_word {y : MethodName} {bytes : ByteArray} {mx : Nat} {rt : Option FieldType} {a : Array Value} {s : State} {m : MethodId} {meth : Method} {c : Code} (h1 : s.methodNamed? y = some m) (h2 : s.vm.method? m = some meth) (h3 : meth.code = some c) (h4 : c.code = bytes)
    (h5 : (c.maxLocals == mx && c.exceptionTable.isEmpty && decide (c.maxStack ≤ mostOperands) && decide (meth.sig.returnType = rt) && !meth.locks && decide (parseMethodDescriptor y.desc = some meth.sig)) = true) : (Jvm.Cond.code y bytes mx rt).before a s = true := by
  simp only [Bool.and_eq_true, beq_iff_eq, Bool.not_eq_true', decide_eq_true_eq] at h5
  obtain ⟨⟨⟨⟨⟨g1, g2⟩, g3⟩, g4⟩, g5⟩, g6⟩ := h5
  simp [Cond.before, Cond.holds, Cond.value, h1, h2, h3, h4, g1, g2, g3, g4, g5, g6]
def isCode : Jvm.Cond → Bool
  | .code _ _ _ _ => true
  | _ => false
theorem all_split {L : List Jvm.Cond} {P : Jvm.Cond → Bool} (h1 : L.all (fun c => isCode c || P c) = true) (h2 : ∀ c ∈ L.filter isCode, P c = true) : L.all P = true := by
  refine List.all_eq_true.mpr fun c hc => ?_
  have h := List.all_eq_true.mp h1 c hc
  rcases Bool.eq_false_or_eq_true (isCode c) with hi | hi
  · exact h2 c (List.mem_filter.mpr ⟨hc, hi⟩)
  · simpa [hi] using h
set_option maxRecDepth 65536 in
theorem w_c0 : (Jvm.Cond.code x code maxLocals ret).before args0 about1 = true := code_word (m := ⟨1, 3⟩) (meth := k1m3) (c := k1c3) (by decide +kernel) rfl rfl rfl (by decide +kernel)
set_option maxRecDepth 65536 in
theorem w_c1 : (Jvm.Cond.code ({ cls := "com/example/subsume/subsume/model/LinesLinePinLaw", name := "ch", desc := "(JI)C" } : Jvm.MethodName) method_2_code (4 : Nat) (Option.some Jvm.ClassFile.FieldType.char)).before args0 about1 = true := code_word (m := ⟨1, 1⟩) (meth := k1m1) (c := k1c1) (by decide +kernel) rfl rfl rfl (by decide +kernel)
set_option maxRecDepth 65536 in
theorem w_c2 : (Jvm.Cond.code ({ cls := "java/lang/String", name := "<init>", desc := "([C)V" } : Jvm.MethodName) jdk_42_method_3_code (2 : Nat) (Option.none : Option Jvm.ClassFile.FieldType)).before args0 about1 = true := code_word (m := ⟨7, 1⟩) (meth := k7m1) (c := k7c1) (by decide +kernel) rfl rfl rfl (by decide +kernel)
set_option maxRecDepth 65536 in
theorem w_c3 : (Jvm.Cond.code ({ cls := "java/lang/String", name := "<init>", desc := "([CIILjava/lang/Void;)V" } : Jvm.MethodName) jdk_42_method_149_code (6 : Nat) (Option.none : Option Jvm.ClassFile.FieldType)).before args0 about1 = true := code_word (m := ⟨7, 4⟩) (meth := k7m4) (c := k7c4) (by decide +kernel) rfl rfl rfl (by decide +kernel)
set_option maxRecDepth 65536 in
theorem w_c4 : (Jvm.Cond.code ({ cls := "java/lang/Object", name := "<init>", desc := "()V" } : Jvm.MethodName) object_method_1_code (1 : Nat) (Option.none : Option Jvm.ClassFile.FieldType)).before args0 about1 = true := code_word (m := ⟨0, 0⟩) (meth := k0m0) (c := k0c0) (by decide +kernel) rfl rfl rfl (by decide +kernel)
set_option maxRecDepth 65536 in
theorem w_c5 : (Jvm.Cond.code ({ cls := "com/example/subsume/subsume/model/Lines", name := "<init>", desc := "(Ljava/lang/String;)V" } : Jvm.MethodName) prog_16_method_1_code (5 : Nat) (Option.none : Option Jvm.ClassFile.FieldType)).before args0 about1 = true := code_word (m := ⟨8, 0⟩) (meth := k8m0) (c := k8c0) (by decide +kernel) rfl rfl rfl (by decide +kernel)
set_option maxRecDepth 65536 in
theorem w_c6 : (Jvm.Cond.code ({ cls := "java/lang/String", name := "length", desc := "()I" } : Jvm.MethodName) jdk_42_method_54_code (1 : Nat) (Option.some Jvm.ClassFile.FieldType.int)).before args0 about1 = true := code_word (m := ⟨7, 2⟩) (meth := k7m2) (c := k7c2) (by decide +kernel) rfl rfl rfl (by decide +kernel)
set_option maxRecDepth 65536 in
theorem w_c7 : (Jvm.Cond.code ({ cls := "java/lang/String", name := "coder", desc := "()B" } : Jvm.MethodName) jdk_42_method_152_code (1 : Nat) (Option.some Jvm.ClassFile.FieldType.byte)).before args0 about1 = true := code_word (m := ⟨7, 5⟩) (meth := k7m5) (c := k7c5) (by decide +kernel) rfl rfl rfl (by decide +kernel)
set_option maxRecDepth 65536 in
theorem w_c8 : (Jvm.Cond.code ({ cls := "com/example/subsume/subsume/model/Lines", name := "line", desc := "(I)I" } : Jvm.MethodName) prog_16_method_3_code (3 : Nat) (Option.some Jvm.ClassFile.FieldType.int)).before args0 about1 = true := code_word (m := ⟨8, 1⟩) (meth := k8m1) (c := k8c1) (by decide +kernel) rfl rfl rfl (by decide +kernel)
set_option maxRecDepth 65536 in
theorem w_c9 : (Jvm.Cond.code ({ cls := "java/util/Arrays", name := "binarySearch", desc := "([II)I" } : Jvm.MethodName) jdk_65_method_57_code (2 : Nat) (Option.some Jvm.ClassFile.FieldType.int)).before args0 about1 = true := code_word (m := ⟨9, 1⟩) (meth := k9m1) (c := k9c1) (by decide +kernel) rfl rfl rfl (by decide +kernel)
set_option maxRecDepth 65536 in
theorem w_c10 : (Jvm.Cond.code ({ cls := "java/util/Arrays", name := "binarySearch0", desc := "([IIII)I" } : Jvm.MethodName) jdk_65_method_59_code (8 : Nat) (Option.some Jvm.ClassFile.FieldType.int)).before args0 about1 = true := code_word (m := ⟨9, 2⟩) (meth := k9m2) (c := k9c2) (by decide +kernel) rfl rfl rfl (by decide +kernel)
set_option maxRecDepth 65536 in
theorem w_c11 : (Jvm.Cond.code ({ cls := "com/example/subsume/subsume/model/LinesLinePinLaw", name := "nl", desc := "(CII)I" } : Jvm.MethodName) method_3_code (3 : Nat) (Option.some Jvm.ClassFile.FieldType.int)).before args0 about1 = true := code_word (m := ⟨1, 2⟩) (meth := k1m2) (c := k1c2) (by decide +kernel) rfl rfl rfl (by decide +kernel)
set_option maxRecDepth 65536 in
theorem w_c12 : (Jvm.Cond.code ({ cls := "java/lang/StringUTF16", name := "compress", desc := "([CII)[B" } : Jvm.MethodName) jdk_52_method_16_code (6 : Nat) (Option.some (Jvm.ClassFile.FieldType.array Jvm.ClassFile.FieldType.byte))).before args0 about1 = true := code_word (m := ⟨10, 2⟩) (meth := k10m2) (c := k10c2) (by decide +kernel) rfl rfl rfl (by decide +kernel)
set_option maxRecDepth 65536 in
theorem w_c13 : (Jvm.Cond.code ({ cls := "java/lang/StringUTF16", name := "compress", desc := "([CI[BII)I" } : Jvm.MethodName) jdk_52_method_21_code (7 : Nat) (Option.some Jvm.ClassFile.FieldType.int)).before args0 about1 = true := code_word (m := ⟨10, 3⟩) (meth := k10m3) (c := k10c3) (by decide +kernel) rfl rfl rfl (by decide +kernel)
set_option maxRecDepth 65536 in
theorem w_c14 : (Jvm.Cond.code ({ cls := "java/lang/StringUTF16", name := "coderFromArrayLen", desc := "([BI)B" } : Jvm.MethodName) jdk_52_method_15_code (2 : Nat) (Option.some Jvm.ClassFile.FieldType.byte)).before args0 about1 = true := code_word (m := ⟨10, 1⟩) (meth := k10m1) (c := k10c1) (by decide +kernel) rfl rfl rfl (by decide +kernel)
set_option maxRecDepth 65536 in
theorem w_c15 : (Jvm.Cond.code ({ cls := "java/lang/String", name := "charAt", desc := "(I)C" } : Jvm.MethodName) jdk_42_method_56_code (2 : Nat) (Option.some Jvm.ClassFile.FieldType.char)).before args0 about1 = true := code_word (m := ⟨7, 3⟩) (meth := k7m3) (c := k7c3) (by decide +kernel) rfl rfl rfl (by decide +kernel)
set_option maxRecDepth 65536 in
theorem w_c16 : (Jvm.Cond.code ({ cls := "java/lang/String", name := "isLatin1", desc := "()Z" } : Jvm.MethodName) jdk_42_method_154_code (1 : Nat) (Option.some Jvm.ClassFile.FieldType.boolean)).before args0 about1 = true := code_word (m := ⟨7, 6⟩) (meth := k7m6) (c := k7c6) (by decide +kernel) rfl rfl rfl (by decide +kernel)
set_option maxRecDepth 65536 in
theorem w_c17 : (Jvm.Cond.code ({ cls := "java/lang/StringLatin1", name := "charAt", desc := "([BI)C" } : Jvm.MethodName) jdk_43_method_2_code (2 : Nat) (Option.some Jvm.ClassFile.FieldType.char)).before args0 about1 = true := code_word (m := ⟨11, 1⟩) (meth := k11m1) (c := k11c1) (by decide +kernel) rfl rfl rfl (by decide +kernel)
set_option maxRecDepth 65536 in
theorem w_c18 : (Jvm.Cond.code ({ cls := "java/lang/String", name := "checkIndex", desc := "(II)V" } : Jvm.MethodName) jdk_42_method_155_code (2 : Nat) (Option.none : Option Jvm.ClassFile.FieldType)).before args0 about1 = true := code_word (m := ⟨7, 7⟩) (meth := k7m7) (c := k7c7) (by decide +kernel) rfl rfl rfl (by decide +kernel)
set_option maxRecDepth 65536 in
theorem w_c19 : (Jvm.Cond.code ({ cls := "jdk/internal/util/Preconditions", name := "checkIndex", desc := "(IILjava/util/function/BiFunction;)I" } : Jvm.MethodName) jdk_41_method_11_code (3 : Nat) (Option.some Jvm.ClassFile.FieldType.int)).before args0 about1 = true := code_word (m := ⟨12, 1⟩) (meth := k12m1) (c := k12c1) (by decide +kernel) rfl rfl rfl (by decide +kernel)
def codes1 : List Jvm.Cond := [Jvm.Cond.code x code maxLocals ret, Jvm.Cond.code ({ cls := "com/example/subsume/subsume/model/LinesLinePinLaw", name := "ch", desc := "(JI)C" } : Jvm.MethodName) method_2_code (4 : Nat) (Option.some Jvm.ClassFile.FieldType.char), Jvm.Cond.code ({ cls := "java/lang/String", name := "<init>", desc := "([C)V" } : Jvm.MethodName) jdk_42_method_3_code (2 : Nat) (Option.none : Option Jvm.ClassFile.FieldType), Jvm.Cond.code ({ cls := "java/lang/String", name := "<init>", desc := "([CIILjava/lang/Void;)V" } : Jvm.MethodName) jdk_42_method_149_code (6 : Nat) (Option.none : Option Jvm.ClassFile.FieldType), Jvm.Cond.code ({ cls := "java/lang/Object", name := "<init>", desc := "()V" } : Jvm.MethodName) object_method_1_code (1 : Nat) (Option.none : Option Jvm.ClassFile.FieldType), Jvm.Cond.code ({ cls := "com/example/subsume/subsume/model/Lines", name := "<init>", desc := "(Ljava/lang/String;)V" } : Jvm.MethodName) prog_16_method_1_code (5 : Nat) (Option.none : Option Jvm.ClassFile.FieldType), Jvm.Cond.code ({ cls := "java/lang/String", name := "length", desc := "()I" } : Jvm.MethodName) jdk_42_method_54_code (1 : Nat) (Option.some Jvm.ClassFile.FieldType.int), Jvm.Cond.code ({ cls := "java/lang/String", name := "coder", desc := "()B" } : Jvm.MethodName) jdk_42_method_152_code (1 : Nat) (Option.some Jvm.ClassFile.FieldType.byte), Jvm.Cond.code ({ cls := "com/example/subsume/subsume/model/Lines", name := "line", desc := "(I)I" } : Jvm.MethodName) prog_16_method_3_code (3 : Nat) (Option.some Jvm.ClassFile.FieldType.int), Jvm.Cond.code ({ cls := "java/util/Arrays", name := "binarySearch", desc := "([II)I" } : Jvm.MethodName) jdk_65_method_57_code (2 : Nat) (Option.some Jvm.ClassFile.FieldType.int), Jvm.Cond.code ({ cls := "java/util/Arrays", name := "binarySearch0", desc := "([IIII)I" } : Jvm.MethodName) jdk_65_method_59_code (8 : Nat) (Option.some Jvm.ClassFile.FieldType.int), Jvm.Cond.code ({ cls := "com/example/subsume/subsume/model/LinesLinePinLaw", name := "nl", desc := "(CII)I" } : Jvm.MethodName) method_3_code (3 : Nat) (Option.some Jvm.ClassFile.FieldType.int), Jvm.Cond.code ({ cls := "java/lang/StringUTF16", name := "compress", desc := "([CII)[B" } : Jvm.MethodName) jdk_52_method_16_code (6 : Nat) (Option.some (Jvm.ClassFile.FieldType.array Jvm.ClassFile.FieldType.byte)), Jvm.Cond.code ({ cls := "java/lang/StringUTF16", name := "compress", desc := "([CI[BII)I" } : Jvm.MethodName) jdk_52_method_21_code (7 : Nat) (Option.some Jvm.ClassFile.FieldType.int), Jvm.Cond.code ({ cls := "java/lang/StringUTF16", name := "coderFromArrayLen", desc := "([BI)B" } : Jvm.MethodName) jdk_52_method_15_code (2 : Nat) (Option.some Jvm.ClassFile.FieldType.byte), Jvm.Cond.code ({ cls := "java/lang/String", name := "charAt", desc := "(I)C" } : Jvm.MethodName) jdk_42_method_56_code (2 : Nat) (Option.some Jvm.ClassFile.FieldType.char), Jvm.Cond.code ({ cls := "java/lang/String", name := "isLatin1", desc := "()Z" } : Jvm.MethodName) jdk_42_method_154_code (1 : Nat) (Option.some Jvm.ClassFile.FieldType.boolean), Jvm.Cond.code ({ cls := "java/lang/StringLatin1", name := "charAt", desc := "([BI)C" } : Jvm.MethodName) jdk_43_method_2_code (2 : Nat) (Option.some Jvm.ClassFile.FieldType.char), Jvm.Cond.code ({ cls := "java/lang/String", name := "checkIndex", desc := "(II)V" } : Jvm.MethodName) jdk_42_method_155_code (2 : Nat) (Option.none : Option Jvm.ClassFile.FieldType), Jvm.Cond.code ({ cls := "jdk/internal/util/Preconditions", name := "checkIndex", desc := "(IILjava/util/function/BiFunction;)I" } : Jvm.MethodName) jdk_41_method_11_code (3 : Nat) (Option.some Jvm.ClassFile.FieldType.int)]
set_option maxRecDepth 65536 in
theorem codes_eq : words1.filter isCode = codes1 := rfl
theorem w_codes : ∀ c ∈ words1.filter isCode, c.before args0 about1 = true := by
  rw [codes_eq]
  intro c hc
  simp only [codes1, List.mem_cons, List.not_mem_nil, or_false] at hc
  rcases hc with rfl | rfl | rfl | rfl | rfl | rfl | rfl | rfl | rfl | rfl | rfl | rfl | rfl | rfl | rfl | rfl | rfl | rfl | rfl | rfl
  · exact w_c0
  · exact w_c1
  · exact w_c2
  · exact w_c3
  · exact w_c4
  · exact w_c5
  · exact w_c6
  · exact w_c7
  · exact w_c8
  · exact w_c9
  · exact w_c10
  · exact w_c11
  · exact w_c12
  · exact w_c13
  · exact w_c14
  · exact w_c15
  · exact w_c16
  · exact w_c17
  · exact w_c18
  · exact w_c19
set_option maxRecDepth 65536 in
theorem w_t1 : (words1.take 24).all (fun c => isCode c || c.before args0 about1) = true := by decide +kernel
set_option maxRecDepth 65536 in
theorem w_t2 : ((words1.drop 24).take 24).all (fun c => isCode c || c.before args0 about1) = true := by decide +kernel
set_option maxRecDepth 65536 in
theorem w_t3 : (((words1.drop 24).drop 24).take 24).all (fun c => isCode c || c.before args0 about1) = true := by decide +kernel
set_option maxRecDepth 65536 in
theorem w_t4 : ((((words1.drop 24).drop 24).drop 24).take 24).all (fun c => isCode c || c.before args0 about1) = true := by decide +kernel
set_option maxRecDepth 65536 in
theorem w_t5 : ((((words1.drop 24).drop 24).drop 24).drop 24).all (fun c => isCode c || c.before args0 about1) = true := by decide +kernel
theorem w_tables : (allAtoms (Jvm.Cond.code x code maxLocals ret :: tables_1)).before args0 about1 = true := by
  rw [allAtoms_all]
  show words1.all (fun c => c.before args0 about1) = true
  refine all_split ?_ w_codes
  rw [← List.take_append_drop 24 words1, List.all_append, w_t1, ← List.take_append_drop 24 (words1.drop 24), List.all_append, w_t2, ← List.take_append_drop 24 ((words1.drop 24).drop 24), List.all_append, w_t3, ← List.take_append_drop 24 (((words1.drop 24).drop 24).drop 24), List.all_append, w_t4, w_t5]
  rfl
set_option maxRecDepth 65536 in
theorem w_rest : rest_1_c.before args0 about1 = true := by decide +kernel
set_option maxRecDepth 65536 in
theorem w_case : (Jvm.Cond.and given_1 narrow_1).before args0 about1 = true := by decide +kernel
set_option maxRecDepth 65536 in
theorem w_consts : constsHeld consts_1 about1 := Jvm.Lit.constsHeldB_iff.mp (by decide +kernel)
theorem w_applies : (headSpec (Jvm.Cond.code x code maxLocals ret :: tables_1) room_1).applies x e0.platform about1 = true :=
  (Spec.applies_iff w_frames).mpr ⟨w_running, w_runnable, w_alone, w_named, w_hears, w_ripe, w_room, w_tables⟩
theorem atStart : AtStart classFile x code maxLocals ret World_1 tables_1 room_1 Calls_1 rest_1 Pre_1 launch0 p0 e0 about1 theMethod args0 below0 :=
  ⟨lists_1, trivial, launch0.admits_env _ _ _, launch0.least_env, fairChoices_fair.cas, fairChoices_fair.clock, w_frames, w_args, w_heap, w_applies, ⟨w_consts, trivial⟩, w_rest, w_case⟩
end start1
theorem witness_1 : WitnessClaimed_1 := ⟨start1.p0, start1.e0, start1.about1, start1.theMethod, start1.args0, start1.below0, start1.atStart⟩
end Jvm.Pilot.@@N@@
