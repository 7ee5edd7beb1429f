import JvmDerived
import JvmDerived.Pilot.@@N@@Statement
import JvmDerived.Pilot.@@N@@Code
set_option linter.unusedVariables false
set_option linter.unusedSimpArgs false
namespace Jvm.RoadKit
open Sem ClassFile Op Lib Jvm.Stand Jvm.Free Jvm.LawKit
section New
variable {p : Program} {l : Launch} {e : Env} {R : Room} {s : State} {m : MethodId} {args : Array Value} {below : List Frame} {meth : Method} {c : Code} {T : State} {locs : List Loc} {cells slots : Nat}
theorem retI (X : Stand p l e R s m args below meth c T locs cells slots) (hx : p.tables.exec = Jvm.exec) {pc : Nat} {Ls : Array Slot} {z : Int32} {rest : List Value} (hret : meth.sig.returnType = some .int) (hd : decode c.code pc = .ok (.ireturn, 1)) {fs : List Frame}
    (hl : ∀ (f : JFrame) (acts : List Action), f.method = m → f.locked = none → f.entered = [] → (doReturn e (T.setTop f) acts (some (.int z))).1 = T.setFrames fs) : Steps p.tables e below (T.setTop (mkF m pc Ls (.int z :: rest))) (T.setFrames fs) :=
  retOut X hx (w := .int z) (t := .int) hret rfl (Or.inl ⟨rfl, Or.inl rfl, _, rfl⟩) hd hl
end New
end Jvm.RoadKit
namespace Jvm.Own
open Sem ClassFile Op Lib Jvm.Stand Jvm.Free Jvm.LawKit Jvm.RoadKit
/-- from A on the run comes to B -/
abbrev Go (tb : Tables) (e : Env) (below : List Frame) (A B : State) : Prop := ∀ t, Steps tb e below B t → Steps tb e below A t
theorem gc {tb : Tables} {e : Env} {below : List Frame} {A B C : State} (h : Go tb e below A B) (k : ∀ t, Steps tb e below C t → Steps tb e below B t) : Go tb e below A C := fun t q => h t (k t q)
theorem gcT {tb : Tables} {e : Env} {below : List Frame} {A B C : State} (h : Go tb e below A B) (k : Steps tb e below B C) : Go tb e below A C := fun t q => h t (k.trans q)
theorem lremM {p : Program} {l : Launch} {e : Env} {R : Room} {s : State} {m : MethodId} {args : Array Value} {below : List Frame} {meth : Method} {c : Code} {T : State} {locs : List Loc} {cells slots : Nat} {g : JFrame} {target : State} (X : Stand p l e R s m args below meth c T locs cells slots) (hx : p.tables.exec = Jvm.exec) (hg : g.method = m) {x y : Int64} {rest : List Value} (hd : decode c.code g.pc = .ok (.lrem, 1)) (hs : g.stack = .long y :: .long x :: rest) (hy : y ≠ 0)
    (hr : Steps p.tables e below (T.setTop { g with pc := g.pc + 1, stack := .long (x % y) :: rest }) target) : Steps p.tables e below (T.setTop g) target :=
  XS.lrem X.here hx hg hd hs hy (by rw [lrem_mod]; exact hr)
theorem eqInt {s : State} {args : Array Value} {a : Term} {c : Int32} (h : (Cond.eq a (.int c)).value args s none s [] = some true) : a.eval args s none [] s = some (.int c) := by
  obtain ⟨x, y, hx, hy, k1, k2⟩ := cmp_v (Or.inl h)
  cases hy
  obtain ⟨z, rfl⟩ := k2
  simp [Cond.value, hx, Term.eval] at h
  subst h; exact hx
theorem neqInt {s : State} {args : Array Value} {a : Term} {c x : Int32} (hx : a.eval args s none [] s = some (.int x)) (h : (Cond.not (Cond.eq a (.int c))).value args s none s [] = some true) : ¬ x = c := by
  intro q
  have h2 := not_v h
  subst q
  simp [Cond.value, hx, Term.eval] at h2
theorem elAt {s : State} {args : Array Value} {t u : Term} {a w : Addr} {cl : Cell} {ty : FieldType} {i : Int32} (ht : t.eval args s none [] s = some (.ref a)) (A : Arr s s.heap a cl ty) (h : (Cond.eq (.elem t (.int i)) u).value args s none s [] = some true) (hu : u.eval args s none [] s = some (.ref w)) {j : Nat} (hj : i.toNatClampNeg = j) : cl.slots[j]? = some (.ref w) := by
  obtain ⟨x, y, hx, hy, k1, k2⟩ := cmp_v (Or.inl h)
  rw [hu] at hy; cases hy
  have hr : x.isRef = true := k2.2
  have e := gotT (eq_R hx hu hr rfl) h
  subst e
  have q := (elem_in hx ht (Term.int_eval i) A.1).2
  rw [hj] at q; exact q
theorem arvOf {s : State} {args : Array Value} {t : Term} {a : Addr} {cl : Cell} {ty : FieldType} {z : Int32} {vs : List Value} {dv : Value} (hf : Fit s) (ev : t.eval args s none [] s = some (.ref a)) (A : Arr s s.heap a cl ty) (hl : (Term.length t).eval args s none [] s = some (.int z)) (hz : ¬ z < 0) (hn : z.toNatClampNeg = vs.length) (H : HasL cl 0 vs) : Arv s s.heap a cl.cls ty z vs dv := by
  have ha : s.arrayAt? a = some cl := Arr.fin (Vm.Alike.refl _) A
  by_cases q : cl.slots.size < 2 ^ 31
  · rw [len_f ev ha q] at hl
    cases hl
    exact Arv.start hf A q rfl hz hn H
  · simp [Term.eval, ev, ha, q] at hl
theorem selPriv {s : State} {args : Array Value} {C : String} {z y : MethodName} (w : (Cond.selects C z z).before args s = true) (hc : z.cls = y.cls) (hp : s.PrivateAt y) (hi : (Cond.instanceMethod y).before args s = true) (hy : y.cls ≠ "java/lang/invoke/MethodHandle" ∧ y.cls ≠ "java/lang/invoke/VarHandle") : (Cond.selects y.cls y y).before args s = true := by
  obtain ⟨c2, r2, m2, -, -, q3, -, kP, hkP, hkPi⟩ := Cond.selects_spec w
  exact selects_self_of_private (hc ▸ findClass_of_methodNamed q3) hkP hkPi hp hi hy
end Jvm.Own
namespace Jvm.Pilot.@@N@@
open Jvm Jvm.ClassFile Sem Op Lib Jvm.Free Jvm.Stand Jvm.LawKit Jvm.RoadKit Jvm.Own Bundle Jvm.Pilot.@@N@@.Jvm.D
theorem own_w {Z : State} {a0 : Array Value} (hw : ∀ d ∈ tables_1, d.before a0 Z = true) (i : Nat) {d : Jvm.Cond} (h : tables_1[i]? = some d) : d.before a0 Z = true := hw _ (List.mem_of_getElem? h)

def own_c8 (b : Int32) : Int32 := nar .char ((b &&& (255 : Int32)).toUInt32.toUInt16.toUInt32.toInt32)
def own_c16 (b0 b1 : Int32) : Int32 := nar .char ((((b0 &&& (255 : Int32)) <<< (0 : Int32)) ||| ((b1 &&& (255 : Int32)) <<< (8 : Int32))).toUInt32.toUInt16.toUInt32.toInt32)
theorem own_255 (i : Nat) : (255#32).getLsbD i = decide (i < 8) := by
  rw [BitVec.getLsbD_ofNat, show (255 : Nat) = 2 ^ 8 - 1 from rfl, Nat.testBit_two_pow_sub_one]
  by_cases h : i < 8 <;> simp [h]
  omega
theorem own_narb (x : Int32) : (nar .byte x &&& (255 : Int32)).toBitVec = x.toBitVec &&& 255#32 := by
  apply BitVec.eq_of_getLsbD_eq
  intro i hi
  simp [nar, own_255, BitVec.getLsbD_signExtend]
  by_cases h : i < 8 <;> simp [h, hi]
theorem own_nb8 (x : Int32) : nar .byte (x.toInt8.toInt32) &&& (255 : Int32) = x &&& 255 := by
  apply Int32.toBitVec_inj.mp
  rw [own_narb]
  apply BitVec.eq_of_getLsbD_eq
  intro i hi
  simp [own_255, BitVec.getLsbD_signExtend]
  by_cases h : i < 8 <;> simp [h, hi]
theorem own_narc (x : Int32) (h1 : ¬ x < 0) (h2 : ¬ (65535 : Int32) < x) : nar .char x = x := by
  have h := c_i2c x
  rw [Int32.lt_iff_toInt_lt] at h1 h2
  rw [show (0 : Int32).toInt = 0 from rfl] at h1
  rw [show (65535 : Int32).toInt = 65535 from rfl] at h2
  apply Int32.toInt_inj.mp
  show (x.toUInt32.toUInt16.toUInt32.toInt32).toInt = x.toInt
  omega
theorem own_narcr (x : Int32) : ¬ nar .char x < 0 ∧ ¬ (65535 : Int32) < nar .char x := by
  have h := c_i2c x
  rw [Int32.lt_iff_toInt_lt, Int32.lt_iff_toInt_lt]
  rw [show (0 : Int32).toInt = 0 from rfl, show (65535 : Int32).toInt = 65535 from rfl]
  show ¬ (x.toUInt32.toUInt16.toUInt32.toInt32).toInt < 0 ∧ ¬ 65535 < (x.toUInt32.toUInt16.toUInt32.toInt32).toInt
  omega
theorem own_m255 (x : Int32) (h1 : ¬ x < 0) (h2 : ¬ (255 : Int32) < x) : x &&& (255 : Int32) = x := by
  have h := c_mask x 255 8 (by decide) (by decide)
  rw [Int32.lt_iff_toInt_lt] at h1 h2
  rw [show (0 : Int32).toInt = 0 from rfl] at h1
  rw [show (255 : Int32).toInt = 255 from rfl] at h2
  apply Int32.toInt_inj.mp
  rw [h]; omega
/-- a Latin-1 char comes back -/
theorem own_l8 (c : Int32) (h1 : ¬ c < 0) (h2 : ¬ (255 : Int32) < c) : own_c8 (nar .byte (c.toInt8.toInt32)) = c := by
  have e : nar .byte (c.toInt8.toInt32) &&& (255 : Int32) = c := by rw [own_nb8, own_m255 c h1 h2]
  have h3 : ¬ (65535 : Int32) < c := fun q => h2 (Int32.lt_trans (by decide) q)
  have e2 : c.toUInt32.toUInt16.toUInt32.toInt32 = c := own_narc c h1 h3
  unfold own_c8
  rw [e, e2, own_narc c h1 h3]
theorem own_l16 (c : Int32) (h1 : ¬ c < 0) (h2 : ¬ (65535 : Int32) < c) : own_c16 (nar .byte ((c >>> (0 : Int32)).toInt8.toInt32)) (nar .byte ((c >>> (8 : Int32)).toInt8.toInt32)) = c := by
  unfold own_c16
  rw [own_nb8, own_nb8]
  have e0 : c >>> (0 : Int32) = c := by simp
  rw [e0]
  have e : ((c &&& (255 : Int32)) <<< (0 : Int32)) ||| (((c >>> (8 : Int32)) &&& (255 : Int32)) <<< (8 : Int32)) = c := by
    have hb : ∀ i, 16 ≤ i → c.toBitVec.getLsbD i = false := by
      intro i hi
      rw [Int32.lt_iff_toInt_lt] at h1 h2
      rw [show (0 : Int32).toInt = 0 from rfl] at h1
      rw [show (65535 : Int32).toInt = 65535 from rfl] at h2
      have h3 : c.toInt = c.toBitVec.toInt := rfl
      have h4 : c.toBitVec.toNat < 65536 := by
        rw [h3, BitVec.toInt_eq_toNat_cond] at h1 h2
        split at h1 <;> simp_all <;> omega
      rw [BitVec.getLsbD, Nat.testBit_lt_two_pow]
      exact Nat.lt_of_lt_of_le h4 (Nat.le_trans (by decide : 65536 ≤ 2 ^ 16) (Nat.pow_le_pow_right (by decide) hi))
    apply Int32.toBitVec_inj.mp
    apply BitVec.eq_of_getLsbD_eq
    intro i hi
    have key : 8 ≤ i → 8 + (i - 8) = i := fun h => by omega
    simp [own_255, BitVec.getLsbD_sshiftRight]
    rcases Nat.lt_or_ge i 8 with a | a
    · simp [a]
    · rcases Nat.lt_or_ge i 16 with b | b
      · have q1 : ¬ i < 8 := by omega
        have q2 : i - 8 < 8 := by omega
        have q3 : i - 8 < 32 := by omega
        simp [hi, q1, q2, q3, key a]
      · have q1 : ¬ i < 8 := by omega
        have q2 : ¬ (i - 8 < 8) := by omega
        rw [hb i b]; simp [q1, q2]
  rw [e]
  have e2 : c.toUInt32.toUInt16.toUInt32.toInt32 = c := own_narc c h1 h2
  rw [e2, own_narc c h1 h2]

theorem own_nar2 (x : Int32) : nar .char (nar .char x) = nar .char x := own_narc _ (own_narcr x).1 (own_narcr x).2
def own_G (Z : State) (cs1 : Int32) (fm : Value) : Prop := Sta Z Z.heap "java/lang/String" "COMPACT_STRINGS" "Z" (.int cs1) ∧ ¬ (cs1 = (0 : Int32)) ∧ Sta Z Z.heap "jdk/internal/util/Preconditions" "SIOOBE_FORMATTER" "Ljava/util/function/BiFunction;" fm ∧ fm.isRef = true

theorem own_c255 (x : Int32) : ¬ (x &&& (255 : Int32)).toUInt32.toUInt16.toUInt32.toInt32 < 0 ∧ ¬ (255 : Int32) < (x &&& (255 : Int32)).toUInt32.toUInt16.toUInt32.toInt32 := by
  have h0 := c_mask x 255 8 (by decide) (by decide)
  have h := c_i2c (x &&& (255 : Int32))
  rw [Int32.lt_iff_toInt_lt, Int32.lt_iff_toInt_lt, show (0 : Int32).toInt = 0 from rfl, show (255 : Int32).toInt = 255 from rfl]
  omega
theorem own_le255 {c : Int32} (h2 : ¬ (255 : Int32) < c) : ¬ (65535 : Int32) < c := fun q => h2 (Int32.lt_trans (by decide) q)
def own_B (c : Int32) : Int32 := nar .byte ((nar .char c).toInt8.toInt32)
theorem own_Bi {c c' : Int32} (h1 : ¬ c < 0) (h2 : ¬ (255 : Int32) < c) (h1' : ¬ c' < 0) (h2' : ¬ (255 : Int32) < c') : own_B c = own_B c' ↔ c = c' := by
  constructor
  · intro q
    unfold own_B at q
    rw [own_narc c h1 (own_le255 h2), own_narc c' h1' (own_le255 h2')] at q
    rw [← own_l8 c h1 h2, q, own_l8 c' h1' h2']
  · intro q; rw [q]
def own_se (v r r' : Int32) : Int32 := if v = 0 then 0 else if r = r' then 1 else 0
theorem own_se01 (v r r' : Int32) : own_se v r r' = 0 ∨ own_se v r r' = 1 := by unfold own_se; split <;> (try split) <;> simp
theorem own_ns {Z : State} {a0 : Array Value} {O S K : String} {kk : Nat} (w1 : (Cond.superclass S O).before a0 Z = true) (w0 : (Cond.noSuperclass O).before a0 Z = true) (wi : (Cond.instantiable K kk).before a0 Z = true) {y : MethodName} (ws : (Cond.selects K y y).before a0 Z = true) (hy : y.cls = K) (hn : O ≠ K) (hn2 : S ≠ K) : ∃ c t, Z.vm.findClass S = some c ∧ Z.vm.findClass K = some t ∧ Z.vm.assignable c t = false := by
  obtain ⟨co, ko, o1, o2, o3, -, -⟩ := Cond.noSuperclass_spec w0
  obtain ⟨ck, kk', i1, i2, i3, -⟩ := Cond.instantiable_spec wi
  obtain ⟨c2, r2, m2, -, -, q3, -, kP, hkP, hkPi⟩ := Cond.selects_spec ws
  have hck : m2.cls = ck := Option.some.inj ((findClass_of_methodNamed q3).symm.trans (hy ▸ i1))
  rw [hck] at hkP
  cases hkP.symm.trans i2
  have ne1 := ids_ne o1 i1 hn
  have n0 : NS Z O K := ⟨co, ck, o1, i1, fun fuel => by cases fuel with | zero => rfl | succ f => simp [Vm.isSubclassAux, ne1, o2, o3]⟩
  have n1 := NS.step w1 n0 hn2
  obtain ⟨c, t, h0, g0, n3⟩ := n1
  have ht : t = ck := Option.some.inj (g0.symm.trans i1)
  subst ht
  obtain ⟨p, k, kp, h1, h2, h3, h4, h5, -, h7⟩ := Cond.superclass_spec h0 w1
  have ne := ids_ne h0 g0 hn2
  refine ⟨c, t, h0, g0, ?_⟩
  show Z.vm.assignableAux (255 + 1) c t = false
  rw [Vm.assignableAux]
  simp only [h2, i2, h5, i3, hkPi, Vm.isSubclass, n3]
  simp [ne]

abbrev own_R (c : Int32) : Prop := ¬ c < 0 ∧ ¬ (255 : Int32) < c
theorem own_f1 {c10 c20 r1 r2 sn ex : Int32} (q10 : own_R c10) (q20 : own_R c20) (hsn : sn = (if c10 = c20 then (1 : Int32) else (0 : Int32))) (hex : ex = (if sn = (0 : Int32) then (0 : Int32) else (if r1 = r2 then (1 : Int32) else (0 : Int32)))) :
    own_se (if own_B c10 = own_B c20 then (1 : Int32) else (0 : Int32)) r1 r2 = ex ∧ own_se (if own_B c20 = own_B c10 then (1 : Int32) else (0 : Int32)) r2 r1 = ex := by
  rw [hex, hsn]
  simp only [own_se, own_Bi q10.1 q10.2 q20.1 q20.2, own_Bi q20.1 q20.2 q10.1 q10.2, eq_comm (a := c20), eq_comm (a := r2)]
  by_cases h1 : c10 = c20 <;> by_cases h2 : r1 = r2 <;> simp [h1, h2]
theorem own_f2 {c10 c20 c11 c21 r1 r2 sn ex : Int32} (q10 : own_R c10) (q20 : own_R c20) (q11 : own_R c11) (q21 : own_R c21) (hsn : sn = (if c10 = c20 then (if c11 = c21 then (1 : Int32) else (0 : Int32)) else (0 : Int32))) (hex : ex = (if sn = (0 : Int32) then (0 : Int32) else (if r1 = r2 then (1 : Int32) else (0 : Int32)))) :
    own_se (if own_B c10 = own_B c20 then (if own_B c11 = own_B c21 then (1 : Int32) else (0 : Int32)) else (0 : Int32)) r1 r2 = ex ∧ own_se (if own_B c20 = own_B c10 then (if own_B c21 = own_B c11 then (1 : Int32) else (0 : Int32)) else (0 : Int32)) r2 r1 = ex := by
  rw [hex, hsn]
  simp only [own_se, own_Bi q10.1 q10.2 q20.1 q20.2, own_Bi q20.1 q20.2 q10.1 q10.2, own_Bi q11.1 q11.2 q21.1 q21.2, own_Bi q21.1 q21.2 q11.1 q11.2, eq_comm (a := c20), eq_comm (a := c21), eq_comm (a := r2)]
  by_cases h1 : c10 = c20 <;> by_cases h3 : c11 = c21 <;> by_cases h2 : r1 = r2 <;> simp [h1, h2, h3]
theorem own_nnr (x : Int32) : ¬ (x &&& (2147483647 : Int32)) < 0 := by
  have h0 := c_mask x 2147483647 31 (by decide) (by decide)
  rw [Int32.lt_iff_toInt_lt, show (0 : Int32).toInt = 0 from rfl]
  omega

theorem d11_0 : decode jdk_42_method_154_code 0 = .ok (.getstatic 38, 3) := by decide +kernel
theorem d11_3 : decode jdk_42_method_154_code 3 = .ok (.ifCond .eq 14, 3) := by decide +kernel
theorem d11_6 : decode jdk_42_method_154_code 6 = .ok (.aload_n 0, 1) := by decide +kernel
theorem d11_7 : decode jdk_42_method_154_code 7 = .ok (.getfield 15, 3) := by decide +kernel
theorem d11_10 : decode jdk_42_method_154_code 10 = .ok (.ifCond .ne 7, 3) := by decide +kernel
theorem d11_13 : decode jdk_42_method_154_code 13 = .ok (.iconst 1, 1) := by decide +kernel
theorem d11_14 : decode jdk_42_method_154_code 14 = .ok (.goto 4, 3) := by decide +kernel
theorem d11_18 : decode jdk_42_method_154_code 18 = .ok (.ireturn, 1) := by decide +kernel
theorem pn11 : plainFor (⟨"java/lang/String", "isLatin1", "()Z"⟩ : MethodName) = true := plainFor_of_name (by first | (simp [plainName, overriddenIn]; done) | decide +kernel)
theorem ef_rm11_0 (m : MethodId) (a1 : Addr) (cs1 : Int32) (fm : Value) : entryFrame m #[(.ref a1)] 1 = mkF m 0 #[.val (.ref a1)] [] := by first | (simp [entryFrame, mkF, argsToLocals, Value.category]; done) | rfl
def Q11_0 (Z : State) (a1 : Addr) (cs1 : Int32) (fm : Value) (h0 : Heap) (n0 : Nat) (v : Option Value) (h : Heap) (L : List Loc) : Prop := v = some (.int (1 : Int32)) ∧ Fr n0 L ∧ (h = h0)
set_option maxRecDepth 65536 in
set_option maxHeartbeats 40000000 in
theorem rm11_0 (l : Launch) (Z : State) (a0 : Array Value) (hw : ∀ d ∈ tables_1, d.before a0 Z = true) (ws : List Jvm.Cond) (a1 : Addr) (cs1 : Int32) (fm : Value) (h0 : Heap) (n0 : Nat) (Z0 : n0 ≤ h0.size) (O1 : Old Z n0 h0) (G : own_G Z cs1 fm) (F1 : Fld Z h0 a1 "java/lang/String" "coder" "B" (.int (0 : Int32))) :
    MetFree l (⟨"java/lang/String", "isLatin1", "()Z"⟩ : MethodName) (head1 (Jvm.Cond.code (⟨"java/lang/String", "isLatin1", "()Z"⟩ : MethodName) jdk_42_method_154_code 1 (some .boolean) :: ws) ({ frames := 0, cells := 0, slots := 0, locals := 0 } : Room)) (fun a U => a = #[(.ref a1)] ∧ Z.Warmed39 U.vm ∧ U.heap = h0) (fun _ _ _ _ _ => True) (fun _ U o U' => ∃ v L, o = .returned v ∧ Q11_0 Z a1 cs1 fm h0 n0 v U'.heap L ∧ FrameEnd U o U' L ({ frames := 0, cells := 0, slots := 0, locals := 0 } : Room).cells ({ frames := 0, cells := 0, slots := 0, locals := 0 } : Room).slots) := by
  refine MetFree.of_bodySF pn11 hisR ?_
  intro p e s m args below meth c s₁ Bd hml0 hP hK
  obtain ⟨rfl, hZ, hh⟩ := hP
  have hx := Bd.exec
  have hby := Bd.bytes
  have hml : c.maxLocals = 1 := hml0
  have hown : s.vm.findClass "java/lang/String" = some m.cls := findClass_of_methodNamed Bd.named
  have hnm := (name_of_methodNamed Bd.named Bd.method).1
  have X0 : Stand p l e ({ frames := 0, cells := 0, slots := 0, locals := 0 } : Room) s m #[(.ref a1)] below meth c s₁ [] 0 0 := Stand.of_body Bd
  have e0 : s₁.heap = h0 := by rw [← hh, Bd.state]; rfl
  have N0 := Fr.nil n0
  have p0 : Go p.tables e below (s₁.setTop (entryFrame m #[(.ref a1)] 1)) (s₁.setTop (mkF m 0 #[.val (.ref a1)] [])) := fun t_ k_ => castTop (ef_rm11_0 m a1 cs1 fm) k_
  obtain ⟨T101, X101, e101, st101⟩ := getS2 X0 hx hZ hown (host := "") (Or.inl (own_w hw 19 rfl)) Via.refl e0 (G.1.ext O1.2) (g := (mkF m 0 #[.val (.ref a1)] [])) rfl (hb hby d11_0)
  have c102 : ¬ (cs1 = (0 : Int32)) := G.2.1
  have p103 : Go p.tables e below _ (T101.setTop (mkF m 7 #[.val (.ref a1)] [(.ref a1)])) := fun t_ k_ => (gc p0 st101) t_ (by
    refine XS.ifNo X101.here hx rfl (hb hby d11_3) rfl ((if0 _ _).trans (feq c102).1) ?_
    refine XS.aloadN X101.here hx rfl (hb hby d11_6) rfl rfl ?_
    exact k_)
  obtain ⟨T104, X104, e104, st104⟩ := getF X101 hx hZ hown (host := "") (Or.inl (own_w hw 31 rfl)) Via.refl e101 F1 (g := (mkF m 7 #[.val (.ref a1)] [(.ref a1)])) rfl rfl (hb hby d11_7)
  have p105 : Go p.tables e below _ (T104.setTop (mkF m 18 #[.val (.ref a1)] [(.int (1 : Int32))])) := fun t_ k_ => (gc p103 st104) t_ (by
    refine XS.ifNo X104.here hx rfl (hb hby d11_10) rfl ((if0 _ _).trans (teq (by decide : ((0 : Int32) = (0 : Int32)))).2) ?_
    refine XS.iconst X104.here hx rfl (hb hby d11_13) ?_
    refine XS.goto X104.here hx rfl (pc0 := 14) (pc' := 18) rfl (hb hby d11_14) (by decide) (by decide) ?_
    exact k_)
  obtain ⟨fs, hr, hrun, hended, hW, hsame⟩ := X104.leave (v := some (.int (1 : Int32))) (fun h => by rw [Bd.returns] at h; cases h)
  refine ⟨_, _, p105 _ (retN X104 hx (t := .boolean) Bd.returns (by simp) (hb hby d11_18) hr), hrun, hended, _, _, rfl, ?_, ⟨_, rfl⟩, hW, hsame.mono (by decide) (by decide)⟩
  show Q11_0 Z a1 cs1 fm h0 n0 _ T104.heap _
  rw [e104]
  exact ⟨rfl, N0, rfl⟩
theorem d6_0 : decode jdk_52_method_21_code 0 = .ok (.iconst 0, 1) := by decide +kernel
theorem d6_1 : decode jdk_52_method_21_code 1 = .ok (.istore 5, 2) := by decide +kernel
theorem d6_3 : decode jdk_52_method_21_code 3 = .ok (.iload 5, 2) := by decide +kernel
theorem d6_5 : decode jdk_52_method_21_code 5 = .ok (.iload 4, 2) := by decide +kernel
theorem d6_7 : decode jdk_52_method_21_code 7 = .ok (.if_icmp .ge 37, 3) := by decide +kernel
theorem d6_10 : decode jdk_52_method_21_code 10 = .ok (.aload_n 0, 1) := by decide +kernel
theorem d6_11 : decode jdk_52_method_21_code 11 = .ok (.iload_n 1, 1) := by decide +kernel
theorem d6_12 : decode jdk_52_method_21_code 12 = .ok (.caload, 1) := by decide +kernel
theorem d6_13 : decode jdk_52_method_21_code 13 = .ok (.istore 6, 2) := by decide +kernel
theorem d6_15 : decode jdk_52_method_21_code 15 = .ok (.iload 6, 2) := by decide +kernel
theorem d6_17 : decode jdk_52_method_21_code 17 = .ok (.sipush 255, 3) := by decide +kernel
theorem d6_20 : decode jdk_52_method_21_code 20 = .ok (.if_icmp .le 6, 3) := by decide +kernel
theorem d6_26 : decode jdk_52_method_21_code 26 = .ok (.aload_n 2, 1) := by decide +kernel
theorem d6_27 : decode jdk_52_method_21_code 27 = .ok (.iload_n 3, 1) := by decide +kernel
theorem d6_28 : decode jdk_52_method_21_code 28 = .ok (.iload 6, 2) := by decide +kernel
theorem d6_30 : decode jdk_52_method_21_code 30 = .ok (.i2b, 1) := by decide +kernel
theorem d6_31 : decode jdk_52_method_21_code 31 = .ok (.bastore, 1) := by decide +kernel
theorem d6_32 : decode jdk_52_method_21_code 32 = .ok (.iinc 1 1, 3) := by decide +kernel
theorem d6_35 : decode jdk_52_method_21_code 35 = .ok (.iinc 3 1, 3) := by decide +kernel
theorem d6_38 : decode jdk_52_method_21_code 38 = .ok (.iinc 5 1, 3) := by decide +kernel
theorem d6_41 : decode jdk_52_method_21_code 41 = .ok (.goto (-38), 3) := by decide +kernel
theorem d6_44 : decode jdk_52_method_21_code 44 = .ok (.iload 4, 2) := by decide +kernel
theorem d6_46 : decode jdk_52_method_21_code 46 = .ok (.ireturn, 1) := by decide +kernel
theorem pn6 : plainFor (⟨"java/lang/StringUTF16", "compress", "([CI[BII)I"⟩ : MethodName) = true := plainFor_of_name (by first | (simp [plainName, overriddenIn]; done) | decide +kernel)
theorem ef_rm6_L1 (m : MethodId) (a1 : Addr) (a3 : Addr) (k1 : ClassId) (k3 : ClassId) (c0 : Int32) : entryFrame m #[(.ref a1), (.int (0 : Int32)), (.ref a3), (.int (0 : Int32)), (.int (1 : Int32))] 7 = mkF m 0 #[.val (.ref a1), .val (.int (0 : Int32)), .val (.ref a3), .val (.int (0 : Int32)), .val (.int (1 : Int32)), .unset, .unset] [] := by first | (simp [entryFrame, mkF, argsToLocals, Value.category]; done) | rfl
def Q6_L1 (Z : State) (a1 : Addr) (a3 : Addr) (k1 : ClassId) (k3 : ClassId) (c0 : Int32) (h0 : Heap) (n0 : Nat) (v : Option Value) (h : Heap) (L : List Loc) : Prop := v = some (.int (1 : Int32)) ∧ Fr n0 L ∧ (Keep h0 h [a3]) ∧ (Arv Z h a3 k3 .byte (1 : Int32) [(.int (nar .byte (c0.toInt8.toInt32)))] (.int (0 : Int32)))
set_option maxRecDepth 65536 in
set_option maxHeartbeats 40000000 in
theorem rm6_L1 (l : Launch) (Z : State) (a0 : Array Value) (hw : ∀ d ∈ tables_1, d.before a0 Z = true) (ws : List Jvm.Cond) (a1 : Addr) (a3 : Addr) (k1 : ClassId) (k3 : ClassId) (c0 : Int32) (h0 : Heap) (n0 : Nat) (Z0 : n0 ≤ h0.size) (V1 : Arv Z h0 a1 k1 .char (1 : Int32) [(.int c0)] (.int (0 : Int32))) (V3 : Arv Z h0 a3 k3 .byte (1 : Int32) [(.int (0 : Int32))] (.int (0 : Int32))) (ne : a1 ≠ a3) (g3 : n0 ≤ a3) (l0 : ¬ ((255 : Int32) < c0)) :
    MetFree l (⟨"java/lang/StringUTF16", "compress", "([CI[BII)I"⟩ : MethodName) (head1 (Jvm.Cond.code (⟨"java/lang/StringUTF16", "compress", "([CI[BII)I"⟩ : MethodName) jdk_52_method_21_code 7 (some .int) :: ws) ({ frames := 0, cells := 0, slots := 0, locals := 0 } : Room)) (fun a U => a = #[(.ref a1), (.int (0 : Int32)), (.ref a3), (.int (0 : Int32)), (.int (1 : Int32))] ∧ Z.Warmed39 U.vm ∧ U.heap = h0) (fun _ _ _ _ _ => True) (fun _ U o U' => ∃ v L, o = .returned v ∧ Q6_L1 Z a1 a3 k1 k3 c0 h0 n0 v U'.heap L ∧ FrameEnd U o U' L ({ frames := 0, cells := 0, slots := 0, locals := 0 } : Room).cells ({ frames := 0, cells := 0, slots := 0, locals := 0 } : Room).slots) := by
  refine MetFree.of_bodySF pn6 hisR ?_
  intro p e s m args below meth c s₁ Bd hml0 hP hK
  obtain ⟨rfl, hZ, hh⟩ := hP
  have hx := Bd.exec
  have hby := Bd.bytes
  have hml : c.maxLocals = 7 := hml0
  have hown : s.vm.findClass "java/lang/StringUTF16" = some m.cls := findClass_of_methodNamed Bd.named
  have hnm := (name_of_methodNamed Bd.named Bd.method).1
  have X0 : Stand p l e ({ frames := 0, cells := 0, slots := 0, locals := 0 } : Room) s m #[(.ref a1), (.int (0 : Int32)), (.ref a3), (.int (0 : Int32)), (.int (1 : Int32))] below meth c s₁ [] 0 0 := Stand.of_body Bd
  have e0 : s₁.heap = h0 := by rw [← hh, Bd.state]; rfl
  have N0 := Fr.nil n0
  have p0 : Go p.tables e below (s₁.setTop (entryFrame m #[(.ref a1), (.int (0 : Int32)), (.ref a3), (.int (0 : Int32)), (.int (1 : Int32))] 7)) (s₁.setTop (mkF m 0 #[.val (.ref a1), .val (.int (0 : Int32)), .val (.ref a3), .val (.int (0 : Int32)), .val (.int (1 : Int32)), .unset, .unset] [])) := fun t_ k_ => castTop (ef_rm6_L1 m a1 a3 k1 k3 c0) k_
  have p101 : Go p.tables e below _ (s₁.setTop (mkF m 12 #[.val (.ref a1), .val (.int (0 : Int32)), .val (.ref a3), .val (.int (0 : Int32)), .val (.int (1 : Int32)), .val (.int (0 : Int32)), .unset] [(.int (0 : Int32)), (.ref a1)])) := fun t_ k_ => p0 t_ (by
    refine XS.iconst X0.here hx rfl (hb hby d6_0) ?_
    refine XS.istore X0.here hx rfl (hb hby d6_1) rfl (l' := #[.val (.ref a1), .val (.int (0 : Int32)), .val (.ref a3), .val (.int (0 : Int32)), .val (.int (1 : Int32)), .val (.int (0 : Int32)), .unset]) rfl ?_
    refine XS.iload X0.here hx rfl (hb hby d6_3) rfl ?_
    refine XS.iload X0.here hx rfl (hb hby d6_5) rfl ?_
    refine XS.icmpNo X0.here hx rfl (hb hby d6_7) rfl (tlt (by decide : ((0 : Int32) < (1 : Int32)))).2.1 ?_
    refine XS.aloadN X0.here hx rfl (hb hby d6_10) rfl rfl ?_
    refine XS.iloadN X0.here hx rfl (hb hby d6_11) rfl ?_
    exact k_)
  obtain ⟨cl102, Ar102, q102, S102, Ng102, H102, G102⟩ := id V1
  have hin102 := inb_of S102 (j := (0 : Int32)) ⟨by decide, by decide⟩
  have hat102 := H102.at (v := (.int c0)) hin102 rfl
  have p103 : Go p.tables e below _ (s₁.setTop (mkF m 20 #[.val (.ref a1), .val (.int (0 : Int32)), .val (.ref a3), .val (.int (0 : Int32)), .val (.int (1 : Int32)), .val (.int (0 : Int32)), .val (.int c0)] [(.int (255 : Int32)), (.int c0)])) := fun t_ k_ => p101 t_ (by
    refine X0.caload hx (j := (0 : Int32)) (v := (.int c0)) (by rw [e0]; exact Ar102.1) (State.isArrayOf_alike hZ.alike Ar102.2.1) Ar102.2.2 hin102 hat102 (g := (mkF m 12 #[.val (.ref a1), .val (.int (0 : Int32)), .val (.ref a3), .val (.int (0 : Int32)), .val (.int (1 : Int32)), .val (.int (0 : Int32)), .unset] [(.int (0 : Int32)), (.ref a1)])) rfl rfl (hb hby d6_12) _ ?_
    refine XS.istore X0.here hx rfl (hb hby d6_13) rfl (l' := #[.val (.ref a1), .val (.int (0 : Int32)), .val (.ref a3), .val (.int (0 : Int32)), .val (.int (1 : Int32)), .val (.int (0 : Int32)), .val (.int c0)]) rfl ?_
    refine XS.iload X0.here hx rfl (hb hby d6_15) rfl ?_
    refine XS.sipush X0.here hx rfl (hb hby d6_17) ?_
    exact k_)
  have c104 : ¬ ((255 : Int32) < c0) := l0
  have p105 : Go p.tables e below _ (s₁.setTop (mkF m 31 #[.val (.ref a1), .val (.int (0 : Int32)), .val (.ref a3), .val (.int (0 : Int32)), .val (.int (1 : Int32)), .val (.int (0 : Int32)), .val (.int c0)] [(.int (c0.toInt8.toInt32)), (.int (0 : Int32)), (.ref a3)])) := fun t_ k_ => p103 t_ (by
    refine XS.icmpYes X0.here hx rfl (pc0 := 20) (pc' := 26) rfl (hb hby d6_20) rfl (flt c104).2.2.2 (by decide) (by decide) ?_
    refine XS.aloadN X0.here hx rfl (hb hby d6_26) rfl rfl ?_
    refine XS.iloadN X0.here hx rfl (hb hby d6_27) rfl ?_
    refine XS.iload X0.here hx rfl (hb hby d6_28) rfl ?_
    refine XS.i2b X0.here hx rfl (hb hby d6_30) rfl ?_
    exact k_)
  obtain ⟨cl106, Ar106, q106, S106, Ng106, H106, G106⟩ := id V3
  have hin106 := inb_of S106 (j := (0 : Int32)) ⟨by decide, by decide⟩
  obtain ⟨T106, h106, X106, e106, W106, st106⟩ := stB X0 hx hZ e0 Ar106 (j := (0 : Int32)) hin106 (g := (mkF m 31 #[.val (.ref a1), .val (.int (0 : Int32)), .val (.ref a3), .val (.int (0 : Int32)), .val (.int (1 : Int32)), .val (.int (0 : Int32)), .val (.int c0)] [(.int (c0.toInt8.toInt32)), (.int (0 : Int32)), (.ref a3)])) rfl rfl (hb hby d6_31)
  have K107 : Keep h0 h106 [a3] := (Keep.refl h0 [a3]).wr W106 (Or.inl (List.mem_of_getElem? (i := 0) rfl))
  have N106 := Fr.snoc X106 N0 g3
  have V106 : Arv Z h106 a3 k3 .byte (1 : Int32) [(.int (nar .byte (c0.toInt8.toInt32)))] (.int (0 : Int32)) := Arv.set Ar106 q106 S106 Ng106 H106 G106 (fits_nar_byte _) W106 0 rfl (Nat.le_of_ble_eq_true rfl)
  have p108 : Go p.tables e below _ (T106.setTop (mkF m 46 #[.val (.ref a1), .val (.int (1 : Int32)), .val (.ref a3), .val (.int (1 : Int32)), .val (.int (1 : Int32)), .val (.int (1 : Int32)), .val (.int c0)] [(.int (1 : Int32))])) := fun t_ k_ => (gc p105 st106) t_ (by
    refine XS.iinc X106.here hx rfl (hb hby d6_32) rfl (l' := #[.val (.ref a1), .val (.int (1 : Int32)), .val (.ref a3), .val (.int (0 : Int32)), .val (.int (1 : Int32)), .val (.int (0 : Int32)), .val (.int c0)]) rfl ?_
    refine XS.iinc X106.here hx rfl (hb hby d6_35) rfl (l' := #[.val (.ref a1), .val (.int (1 : Int32)), .val (.ref a3), .val (.int (1 : Int32)), .val (.int (1 : Int32)), .val (.int (0 : Int32)), .val (.int c0)]) rfl ?_
    refine XS.iinc X106.here hx rfl (hb hby d6_38) rfl (l' := #[.val (.ref a1), .val (.int (1 : Int32)), .val (.ref a3), .val (.int (1 : Int32)), .val (.int (1 : Int32)), .val (.int (1 : Int32)), .val (.int c0)]) rfl ?_
    refine XS.goto X106.here hx rfl (pc0 := 41) (pc' := 3) rfl (hb hby d6_41) (by decide) (by decide) ?_
    refine XS.iload X106.here hx rfl (hb hby d6_3) rfl ?_
    refine XS.iload X106.here hx rfl (hb hby d6_5) rfl ?_
    refine XS.icmpYes X106.here hx rfl (pc0 := 7) (pc' := 44) rfl (hb hby d6_7) rfl (flt (by decide : ¬ ((1 : Int32) < (1 : Int32)))).2.1 (by decide) (by decide) ?_
    refine XS.iload X106.here hx rfl (hb hby d6_44) rfl ?_
    exact k_)
  obtain ⟨fs, hr, hrun, hended, hW, hsame⟩ := X106.leave (v := some (.int (1 : Int32))) (fun h => by rw [Bd.returns] at h; cases h)
  refine ⟨_, _, p108 _ (retI X106 hx Bd.returns (hb hby d6_46) hr), hrun, hended, _, _, rfl, ?_, ⟨_, rfl⟩, hW, hsame.mono (by decide) (by decide)⟩
  show Q6_L1 Z a1 a3 k1 k3 c0 h0 n0 _ T106.heap _
  rw [e106]
  exact ⟨rfl, N106, K107, V106⟩
theorem d5_0 : decode jdk_52_method_16_code 0 = .ok (.iload_n 2, 1) := by decide +kernel
theorem d5_1 : decode jdk_52_method_16_code 1 = .ok (.newarray .byte, 2) := by decide +kernel
theorem d5_3 : decode jdk_52_method_16_code 3 = .ok (.astore_n 3, 1) := by decide +kernel
theorem d5_4 : decode jdk_52_method_16_code 4 = .ok (.aload_n 0, 1) := by decide +kernel
theorem d5_5 : decode jdk_52_method_16_code 5 = .ok (.iload_n 1, 1) := by decide +kernel
theorem d5_6 : decode jdk_52_method_16_code 6 = .ok (.aload_n 3, 1) := by decide +kernel
theorem d5_7 : decode jdk_52_method_16_code 7 = .ok (.iconst 0, 1) := by decide +kernel
theorem d5_8 : decode jdk_52_method_16_code 8 = .ok (.iload_n 2, 1) := by decide +kernel
theorem d5_9 : decode jdk_52_method_16_code 9 = .ok (.invokestatic 115, 3) := by decide +kernel
theorem d5_12 : decode jdk_52_method_16_code 12 = .ok (.istore 4, 2) := by decide +kernel
theorem d5_14 : decode jdk_52_method_16_code 14 = .ok (.iload 4, 2) := by decide +kernel
theorem d5_16 : decode jdk_52_method_16_code 16 = .ok (.iload_n 2, 1) := by decide +kernel
theorem d5_17 : decode jdk_52_method_16_code 17 = .ok (.if_icmp .eq 40, 3) := by decide +kernel
theorem d5_57 : decode jdk_52_method_16_code 57 = .ok (.aload_n 3, 1) := by decide +kernel
theorem d5_58 : decode jdk_52_method_16_code 58 = .ok (.areturn, 1) := by decide +kernel
theorem pd0 : parseMethodDescriptor "([CI[BII)I" = some ⟨[(.array .char), .int, (.array .byte), .int, .int], some .int⟩ := by decide +kernel
theorem pn5 : plainFor (⟨"java/lang/StringUTF16", "compress", "([CII)[B"⟩ : MethodName) = true := plainFor_of_name (by first | (simp [plainName, overriddenIn]; done) | decide +kernel)
theorem ef_rm5_L1 (m : MethodId) (a1 : Addr) (k1 : ClassId) (c0 : Int32) : entryFrame m #[(.ref a1), (.int (0 : Int32)), (.int (1 : Int32))] 6 = mkF m 0 #[.val (.ref a1), .val (.int (0 : Int32)), .val (.int (1 : Int32)), .unset, .unset, .unset] [] := by first | (simp [entryFrame, mkF, argsToLocals, Value.category]; done) | rfl
def Q5_L1 (Z : State) (a1 : Addr) (k1 : ClassId) (c0 : Int32) (h0 : Heap) (n0 : Nat) (v : Option Value) (h : Heap) (L : List Loc) : Prop := ∃ (b : Addr) (kb : ClassId), v = some (.ref b) ∧ Fr n0 L ∧ (Keep h0 h []) ∧ (n0 ≤ b) ∧ (h0.size ≤ b) ∧ (Arv Z h b kb .byte (1 : Int32) [(.int (nar .byte (c0.toInt8.toInt32)))] (.int (0 : Int32))) ∧ (Exa Z h b "[B")
set_option maxRecDepth 65536 in
set_option maxHeartbeats 40000000 in
theorem rm5_L1 (l : Launch) (Z : State) (a0 : Array Value) (hw : ∀ d ∈ tables_1, d.before a0 Z = true) (ws : List Jvm.Cond) (a1 : Addr) (k1 : ClassId) (c0 : Int32) (h0 : Heap) (n0 : Nat) (Z0 : n0 ≤ h0.size) (V1 : Arv Z h0 a1 k1 .char (1 : Int32) [(.int c0)] (.int (0 : Int32))) (l0 : ¬ ((255 : Int32) < c0)) :
    MetFree l (⟨"java/lang/StringUTF16", "compress", "([CII)[B"⟩ : MethodName) (head1 (Jvm.Cond.code (⟨"java/lang/StringUTF16", "compress", "([CII)[B"⟩ : MethodName) jdk_52_method_16_code 6 (some (.array .byte)) :: ws) ({ frames := 1, cells := 1, slots := 1, locals := 18 } : Room)) (fun a U => a = #[(.ref a1), (.int (0 : Int32)), (.int (1 : Int32))] ∧ Z.Warmed39 U.vm ∧ U.heap = h0) (fun _ _ _ _ _ => True) (fun _ U o U' => ∃ v L, o = .returned v ∧ Q5_L1 Z a1 k1 c0 h0 n0 v U'.heap L ∧ FrameEnd U o U' L ({ frames := 1, cells := 1, slots := 1, locals := 18 } : Room).cells ({ frames := 1, cells := 1, slots := 1, locals := 18 } : Room).slots) := by
  refine MetFree.of_bodySF pn5 hisR ?_
  intro p e s m args below meth c s₁ Bd hml0 hP hK
  obtain ⟨rfl, hZ, hh⟩ := hP
  have hx := Bd.exec
  have hby := Bd.bytes
  have hml : c.maxLocals = 6 := hml0
  have hown : s.vm.findClass "java/lang/StringUTF16" = some m.cls := findClass_of_methodNamed Bd.named
  have hnm := (name_of_methodNamed Bd.named Bd.method).1
  have X0 : Stand p l e ({ frames := 1, cells := 1, slots := 1, locals := 18 } : Room) s m #[(.ref a1), (.int (0 : Int32)), (.int (1 : Int32))] below meth c s₁ [] 0 0 := Stand.of_body Bd
  have e0 : s₁.heap = h0 := by rw [← hh, Bd.state]; rfl
  have N0 := Fr.nil n0
  have p0 : Go p.tables e below (s₁.setTop (entryFrame m #[(.ref a1), (.int (0 : Int32)), (.int (1 : Int32))] 6)) (s₁.setTop (mkF m 0 #[.val (.ref a1), .val (.int (0 : Int32)), .val (.int (1 : Int32)), .unset, .unset, .unset] [])) := fun t_ k_ => castTop (ef_rm5_L1 m a1 k1 c0) k_
  have p101 : Go p.tables e below _ (s₁.setTop (mkF m 1 #[.val (.ref a1), .val (.int (0 : Int32)), .val (.int (1 : Int32)), .unset, .unset, .unset] [(.int (1 : Int32))])) := fun t_ k_ => p0 t_ (by
    refine XS.iloadN X0.here hx rfl (hb hby d5_0) rfl ?_
    exact k_)
  obtain ⟨T102, h102, k102, X102, e102, E102, A102, AE102, st102⟩ := newPE X0 hx hZ (own_w hw 24 rfl) e0 (g := (mkF m 1 #[.val (.ref a1), .val (.int (0 : Int32)), .val (.int (1 : Int32)), .unset, .unset, .unset] [(.int (1 : Int32))])) rfl (hb hby d5_1) rfl (by decide) (cap := 1) (by decide) (by decide) (by decide) (by decide) (ad := "[B") (by decide)
  obtain ⟨b102, g102⟩ : ∃ z, z = h0.size := ⟨_, rfl⟩
  rw [← g102] at A102 AE102 st102
  have ne_a1_b102 : a1 ≠ b102 := Nat.ne_of_lt (Nat.lt_of_lt_of_le V1.lt (Nat.le_of_eq g102.symm))
  have ge_b102 : n0 ≤ b102 := Nat.le_trans (Nat.le_trans Z0 (Keep.refl h0 []).1) (Nat.le_of_eq g102.symm)
  have sz_b102 : h0.size ≤ b102 := Nat.le_trans (Keep.refl h0 []).1 (Nat.le_of_eq g102.symm)
  have K103 : Keep h0 h102 [] := (Keep.refl h0 []).ext E102
  have V102 : Arv Z h102 b102 k102 .byte (1 : Int32) [(.int (0 : Int32))] (.int (0 : Int32)) := (Arv.new A102 (by decide)).pad (pad_rep [] (.int (0 : Int32)) 1)
  have p104 : Go p.tables e below _ (T102.setTop (mkF m 9 #[.val (.ref a1), .val (.int (0 : Int32)), .val (.int (1 : Int32)), .val (.ref b102), .unset, .unset] [(.int (1 : Int32)), (.int (0 : Int32)), (.ref b102), (.int (0 : Int32)), (.ref a1)])) := fun t_ k_ => (gc p101 st102) t_ (by
    refine XS.astoreN X102.here hx rfl (hb hby d5_3) rfl rfl (l' := #[.val (.ref a1), .val (.int (0 : Int32)), .val (.int (1 : Int32)), .val (.ref b102), .unset, .unset]) rfl ?_
    refine XS.aloadN X102.here hx rfl (hb hby d5_4) rfl rfl ?_
    refine XS.iloadN X102.here hx rfl (hb hby d5_5) rfl ?_
    refine XS.aloadN X102.here hx rfl (hb hby d5_6) rfl rfl ?_
    refine XS.iconst X102.here hx rfl (hb hby d5_7) ?_
    refine XS.iloadN X102.here hx rfl (hb hby d5_8) rfl ?_
    exact k_)
  have f105 := (V1.ext E102)
  obtain ⟨_, _, ⟨T106, L106, k106, n106⟩, -, X106, ⟨Lc106, hQ106, l106, y106, z106⟩, st106⟩ := Jvm.LawKit.callS X102 hx (y := (⟨"java/lang/StringUTF16", "compress", "([CI[BII)I"⟩ : MethodName)) hown (mvT hZ (own_w hw 25 rfl)) (mvT hZ (own_w hw 26 rfl)) (mvT hZ (own_w hw 22 rfl)) (mvT hZ (own_w hw 27 rfl)) (by decide) (backOf (W := 0) (rm6_L1 l Z a0 hw [] a1 b102 k1 k102 c0 h102 n0 (Nat.le_trans Z0 K103.1) f105 V102 ne_a1_b102 ge_b102 l0) hZ (own_w hw 27 rfl) (own_w hw 22 rfl) (by decide) (by decide)) (g := (mkF m 9 #[.val (.ref a1), .val (.int (0 : Int32)), .val (.int (1 : Int32)), .val (.ref b102), .unset, .unset] [(.int (1 : Int32)), (.int (0 : Int32)), (.ref b102), (.int (0 : Int32)), (.ref a1)])) rfl (by rw [hml]; rfl) (argsL := [(.ref a1), (.int (0 : Int32)), (.ref b102), (.int (0 : Int32)), (.int (1 : Int32))]) (rest := []) (lenOf pd0 rfl) rfl (by show 2 * 0 + _ ≤ _; exact Nat.le_of_eq rfl) (hb hby d5_9) (fun _ _ => ⟨rfl, e102, (by decide : 1 + 0 ≤ _), (by decide : 1 + 0 ≤ _)⟩)
  dsimp only [Pt.U, Pt.locs, Pt.cells, Pt.slots] at X106 l106 y106 z106 st106 hQ106
  subst l106 y106 z106
  obtain ⟨rfl, N106q, q106_K, q106_V⟩ := hQ106
  have N106 := Fr.app N0 N106q
  have K107 : Keep h0 T106.heap [] := K103.trans q106_K (allS (Or.inr sz_b102) all0)
  have p108 : Go p.tables e below _ (T106.setTop (mkF m 58 #[.val (.ref a1), .val (.int (0 : Int32)), .val (.int (1 : Int32)), .val (.ref b102), .val (.int (1 : Int32)), .unset] [(.ref b102)])) := fun t_ k_ => (gc p104 st106) t_ (by
    refine XS.istore X106.here hx rfl (hb hby d5_12) rfl (l' := #[.val (.ref a1), .val (.int (0 : Int32)), .val (.int (1 : Int32)), .val (.ref b102), .val (.int (1 : Int32)), .unset]) rfl ?_
    refine XS.iload X106.here hx rfl (hb hby d5_14) rfl ?_
    refine XS.iloadN X106.here hx rfl (hb hby d5_16) rfl ?_
    refine XS.icmpYes X106.here hx rfl (pc0 := 17) (pc' := 57) rfl (hb hby d5_17) rfl (teq (by decide : ((1 : Int32) = (1 : Int32)))).1 (by decide) (by decide) ?_
    refine XS.aloadN X106.here hx rfl (hb hby d5_57) rfl rfl ?_
    exact k_)
  have f109 := (AE102.keep q106_K)
  obtain ⟨fs, hr, hrun, hended, hW, hsame⟩ := X106.leave (v := some (.ref b102)) (fun h => by rw [Bd.returns] at h; cases h)
  refine ⟨_, _, p108 _ (retOut X106 hx (w := (.ref b102)) (i := .areturn) Bd.returns rfl (Or.inr (Or.inr (Or.inr (Or.inr ⟨rfl, rfl, rfl⟩)))) (hb hby d5_58) hr), hrun, hended, _, _, rfl, ?_, ⟨_, rfl⟩, hW, hsame.mono (by decide) (by decide)⟩
  show Q5_L1 Z a1 k1 c0 h0 n0 _ T106.heap _
  exact ⟨b102, k102, rfl, N106, K107, ge_b102, sz_b102, q106_V, f109⟩
theorem d7_0 : decode jdk_52_method_15_code 0 = .ok (.iload_n 1, 1) := by decide +kernel
theorem d7_1 : decode jdk_52_method_15_code 1 = .ok (.aload_n 0, 1) := by decide +kernel
theorem d7_2 : decode jdk_52_method_15_code 2 = .ok (.arraylength, 1) := by decide +kernel
theorem d7_3 : decode jdk_52_method_15_code 3 = .ok (.isub, 1) := by decide +kernel
theorem d7_4 : decode jdk_52_method_15_code 4 = .ok (.bipush 31, 2) := by decide +kernel
theorem d7_6 : decode jdk_52_method_15_code 6 = .ok (.iushr, 1) := by decide +kernel
theorem d7_7 : decode jdk_52_method_15_code 7 = .ok (.i2b, 1) := by decide +kernel
theorem d7_8 : decode jdk_52_method_15_code 8 = .ok (.ireturn, 1) := by decide +kernel
theorem pn7 : plainFor (⟨"java/lang/StringUTF16", "coderFromArrayLen", "([BI)B"⟩ : MethodName) = true := plainFor_of_name (by first | (simp [plainName, overriddenIn]; done) | decide +kernel)
theorem ef_rm7_L1 (m : MethodId) (a1 : Addr) (k1 : ClassId) (vs : List Value) : entryFrame m #[(.ref a1), (.int (1 : Int32))] 2 = mkF m 0 #[.val (.ref a1), .val (.int (1 : Int32))] [] := by first | (simp [entryFrame, mkF, argsToLocals, Value.category]; done) | rfl
def Q7_L1 (Z : State) (a1 : Addr) (k1 : ClassId) (vs : List Value) (h0 : Heap) (n0 : Nat) (v : Option Value) (h : Heap) (L : List Loc) : Prop := v = some (.int (0 : Int32)) ∧ Fr n0 L ∧ (h = h0)
set_option maxRecDepth 65536 in
set_option maxHeartbeats 40000000 in
theorem rm7_L1 (l : Launch) (Z : State) (a0 : Array Value) (hw : ∀ d ∈ tables_1, d.before a0 Z = true) (ws : List Jvm.Cond) (a1 : Addr) (k1 : ClassId) (vs : List Value) (h0 : Heap) (n0 : Nat) (Z0 : n0 ≤ h0.size) (V1 : Arv Z h0 a1 k1 .byte (1 : Int32) vs (.int (0 : Int32))) :
    MetFree l (⟨"java/lang/StringUTF16", "coderFromArrayLen", "([BI)B"⟩ : MethodName) (head1 (Jvm.Cond.code (⟨"java/lang/StringUTF16", "coderFromArrayLen", "([BI)B"⟩ : MethodName) jdk_52_method_15_code 2 (some .byte) :: ws) ({ frames := 0, cells := 0, slots := 0, locals := 0 } : Room)) (fun a U => a = #[(.ref a1), (.int (1 : Int32))] ∧ Z.Warmed39 U.vm ∧ U.heap = h0) (fun _ _ _ _ _ => True) (fun _ U o U' => ∃ v L, o = .returned v ∧ Q7_L1 Z a1 k1 vs h0 n0 v U'.heap L ∧ FrameEnd U o U' L ({ frames := 0, cells := 0, slots := 0, locals := 0 } : Room).cells ({ frames := 0, cells := 0, slots := 0, locals := 0 } : Room).slots) := by
  refine MetFree.of_bodySF pn7 hisR ?_
  intro p e s m args below meth c s₁ Bd hml0 hP hK
  obtain ⟨rfl, hZ, hh⟩ := hP
  have hx := Bd.exec
  have hby := Bd.bytes
  have hml : c.maxLocals = 2 := hml0
  have hown : s.vm.findClass "java/lang/StringUTF16" = some m.cls := findClass_of_methodNamed Bd.named
  have hnm := (name_of_methodNamed Bd.named Bd.method).1
  have X0 : Stand p l e ({ frames := 0, cells := 0, slots := 0, locals := 0 } : Room) s m #[(.ref a1), (.int (1 : Int32))] below meth c s₁ [] 0 0 := Stand.of_body Bd
  have e0 : s₁.heap = h0 := by rw [← hh, Bd.state]; rfl
  have N0 := Fr.nil n0
  have p0 : Go p.tables e below (s₁.setTop (entryFrame m #[(.ref a1), (.int (1 : Int32))] 2)) (s₁.setTop (mkF m 0 #[.val (.ref a1), .val (.int (1 : Int32))] [])) := fun t_ k_ => castTop (ef_rm7_L1 m a1 k1 vs) k_
  have p101 : Go p.tables e below _ (s₁.setTop (mkF m 2 #[.val (.ref a1), .val (.int (1 : Int32))] [(.ref a1), (.int (1 : Int32))])) := fun t_ k_ => p0 t_ (by
    refine XS.iloadN X0.here hx rfl (hb hby d7_0) rfl ?_
    refine XS.aloadN X0.here hx rfl (hb hby d7_1) rfl rfl ?_
    exact k_)
  obtain ⟨cl102, Ar102, -, S102, Ng102, -, -⟩ := id V1
  have p103 : Go p.tables e below _ (s₁.setTop (mkF m 8 #[.val (.ref a1), .val (.int (1 : Int32))] [(.int (0 : Int32))])) := fun t_ k_ => p101 t_ (by
    refine X0.arraylength hx (by rw [e0]; exact Ar102.1) (State.isArrayOf_alike hZ.alike Ar102.2.1) (g := (mkF m 2 #[.val (.ref a1), .val (.int (1 : Int32))] [(.ref a1), (.int (1 : Int32))])) rfl rfl (hb hby d7_2) _ ?_
    rw [len_of S102 Ng102]
    show Steps p.tables e below (s₁.setTop (mkF m 3 #[.val (.ref a1), .val (.int (1 : Int32))] [(.int (1 : Int32)), (.int (1 : Int32))])) _
    refine XS.isub X0.here hx rfl (hb hby d7_3) rfl ?_
    refine XS.bipush X0.here hx rfl (hb hby d7_4) ?_
    refine XS.iushr X0.here hx rfl (hb hby d7_6) rfl ?_
    refine XS.i2b X0.here hx rfl (hb hby d7_7) rfl ?_
    exact k_)
  obtain ⟨fs, hr, hrun, hended, hW, hsame⟩ := X0.leave (v := some (.int (0 : Int32))) (fun h => by rw [Bd.returns] at h; cases h)
  refine ⟨_, _, p103 _ (retN X0 hx (t := .byte) Bd.returns (by simp) (hb hby d7_8) hr), hrun, hended, _, _, rfl, ?_, ⟨_, rfl⟩, hW, hsame.mono (by decide) (by decide)⟩
  show Q7_L1 Z a1 k1 vs h0 n0 _ s₁.heap _
  rw [e0]
  exact ⟨rfl, N0, rfl⟩
theorem d3_0 : decode jdk_42_method_149_code 0 = .ok (.aload_n 0, 1) := by decide +kernel
theorem d3_1 : decode jdk_42_method_149_code 1 = .ok (.invokespecial 1, 3) := by decide +kernel
theorem d3_4 : decode jdk_42_method_149_code 4 = .ok (.iload_n 3, 1) := by decide +kernel
theorem d3_5 : decode jdk_42_method_149_code 5 = .ok (.ifCond .ne 22, 3) := by decide +kernel
theorem d3_27 : decode jdk_42_method_149_code 27 = .ok (.getstatic 38, 3) := by decide +kernel
theorem d3_30 : decode jdk_42_method_149_code 30 = .ok (.ifCond .eq 28, 3) := by decide +kernel
theorem d3_33 : decode jdk_42_method_149_code 33 = .ok (.aload_n 1, 1) := by decide +kernel
theorem d3_34 : decode jdk_42_method_149_code 34 = .ok (.iload_n 2, 1) := by decide +kernel
theorem d3_35 : decode jdk_42_method_149_code 35 = .ok (.iload_n 3, 1) := by decide +kernel
theorem d3_36 : decode jdk_42_method_149_code 36 = .ok (.invokestatic 177, 3) := by decide +kernel
theorem d3_39 : decode jdk_42_method_149_code 39 = .ok (.astore 5, 2) := by decide +kernel
theorem d3_41 : decode jdk_42_method_149_code 41 = .ok (.aload_n 0, 1) := by decide +kernel
theorem d3_42 : decode jdk_42_method_149_code 42 = .ok (.aload 5, 2) := by decide +kernel
theorem d3_44 : decode jdk_42_method_149_code 44 = .ok (.iload_n 3, 1) := by decide +kernel
theorem d3_45 : decode jdk_42_method_149_code 45 = .ok (.invokestatic 47, 3) := by decide +kernel
theorem d3_48 : decode jdk_42_method_149_code 48 = .ok (.putfield 15, 3) := by decide +kernel
theorem d3_51 : decode jdk_42_method_149_code 51 = .ok (.aload_n 0, 1) := by decide +kernel
theorem d3_52 : decode jdk_42_method_149_code 52 = .ok (.aload 5, 2) := by decide +kernel
theorem d3_54 : decode jdk_42_method_149_code 54 = .ok (.putfield 9, 3) := by decide +kernel
theorem d3_57 : decode jdk_42_method_149_code 57 = .ok (.return_, 1) := by decide +kernel
theorem pd1 : parseMethodDescriptor "([CII)[B" = some ⟨[(.array .char), .int, .int], some (.array .byte)⟩ := by decide +kernel
theorem pd2 : parseMethodDescriptor "([BI)B" = some ⟨[(.array .byte), .int], some .byte⟩ := by decide +kernel
theorem pn3 : plainFor (⟨"java/lang/String", "<init>", "([CIILjava/lang/Void;)V"⟩ : MethodName) = true := plainFor_of_name (by first | (simp [plainName, overriddenIn]; done) | decide +kernel)
theorem ef_rm3_L1 (m : MethodId) (a1 : Addr) (a2 : Addr) (k1 : ClassId) (c0 : Int32) (cs1 : Int32) (fm : Value) : entryFrame m #[(.ref a1), (.ref a2), (.int (0 : Int32)), (.int (1 : Int32)), .null] 6 = mkF m 0 #[.val (.ref a1), .val (.ref a2), .val (.int (0 : Int32)), .val (.int (1 : Int32)), .val .null, .unset] [] := by first | (simp [entryFrame, mkF, argsToLocals, Value.category]; done) | rfl
def Q3_L1 (Z : State) (a1 : Addr) (a2 : Addr) (k1 : ClassId) (c0 : Int32) (cs1 : Int32) (fm : Value) (h0 : Heap) (n0 : Nat) (v : Option Value) (h : Heap) (L : List Loc) : Prop := ∃ (b : Addr) (kb : ClassId), v = none ∧ Fr n0 L ∧ (Keep h0 h [a1]) ∧ (Exa Z h a1 "java/lang/String") ∧ (Fld Z h a1 "java/lang/String" "coder" "B" (.int (0 : Int32))) ∧ (Fld Z h a1 "java/lang/String" "value" "[B" (.ref b)) ∧ (Fld Z h a1 "java/lang/String" "hash" "I" (.int (0 : Int32))) ∧ (Fld Z h a1 "java/lang/String" "hashIsZero" "Z" (.int (0 : Int32))) ∧ (n0 ≤ b) ∧ (h0.size ≤ b) ∧ (Arv Z h b kb .byte (1 : Int32) [(.int (nar .byte (c0.toInt8.toInt32)))] (.int (0 : Int32))) ∧ (Exa Z h b "[B") ∧ (a1 ≠ b)
set_option maxRecDepth 65536 in
set_option maxHeartbeats 40000000 in
theorem rm3_L1 (l : Launch) (Z : State) (a0 : Array Value) (hw : ∀ d ∈ tables_1, d.before a0 Z = true) (ws : List Jvm.Cond) (a1 : Addr) (a2 : Addr) (k1 : ClassId) (c0 : Int32) (cs1 : Int32) (fm : Value) (h0 : Heap) (n0 : Nat) (Z0 : n0 ≤ h0.size) (O1 : Old Z n0 h0) (G : own_G Z cs1 fm) (F1 : Fld Z h0 a1 "java/lang/String" "coder" "B" (.int (0 : Int32))) (F2 : Fld Z h0 a1 "java/lang/String" "value" "[B" .null) (xhash : Fld Z h0 a1 "java/lang/String" "hash" "I" (.int (0 : Int32))) (xhashIsZero : Fld Z h0 a1 "java/lang/String" "hashIsZero" "Z" (.int (0 : Int32))) (E1 : Exa Z h0 a1 "java/lang/String") (V1 : Arv Z h0 a2 k1 .char (1 : Int32) [(.int c0)] (.int (0 : Int32))) (ne : a1 ≠ a2) (g1 : n0 ≤ a1) (l0 : ¬ ((255 : Int32) < c0)) :
    MetFree l (⟨"java/lang/String", "<init>", "([CIILjava/lang/Void;)V"⟩ : MethodName) (head1 (Jvm.Cond.code (⟨"java/lang/String", "<init>", "([CIILjava/lang/Void;)V"⟩ : MethodName) jdk_42_method_149_code 6 none :: ws) ({ frames := 2, cells := 1, slots := 1, locals := 35 } : Room)) (fun a U => a = #[(.ref a1), (.ref a2), (.int (0 : Int32)), (.int (1 : Int32)), .null] ∧ Z.Warmed39 U.vm ∧ U.heap = h0) (fun _ _ _ _ _ => True) (fun _ U o U' => ∃ v L, o = .returned v ∧ Q3_L1 Z a1 a2 k1 c0 cs1 fm h0 n0 v U'.heap L ∧ FrameEnd U o U' L ({ frames := 2, cells := 1, slots := 1, locals := 35 } : Room).cells ({ frames := 2, cells := 1, slots := 1, locals := 35 } : Room).slots) := by
  refine MetFree.of_bodySF pn3 hisR ?_
  intro p e s m args below meth c s₁ Bd hml0 hP hK
  obtain ⟨rfl, hZ, hh⟩ := hP
  have hx := Bd.exec
  have hby := Bd.bytes
  have hml : c.maxLocals = 6 := hml0
  have hown : s.vm.findClass "java/lang/String" = some m.cls := findClass_of_methodNamed Bd.named
  have hnm := (name_of_methodNamed Bd.named Bd.method).1
  have X0 : Stand p l e ({ frames := 2, cells := 1, slots := 1, locals := 35 } : Room) s m #[(.ref a1), (.ref a2), (.int (0 : Int32)), (.int (1 : Int32)), .null] below meth c s₁ [] 0 0 := Stand.of_body Bd
  have e0 : s₁.heap = h0 := by rw [← hh, Bd.state]; rfl
  have N0 := Fr.nil n0
  have p0 : Go p.tables e below (s₁.setTop (entryFrame m #[(.ref a1), (.ref a2), (.int (0 : Int32)), (.int (1 : Int32)), .null] 6)) (s₁.setTop (mkF m 0 #[.val (.ref a1), .val (.ref a2), .val (.int (0 : Int32)), .val (.int (1 : Int32)), .val .null, .unset] [])) := fun t_ k_ => castTop (ef_rm3_L1 m a1 a2 k1 c0 cs1 fm) k_
  have p101 : Go p.tables e below _ (s₁.setTop (mkF m 1 #[.val (.ref a1), .val (.ref a2), .val (.int (0 : Int32)), .val (.int (1 : Int32)), .val .null, .unset] [(.ref a1)])) := fun t_ k_ => p0 t_ (by
    refine XS.aloadN X0.here hx rfl (hb hby d3_0) rfl rfl ?_
    exact k_)
  obtain ⟨T102, X102, e102, st102⟩ := initO X0 hx hZ hown (own_w hw 16 rfl) (own_w hw 17 rfl) (own_w hw 18 rfl) e0 (g := (mkF m 1 #[.val (.ref a1), .val (.ref a2), .val (.int (0 : Int32)), .val (.int (1 : Int32)), .val .null, .unset] [(.ref a1)])) rfl (by rw [hml]; rfl) rfl (hb hby d3_1) (by decide) (W := 0) (by show 2 * 0 + _ ≤ _; exact Nat.le_of_eq rfl) (by decide)
  have p103 : Go p.tables e below _ (T102.setTop (mkF m 27 #[.val (.ref a1), .val (.ref a2), .val (.int (0 : Int32)), .val (.int (1 : Int32)), .val .null, .unset] [])) := fun t_ k_ => (gc p101 st102) t_ (by
    refine XS.iloadN X102.here hx rfl (hb hby d3_4) rfl ?_
    refine XS.ifYes X102.here hx rfl (pc0 := 5) (pc' := 27) rfl (hb hby d3_5) rfl ((if0 _ _).trans (feq (by decide : ¬ ((1 : Int32) = (0 : Int32)))).2) (by decide) (by decide) ?_
    exact k_)
  obtain ⟨T104, X104, e104, st104⟩ := getS2 X102 hx hZ hown (host := "") (Or.inl (own_w hw 19 rfl)) Via.refl e102 (G.1.ext O1.2) (g := (mkF m 27 #[.val (.ref a1), .val (.ref a2), .val (.int (0 : Int32)), .val (.int (1 : Int32)), .val .null, .unset] [])) rfl (hb hby d3_27)
  have c105 : ¬ (cs1 = (0 : Int32)) := G.2.1
  have p106 : Go p.tables e below _ (T104.setTop (mkF m 36 #[.val (.ref a1), .val (.ref a2), .val (.int (0 : Int32)), .val (.int (1 : Int32)), .val .null, .unset] [(.int (1 : Int32)), (.int (0 : Int32)), (.ref a2)])) := fun t_ k_ => (gc p103 st104) t_ (by
    refine XS.ifNo X104.here hx rfl (hb hby d3_30) rfl ((if0 _ _).trans (feq c105).1) ?_
    refine XS.aloadN X104.here hx rfl (hb hby d3_33) rfl rfl ?_
    refine XS.iloadN X104.here hx rfl (hb hby d3_34) rfl ?_
    refine XS.iloadN X104.here hx rfl (hb hby d3_35) rfl ?_
    exact k_)
  obtain ⟨_, _, ⟨T107, L107, k107, n107⟩, -, X107, ⟨Lc107, hQ107, l107, y107, z107⟩, st107⟩ := Jvm.LawKit.callS X104 hx (y := (⟨"java/lang/StringUTF16", "compress", "([CII)[B"⟩ : MethodName)) hown (mvT hZ (own_w hw 20 rfl)) (mvT hZ (own_w hw 21 rfl)) (mvT hZ (own_w hw 22 rfl)) (mvT hZ (own_w hw 23 rfl)) (by decide) (backOf (W := 0) (rm5_L1 l Z a0 hw [] a2 k1 c0 h0 n0 (Nat.le_trans Z0 (Keep.refl h0 [a1]).1) V1 l0) hZ (own_w hw 23 rfl) (own_w hw 22 rfl) (by decide) (by decide)) (g := (mkF m 36 #[.val (.ref a1), .val (.ref a2), .val (.int (0 : Int32)), .val (.int (1 : Int32)), .val .null, .unset] [(.int (1 : Int32)), (.int (0 : Int32)), (.ref a2)])) rfl (by rw [hml]; rfl) (argsL := [(.ref a2), (.int (0 : Int32)), (.int (1 : Int32))]) (rest := []) (lenOf pd1 rfl) rfl (by show 2 * 0 + _ ≤ _; exact Nat.le_of_eq rfl) (hb hby d3_36) (fun _ _ => ⟨rfl, e104, (by decide : 0 + 1 ≤ _), (by decide : 0 + 1 ≤ _)⟩)
  dsimp only [Pt.U, Pt.locs, Pt.cells, Pt.slots] at X107 l107 y107 z107 st107 hQ107
  subst l107 y107 z107
  obtain ⟨x108, x109, rfl, N107q, q107_K, q107_g, q107_z, q107_V, q107_xb⟩ := hQ107
  have N107 := Fr.app N0 N107q
  have K110 : Keep h0 T107.heap [a1] := (Keep.refl h0 [a1]).trans q107_K all0
  have ne_a1_x108 : a1 ≠ x108 := Nat.ne_of_lt (Nat.lt_of_lt_of_le E1.lt q107_z)
  have ne_a2_x108 : a2 ≠ x108 := Nat.ne_of_lt (Nat.lt_of_lt_of_le V1.lt q107_z)
  have p111 : Go p.tables e below _ (T107.setTop (mkF m 45 #[.val (.ref a1), .val (.ref a2), .val (.int (0 : Int32)), .val (.int (1 : Int32)), .val .null, .val (.ref x108)] [(.int (1 : Int32)), (.ref x108), (.ref a1)])) := fun t_ k_ => (gc p106 st107) t_ (by
    refine XS.astore X107.here hx rfl (hb hby d3_39) rfl rfl (l' := #[.val (.ref a1), .val (.ref a2), .val (.int (0 : Int32)), .val (.int (1 : Int32)), .val .null, .val (.ref x108)]) rfl ?_
    refine XS.aloadN X107.here hx rfl (hb hby d3_41) rfl rfl ?_
    refine XS.aload X107.here hx rfl (hb hby d3_42) rfl rfl ?_
    refine XS.iloadN X107.here hx rfl (hb hby d3_44) rfl ?_
    exact k_)
  obtain ⟨_, _, ⟨T112, L112, k112, n112⟩, -, X112, ⟨Lc112, hQ112, l112, y112, z112⟩, st112⟩ := Jvm.LawKit.callS X107 hx (y := (⟨"java/lang/StringUTF16", "coderFromArrayLen", "([BI)B"⟩ : MethodName)) hown (mvT hZ (own_w hw 28 rfl)) (mvT hZ (own_w hw 29 rfl)) (mvT hZ (own_w hw 22 rfl)) (mvT hZ (own_w hw 30 rfl)) (by decide) (backOf (W := 1) (rm7_L1 l Z a0 hw [] x108 x109 [(.int (nar .byte (c0.toInt8.toInt32)))] T107.heap n0 (Nat.le_trans Z0 K110.1) q107_V) hZ (own_w hw 30 rfl) (own_w hw 22 rfl) (by decide) (by decide)) (g := (mkF m 45 #[.val (.ref a1), .val (.ref a2), .val (.int (0 : Int32)), .val (.int (1 : Int32)), .val .null, .val (.ref x108)] [(.int (1 : Int32)), (.ref x108), (.ref a1)])) rfl (by rw [hml]; rfl) (argsL := [(.ref x108), (.int (1 : Int32))]) (rest := [(.ref a1)]) (lenOf pd2 rfl) rfl (by show 2 * 0 + _ ≤ _; exact Nat.le_of_eq rfl) (hb hby d3_45) (fun _ _ => ⟨rfl, rfl, (by decide : 1 + 0 ≤ _), (by decide : 1 + 0 ≤ _)⟩)
  dsimp only [Pt.U, Pt.locs, Pt.cells, Pt.slots] at X112 l112 y112 z112 st112 hQ112
  subst l112 y112 z112
  obtain ⟨rfl, N112q, q112_hh⟩ := hQ112
  have N112 := Fr.app N107 N112q
  have f113 := (F1.keep q107_K nin0)
  have f114 := (E1.keep q107_K)
  obtain ⟨T115, h115, X115, e115, W115, st115⟩ := putFN X112 hx hZ hown (own_w hw 31 rfl) Via.refl q112_hh f113 f114 (Or.inr ⟨(own_w hw 32 rfl), rfl, hnm⟩) (own_w hw 6 rfl) (ty := .byte) (v' := (.int (0 : Int32))) (by decide) rfl (by decide) (g := (mkF m 48 #[.val (.ref a1), .val (.ref a2), .val (.int (0 : Int32)), .val (.int (1 : Int32)), .val .null, .val (.ref x108)] [(.int (0 : Int32)), (.ref a1)])) rfl rfl (hb hby d3_48)
  have K116 : Keep h0 h115 [a1] := K110.wr W115 (Or.inl (List.mem_of_getElem? (i := 0) rfl))
  have N115 := Fr.snoc X115 N112 g1
  have F115 : Fld Z h115 a1 "java/lang/String" "coder" "B" (.int (0 : Int32)) := f113.same W115
  have p117 : Go p.tables e below _ (T115.setTop (mkF m 54 #[.val (.ref a1), .val (.ref a2), .val (.int (0 : Int32)), .val (.int (1 : Int32)), .val .null, .val (.ref x108)] [(.ref x108), (.ref a1)])) := fun t_ k_ => (gc (gc p111 st112) st115) t_ (by
    refine XS.aloadN X115.here hx rfl (hb hby d3_51) rfl rfl ?_
    refine XS.aload X115.here hx rfl (hb hby d3_52) rfl rfl ?_
    exact k_)
  have f118 := ((F2.keep q107_K nin0).other W115 (Or.inr (slot_ne (Or.inr (own_w hw 34 rfl)) (Or.inr (own_w hw 32 rfl)) (by decide) (t := (.array .byte)) (t' := .byte) (by decide) (by decide))))
  have f119 := (f114.wr W115)
  obtain ⟨T120, h120, X120, e120, W120, st120⟩ := putF X115 hx hZ hown (host := "") (Or.inl (own_w hw 33 rfl)) Via.refl e115 f118 f119 (Or.inr ⟨(own_w hw 34 rfl), rfl, hnm⟩) (own_w hw 6 rfl) (ty := (.array .byte)) (by decide) rfl rfl (g := (mkF m 54 #[.val (.ref a1), .val (.ref a2), .val (.int (0 : Int32)), .val (.int (1 : Int32)), .val .null, .val (.ref x108)] [(.ref x108), (.ref a1)])) rfl rfl (hb hby d3_54)
  have K121 : Keep h0 h120 [a1] := K116.wr W120 (Or.inl (List.mem_of_getElem? (i := 0) rfl))
  have N120 := Fr.snoc X120 N115 g1
  have F120 : Fld Z h120 a1 "java/lang/String" "value" "[B" (.ref x108) := f118.same W120
  have f122 := (f119.wr W120)
  have f123 := (F115.other W120 (Or.inr (slot_ne (Or.inr (own_w hw 32 rfl)) (Or.inr (own_w hw 34 rfl)) (by decide) (t := .byte) (t' := (.array .byte)) (by decide) (by decide))))
  have f124 := (((xhash.keep q107_K nin0).other W115 (Or.inr (slot_ne (Or.inl (own_w hw 57 rfl)) (Or.inr (own_w hw 32 rfl)) (by decide) (t := .int) (t' := .byte) (by decide) (by decide)))).other W120 (Or.inr (slot_ne (Or.inl (own_w hw 57 rfl)) (Or.inr (own_w hw 34 rfl)) (by decide) (t := .int) (t' := (.array .byte)) (by decide) (by decide))))
  have f125 := (((xhashIsZero.keep q107_K nin0).other W115 (Or.inr (slot_ne (Or.inl (own_w hw 59 rfl)) (Or.inr (own_w hw 32 rfl)) (by decide) (t := .boolean) (t' := .byte) (by decide) (by decide)))).other W120 (Or.inr (slot_ne (Or.inl (own_w hw 59 rfl)) (Or.inr (own_w hw 34 rfl)) (by decide) (t := .boolean) (t' := (.array .byte)) (by decide) (by decide))))
  have f126 := ((q107_V.other W115 (Ne.symm ne_a1_x108)).other W120 (Ne.symm ne_a1_x108))
  have f127 := ((q107_xb.wr W115).wr W120)
  obtain ⟨fs, hr, hrun, hended, hW, hsame⟩ := X120.leave (v := none) (fun _ => rfl)
  refine ⟨_, _, (gc p117 st120) _ (X120.returnOut hx Bd.returns (hb hby d3_57) hr), hrun, hended, _, _, rfl, ?_, ⟨_, rfl⟩, hW, hsame.mono (by decide) (by decide)⟩
  show Q3_L1 Z a1 a2 k1 c0 cs1 fm h0 n0 _ T120.heap _
  rw [e120]
  exact ⟨x108, x109, rfl, N120, K121, f122, f123, F120, f124, f125, q107_g, (Nat.le_trans (Keep.refl h0 [a1]).1 q107_z), f126, f127, ne_a1_x108⟩
theorem d2_0 : decode jdk_42_method_3_code 0 = .ok (.aload_n 0, 1) := by decide +kernel
theorem d2_1 : decode jdk_42_method_3_code 1 = .ok (.aload_n 1, 1) := by decide +kernel
theorem d2_2 : decode jdk_42_method_3_code 2 = .ok (.iconst 0, 1) := by decide +kernel
theorem d2_3 : decode jdk_42_method_3_code 3 = .ok (.aload_n 1, 1) := by decide +kernel
theorem d2_4 : decode jdk_42_method_3_code 4 = .ok (.arraylength, 1) := by decide +kernel
theorem d2_5 : decode jdk_42_method_3_code 5 = .ok (.aconst_null, 1) := by decide +kernel
theorem d2_6 : decode jdk_42_method_3_code 6 = .ok (.invokespecial 27, 3) := by decide +kernel
theorem d2_9 : decode jdk_42_method_3_code 9 = .ok (.return_, 1) := by decide +kernel
theorem pd3 : parseMethodDescriptor "([CIILjava/lang/Void;)V" = some ⟨[(.array .char), .int, .int, (.object "java/lang/Void")], none⟩ := by decide +kernel
theorem pn2 : plainFor (⟨"java/lang/String", "<init>", "([C)V"⟩ : MethodName) = true := plainFor_of_name (by first | (simp [plainName, overriddenIn]; done) | decide +kernel)
theorem ef_rm2_L1 (m : MethodId) (a1 : Addr) (a2 : Addr) (k1 : ClassId) (c0 : Int32) (cs1 : Int32) (fm : Value) : entryFrame m #[(.ref a1), (.ref a2)] 2 = mkF m 0 #[.val (.ref a1), .val (.ref a2)] [] := by first | (simp [entryFrame, mkF, argsToLocals, Value.category]; done) | rfl
def Q2_L1 (Z : State) (a1 : Addr) (a2 : Addr) (k1 : ClassId) (c0 : Int32) (cs1 : Int32) (fm : Value) (h0 : Heap) (n0 : Nat) (v : Option Value) (h : Heap) (L : List Loc) : Prop := ∃ (b : Addr) (kb : ClassId), v = none ∧ Fr n0 L ∧ (Keep h0 h [a1]) ∧ (Exa Z h a1 "java/lang/String") ∧ (Fld Z h a1 "java/lang/String" "coder" "B" (.int (0 : Int32))) ∧ (Fld Z h a1 "java/lang/String" "value" "[B" (.ref b)) ∧ (Fld Z h a1 "java/lang/String" "hash" "I" (.int (0 : Int32))) ∧ (Fld Z h a1 "java/lang/String" "hashIsZero" "Z" (.int (0 : Int32))) ∧ (n0 ≤ b) ∧ (h0.size ≤ b) ∧ (Arv Z h b kb .byte (1 : Int32) [(.int (nar .byte (c0.toInt8.toInt32)))] (.int (0 : Int32))) ∧ (Exa Z h b "[B") ∧ (a1 ≠ b)
set_option maxRecDepth 65536 in
set_option maxHeartbeats 40000000 in
theorem rm2_L1 (l : Launch) (Z : State) (a0 : Array Value) (hw : ∀ d ∈ tables_1, d.before a0 Z = true) (ws : List Jvm.Cond) (a1 : Addr) (a2 : Addr) (k1 : ClassId) (c0 : Int32) (cs1 : Int32) (fm : Value) (h0 : Heap) (n0 : Nat) (Z0 : n0 ≤ h0.size) (O1 : Old Z n0 h0) (G : own_G Z cs1 fm) (F1 : Fld Z h0 a1 "java/lang/String" "coder" "B" (.int (0 : Int32))) (F2 : Fld Z h0 a1 "java/lang/String" "value" "[B" .null) (xhash : Fld Z h0 a1 "java/lang/String" "hash" "I" (.int (0 : Int32))) (xhashIsZero : Fld Z h0 a1 "java/lang/String" "hashIsZero" "Z" (.int (0 : Int32))) (E1 : Exa Z h0 a1 "java/lang/String") (V1 : Arv Z h0 a2 k1 .char (1 : Int32) [(.int c0)] (.int (0 : Int32))) (ne : a1 ≠ a2) (g1 : n0 ≤ a1) (l0 : ¬ ((255 : Int32) < c0)) :
    MetFree l (⟨"java/lang/String", "<init>", "([C)V"⟩ : MethodName) (head1 (Jvm.Cond.code (⟨"java/lang/String", "<init>", "([C)V"⟩ : MethodName) jdk_42_method_3_code 2 none :: ws) ({ frames := 3, cells := 1, slots := 1, locals := 52 } : Room)) (fun a U => a = #[(.ref a1), (.ref a2)] ∧ Z.Warmed39 U.vm ∧ U.heap = h0) (fun _ _ _ _ _ => True) (fun _ U o U' => ∃ v L, o = .returned v ∧ Q2_L1 Z a1 a2 k1 c0 cs1 fm h0 n0 v U'.heap L ∧ FrameEnd U o U' L ({ frames := 3, cells := 1, slots := 1, locals := 52 } : Room).cells ({ frames := 3, cells := 1, slots := 1, locals := 52 } : Room).slots) := by
  refine MetFree.of_bodySF pn2 hisR ?_
  intro p e s m args below meth c s₁ Bd hml0 hP hK
  obtain ⟨rfl, hZ, hh⟩ := hP
  have hx := Bd.exec
  have hby := Bd.bytes
  have hml : c.maxLocals = 2 := hml0
  have hown : s.vm.findClass "java/lang/String" = some m.cls := findClass_of_methodNamed Bd.named
  have hnm := (name_of_methodNamed Bd.named Bd.method).1
  have X0 : Stand p l e ({ frames := 3, cells := 1, slots := 1, locals := 52 } : Room) s m #[(.ref a1), (.ref a2)] below meth c s₁ [] 0 0 := Stand.of_body Bd
  have e0 : s₁.heap = h0 := by rw [← hh, Bd.state]; rfl
  have N0 := Fr.nil n0
  have p0 : Go p.tables e below (s₁.setTop (entryFrame m #[(.ref a1), (.ref a2)] 2)) (s₁.setTop (mkF m 0 #[.val (.ref a1), .val (.ref a2)] [])) := fun t_ k_ => castTop (ef_rm2_L1 m a1 a2 k1 c0 cs1 fm) k_
  have p101 : Go p.tables e below _ (s₁.setTop (mkF m 4 #[.val (.ref a1), .val (.ref a2)] [(.ref a2), (.int (0 : Int32)), (.ref a2), (.ref a1)])) := fun t_ k_ => p0 t_ (by
    refine XS.aloadN X0.here hx rfl (hb hby d2_0) rfl rfl ?_
    refine XS.aloadN X0.here hx rfl (hb hby d2_1) rfl rfl ?_
    refine XS.iconst X0.here hx rfl (hb hby d2_2) ?_
    refine XS.aloadN X0.here hx rfl (hb hby d2_3) rfl rfl ?_
    exact k_)
  obtain ⟨cl102, Ar102, -, S102, Ng102, -, -⟩ := id V1
  have p103 : Go p.tables e below _ (s₁.setTop (mkF m 6 #[.val (.ref a1), .val (.ref a2)] [.null, (.int (1 : Int32)), (.int (0 : Int32)), (.ref a2), (.ref a1)])) := fun t_ k_ => p101 t_ (by
    refine X0.arraylength hx (by rw [e0]; exact Ar102.1) (State.isArrayOf_alike hZ.alike Ar102.2.1) (g := (mkF m 4 #[.val (.ref a1), .val (.ref a2)] [(.ref a2), (.int (0 : Int32)), (.ref a2), (.ref a1)])) rfl rfl (hb hby d2_4) _ ?_
    rw [len_of S102 Ng102]
    show Steps p.tables e below (s₁.setTop (mkF m 5 #[.val (.ref a1), .val (.ref a2)] [(.int (1 : Int32)), (.int (0 : Int32)), (.ref a2), (.ref a1)])) _
    refine XS.aconstNull X0.here hx rfl (hb hby d2_5) ?_
    exact k_)
  obtain ⟨_, _, ⟨T104, L104, k104, n104⟩, -, X104, ⟨Lc104, hQ104, l104, y104, z104⟩, st104⟩ := X0.specialBack hx (y := (⟨"java/lang/String", "<init>", "([CIILjava/lang/Void;)V"⟩ : MethodName)) rfl hown (mvT hZ (own_w hw 12 rfl)) (mvT hZ (own_w hw 13 rfl)) (mvT hZ (own_w hw 15 rfl)) (by decide) (backOf (W := 0) (rm3_L1 l Z a0 hw [] a1 a2 k1 c0 cs1 fm h0 n0 (Nat.le_trans Z0 (Keep.refl h0 [a1]).1) O1 G F1 F2 xhash xhashIsZero E1 V1 ne g1 l0) hZ (own_w hw 15 rfl) (own_w hw 7 rfl) (by decide) (by decide)) (g := (mkF m 6 #[.val (.ref a1), .val (.ref a2)] [.null, (.int (1 : Int32)), (.int (0 : Int32)), (.ref a2), (.ref a1)])) rfl (by rw [hml]; rfl) (Steps.refl _) (a := a1) (argsL := [(.ref a2), (.int (0 : Int32)), (.int (1 : Int32)), .null]) (rest := []) (lenOf pd3 rfl) rfl (by show 2 * 0 + _ ≤ _; exact Nat.le_of_eq rfl) (hb hby d2_6) (fun _ _ => ⟨rfl, e0, (by decide : 0 + 1 ≤ _), (by decide : 0 + 1 ≤ _)⟩)
  dsimp only [Pt.U, Pt.locs, Pt.cells, Pt.slots] at X104 l104 y104 z104 st104 hQ104
  subst l104 y104 z104
  obtain ⟨x105, x106, rfl, N104q, q104_K, q104_E, q104_c, q104_v, q104_xhash, q104_xhashIsZero, q104_g, q104_z, q104_V, q104_xb, q104_n⟩ := hQ104
  have N104 := Fr.app N0 N104q
  have K107 : Keep h0 T104.heap [a1] := (Keep.refl h0 [a1]).trans q104_K (allS (Or.inl (List.mem_of_getElem? (i := 0) rfl)) all0)
  have ne_a1_x105 : a1 ≠ x105 := Nat.ne_of_lt (Nat.lt_of_lt_of_le E1.lt q104_z)
  have ne_a2_x105 : a2 ≠ x105 := Nat.ne_of_lt (Nat.lt_of_lt_of_le V1.lt q104_z)
  obtain ⟨fs, hr, hrun, hended, hW, hsame⟩ := X104.leave (v := none) (fun _ => rfl)
  refine ⟨_, _, (gcT p103 st104) _ (X104.returnOut hx Bd.returns (hb hby d2_9) hr), hrun, hended, _, _, rfl, ?_, ⟨_, rfl⟩, hW, hsame.mono (by decide) (by decide)⟩
  show Q2_L1 Z a1 a2 k1 c0 cs1 fm h0 n0 _ T104.heap _
  exact ⟨x105, x106, rfl, N104, K107, q104_E, q104_c, q104_v, q104_xhash, q104_xhashIsZero, q104_g, (Nat.le_trans (Keep.refl h0 [a1]).1 q104_z), q104_V, q104_xb, q104_n⟩
theorem d1_0 : decode method_2_code 0 = .ok (.iload_n 0, 1) := by decide +kernel
theorem d1_1 : decode method_2_code 1 = .ok (.iconst 1, 1) := by decide +kernel
theorem d1_2 : decode method_2_code 2 = .ok (.if_icmp .ne 18, 3) := by decide +kernel
theorem d1_5 : decode method_2_code 5 = .ok (.new 7, 3) := by decide +kernel
theorem d1_8 : decode method_2_code 8 = .ok (.dup, 1) := by decide +kernel
theorem d1_9 : decode method_2_code 9 = .ok (.iconst 1, 1) := by decide +kernel
theorem d1_10 : decode method_2_code 10 = .ok (.newarray .char, 2) := by decide +kernel
theorem d1_12 : decode method_2_code 12 = .ok (.dup, 1) := by decide +kernel
theorem d1_13 : decode method_2_code 13 = .ok (.iconst 0, 1) := by decide +kernel
theorem d1_14 : decode method_2_code 14 = .ok (.iload_n 1, 1) := by decide +kernel
theorem d1_15 : decode method_2_code 15 = .ok (.castore, 1) := by decide +kernel
theorem d1_16 : decode method_2_code 16 = .ok (.invokespecial 9, 3) := by decide +kernel
theorem d1_19 : decode method_2_code 19 = .ok (.areturn, 1) := by decide +kernel
theorem pd4 : parseMethodDescriptor "([C)V" = some ⟨[(.array .char)], none⟩ := by decide +kernel
theorem pn1 : plainFor (⟨"com/example/kuusi/kuusi/core/SymbolEqualsPinLaw", "mk", "(ICC)Ljava/lang/String;"⟩ : MethodName) = true := plainFor_of_name (by first | (simp [plainName, overriddenIn]; done) | decide +kernel)
theorem ef_rm1_1 (m : MethodId) (p2 : Int32) (p3 : Int32) (cs1 : Int32) (fm : Value) : entryFrame m #[(.int (1 : Int32)), (.int p2), (.int p3)] 3 = mkF m 0 #[.val (.int (1 : Int32)), .val (.int p2), .val (.int p3)] [] := by first | (simp [entryFrame, mkF, argsToLocals, Value.category]; done) | rfl
def Q1_1 (Z : State) (p2 : Int32) (p3 : Int32) (cs1 : Int32) (fm : Value) (h0 : Heap) (n0 : Nat) (v : Option Value) (h : Heap) (L : List Loc) : Prop := ∃ (a : Addr) (b : Addr) (kb : ClassId), v = some (.ref a) ∧ Fr n0 L ∧ (Keep h0 h []) ∧ (Exa Z h a "java/lang/String") ∧ (Fld Z h a "java/lang/String" "coder" "B" (.int (0 : Int32))) ∧ (Fld Z h a "java/lang/String" "value" "[B" (.ref b)) ∧ (Fld Z h a "java/lang/String" "hash" "I" (.int (0 : Int32))) ∧ (Fld Z h a "java/lang/String" "hashIsZero" "Z" (.int (0 : Int32))) ∧ (n0 ≤ a) ∧ (h0.size ≤ a) ∧ (n0 ≤ b) ∧ (h0.size ≤ b) ∧ (Arv Z h b kb .byte (1 : Int32) [(.int (nar .byte ((nar .char p2).toInt8.toInt32)))] (.int (0 : Int32))) ∧ (Exa Z h b "[B") ∧ (a ≠ b)
set_option maxRecDepth 65536 in
set_option maxHeartbeats 40000000 in
theorem rm1_1 (l : Launch) (Z : State) (a0 : Array Value) (hw : ∀ d ∈ tables_1, d.before a0 Z = true) (ws : List Jvm.Cond) (p2 : Int32) (p3 : Int32) (cs1 : Int32) (fm : Value) (h0 : Heap) (n0 : Nat) (Z0 : n0 ≤ h0.size) (O1 : Old Z n0 h0) (G : own_G Z cs1 fm) (r0 : ¬ ((255 : Int32) < nar .char p2)) :
    MetFree l (⟨"com/example/kuusi/kuusi/core/SymbolEqualsPinLaw", "mk", "(ICC)Ljava/lang/String;"⟩ : MethodName) (head1 (Jvm.Cond.code (⟨"com/example/kuusi/kuusi/core/SymbolEqualsPinLaw", "mk", "(ICC)Ljava/lang/String;"⟩ : MethodName) method_2_code 3 (some (.object "java/lang/String")) :: ws) ({ frames := 4, cells := 3, slots := 6, locals := 66 } : Room)) (fun a U => a = #[(.int (1 : Int32)), (.int p2), (.int p3)] ∧ Z.Warmed39 U.vm ∧ U.heap = h0) (fun _ _ _ _ _ => True) (fun _ U o U' => ∃ v L, o = .returned v ∧ Q1_1 Z p2 p3 cs1 fm h0 n0 v U'.heap L ∧ FrameEnd U o U' L ({ frames := 4, cells := 3, slots := 6, locals := 66 } : Room).cells ({ frames := 4, cells := 3, slots := 6, locals := 66 } : Room).slots) := by
  refine MetFree.of_bodySF pn1 hisR ?_
  intro p e s m args below meth c s₁ Bd hml0 hP hK
  obtain ⟨rfl, hZ, hh⟩ := hP
  have hx := Bd.exec
  have hby := Bd.bytes
  have hml : c.maxLocals = 3 := hml0
  have hown : s.vm.findClass "com/example/kuusi/kuusi/core/SymbolEqualsPinLaw" = some m.cls := findClass_of_methodNamed Bd.named
  have hnm := (name_of_methodNamed Bd.named Bd.method).1
  have X0 : Stand p l e ({ frames := 4, cells := 3, slots := 6, locals := 66 } : Room) s m #[(.int (1 : Int32)), (.int p2), (.int p3)] below meth c s₁ [] 0 0 := Stand.of_body Bd
  have e0 : s₁.heap = h0 := by rw [← hh, Bd.state]; rfl
  have N0 := Fr.nil n0
  have p0 : Go p.tables e below (s₁.setTop (entryFrame m #[(.int (1 : Int32)), (.int p2), (.int p3)] 3)) (s₁.setTop (mkF m 0 #[.val (.int (1 : Int32)), .val (.int p2), .val (.int p3)] [])) := fun t_ k_ => castTop (ef_rm1_1 m p2 p3 cs1 fm) k_
  have p101 : Go p.tables e below _ (s₁.setTop (mkF m 5 #[.val (.int (1 : Int32)), .val (.int p2), .val (.int p3)] [])) := fun t_ k_ => p0 t_ (by
    refine XS.iloadN X0.here hx rfl (hb hby d1_0) rfl ?_
    refine XS.iconst X0.here hx rfl (hb hby d1_1) ?_
    refine XS.icmpNo X0.here hx rfl (hb hby d1_2) rfl (teq (by decide : ((1 : Int32) = (1 : Int32)))).2 ?_
    exact k_)
  obtain ⟨T102, h102, X102, e102, E102, A102, D102, -, st102⟩ := newO X0 hx hZ hown (own_w hw 5 rfl) (own_w hw 6 rfl) (own_w hw 7 rfl) e0 (g := (mkF m 5 #[.val (.int (1 : Int32)), .val (.int p2), .val (.int p3)] [])) rfl (hb hby d1_5) (by decide) (by decide)
  obtain ⟨b102, g102⟩ : ∃ z, z = h0.size := ⟨_, rfl⟩
  rw [← g102] at A102 D102 st102
  have ge_b102 : n0 ≤ b102 := Nat.le_trans (Nat.le_trans Z0 (Keep.refl h0 []).1) (Nat.le_of_eq g102.symm)
  have sz_b102 : h0.size ≤ b102 := Nat.le_trans (Keep.refl h0 []).1 (Nat.le_of_eq g102.symm)
  have K103 : Keep h0 h102 [] := (Keep.refl h0 []).ext E102
  have F102_coder : Fld Z h102 b102 "java/lang/String" "coder" "B" (.int (0 : Int32)) := D102 (Or.inr (own_w hw 32 rfl)) (ty := .byte) (by decide)
  have F102_value : Fld Z h102 b102 "java/lang/String" "value" "[B" .null := D102 (Or.inr (own_w hw 34 rfl)) (ty := (.array .byte)) (by decide)
  have F102_hash : Fld Z h102 b102 "java/lang/String" "hash" "I" (.int (0 : Int32)) := D102 (Or.inl (own_w hw 57 rfl)) (ty := .int) (by decide)
  have F102_hashIsZero : Fld Z h102 b102 "java/lang/String" "hashIsZero" "Z" (.int (0 : Int32)) := D102 (Or.inl (own_w hw 59 rfl)) (ty := .boolean) (by decide)
  have p104 : Go p.tables e below _ (T102.setTop (mkF m 10 #[.val (.int (1 : Int32)), .val (.int p2), .val (.int p3)] [(.int (1 : Int32)), (.ref b102), (.ref b102)])) := fun t_ k_ => (gc p101 st102) t_ (by
    refine XS.dup X102.here hx rfl (hb hby d1_8) rfl rfl ?_
    refine XS.iconst X102.here hx rfl (hb hby d1_9) ?_
    exact k_)
  obtain ⟨T105, h105, k105, X105, e105, E105, A105, AE105, st105⟩ := newPE X102 hx hZ (own_w hw 8 rfl) e102 (g := (mkF m 10 #[.val (.int (1 : Int32)), .val (.int p2), .val (.int p3)] [(.int (1 : Int32)), (.ref b102), (.ref b102)])) rfl (hb hby d1_10) rfl (by decide) (cap := 1) (by decide) (by decide) (by decide) (by decide) (ad := "[C") (by decide)
  obtain ⟨b105, g105⟩ : ∃ z, z = h102.size := ⟨_, rfl⟩
  rw [← g105] at A105 AE105 st105
  have ne_b102_b105 : b102 ≠ b105 := Nat.ne_of_lt (Nat.lt_of_lt_of_le A102.lt (Nat.le_of_eq g105.symm))
  have ge_b105 : n0 ≤ b105 := Nat.le_trans (Nat.le_trans Z0 K103.1) (Nat.le_of_eq g105.symm)
  have sz_b105 : h0.size ≤ b105 := Nat.le_trans K103.1 (Nat.le_of_eq g105.symm)
  have K106 : Keep h0 h105 [] := K103.ext E105
  have V105 : Arv Z h105 b105 k105 .char (1 : Int32) [(.int (0 : Int32))] (.int (0 : Int32)) := (Arv.new A105 (by decide)).pad (pad_rep [] (.int (0 : Int32)) 1)
  have p107 : Go p.tables e below _ (T105.setTop (mkF m 15 #[.val (.int (1 : Int32)), .val (.int p2), .val (.int p3)] [(.int p2), (.int (0 : Int32)), (.ref b105), (.ref b105), (.ref b102), (.ref b102)])) := fun t_ k_ => (gc p104 st105) t_ (by
    refine XS.dup X105.here hx rfl (hb hby d1_12) rfl rfl ?_
    refine XS.iconst X105.here hx rfl (hb hby d1_13) ?_
    refine XS.iloadN X105.here hx rfl (hb hby d1_14) rfl ?_
    exact k_)
  obtain ⟨cl108, Ar108, q108, S108, Ng108, H108, G108⟩ := id V105
  have hin108 := inb_of S108 (j := (0 : Int32)) ⟨by decide, by decide⟩
  obtain ⟨T108, h108, X108, e108, W108, st108⟩ := stC X105 hx hZ e105 Ar108 (j := (0 : Int32)) hin108 (g := (mkF m 15 #[.val (.int (1 : Int32)), .val (.int p2), .val (.int p3)] [(.int p2), (.int (0 : Int32)), (.ref b105), (.ref b105), (.ref b102), (.ref b102)])) rfl rfl (hb hby d1_15)
  have K109 : Keep h0 h108 [] := K106.wr W108 (Or.inr sz_b105)
  have N108 := Fr.snoc X108 N0 ge_b105
  have V108 : Arv Z h108 b105 k105 .char (1 : Int32) [(.int (nar .char p2))] (.int (0 : Int32)) := Arv.set Ar108 q108 S108 Ng108 H108 G108 (fits_nar_char _) W108 0 rfl (Nat.le_of_ble_eq_true rfl)
  have f110 := ((A102.ext E105).wr W108)
  have f111 := (AE105.wr W108)
  have f112 := (((O1.ext E102).ext E105).wr W108 ge_b105)
  have f113 := ((F102_coder.ext E105).other W108 (Or.inl ne_b102_b105))
  have f114 := ((F102_value.ext E105).other W108 (Or.inl ne_b102_b105))
  have f115 := ((F102_hash.ext E105).other W108 (Or.inl ne_b102_b105))
  have f116 := ((F102_hashIsZero.ext E105).other W108 (Or.inl ne_b102_b105))
  obtain ⟨_, _, ⟨T117, L117, k117, n117⟩, -, X117, ⟨Lc117, hQ117, l117, y117, z117⟩, st117⟩ := X108.specialBack hx (y := (⟨"java/lang/String", "<init>", "([C)V"⟩ : MethodName)) rfl hown (mvT hZ (own_w hw 9 rfl)) (mvT hZ (own_w hw 10 rfl)) (mvT hZ (own_w hw 11 rfl)) (by decide) (backOf (W := 1) (rm2_L1 l Z a0 hw [] b102 b105 k105 (nar .char p2) cs1 fm h108 n0 (Nat.le_trans Z0 K109.1) f112 G f113 f114 f115 f116 f110 V108 ne_b102_b105 ge_b102 r0) hZ (own_w hw 11 rfl) (own_w hw 7 rfl) (by decide) (by decide)) (g := (mkF m 16 #[.val (.int (1 : Int32)), .val (.int p2), .val (.int p3)] [(.ref b105), (.ref b102), (.ref b102)])) rfl (by rw [hml]; rfl) (Steps.refl _) (a := b102) (argsL := [(.ref b105)]) (rest := [(.ref b102)]) (lenOf pd4 rfl) rfl (by show 2 * 0 + _ ≤ _; exact Nat.le_of_eq rfl) (hb hby d1_16) (fun _ _ => ⟨rfl, e108, (by decide : 2 + 1 ≤ _), (by decide : 5 + 1 ≤ _)⟩)
  dsimp only [Pt.U, Pt.locs, Pt.cells, Pt.slots] at X117 l117 y117 z117 st117 hQ117
  subst l117 y117 z117
  obtain ⟨x118, x119, rfl, N117q, q117_K, q117_E, q117_c, q117_v, q117_xhash, q117_xhashIsZero, q117_g, q117_z, q117_V, q117_xb, q117_n⟩ := hQ117
  have N117 := Fr.app N108 N117q
  have K120 : Keep h0 T117.heap [] := K109.trans q117_K (allS (Or.inr sz_b102) all0)
  have ne_b102_x118 : b102 ≠ x118 := Nat.ne_of_lt (Nat.lt_of_lt_of_le f110.lt q117_z)
  have ne_b105_x118 : b105 ≠ x118 := Nat.ne_of_lt (Nat.lt_of_lt_of_le f111.lt q117_z)
  obtain ⟨fs, hr, hrun, hended, hW, hsame⟩ := X117.leave (v := some (.ref b102)) (fun h => by rw [Bd.returns] at h; cases h)
  refine ⟨_, _, (gcT (gc p107 st108) st117) _ (retOut X117 hx (w := (.ref b102)) (i := .areturn) Bd.returns rfl (Or.inr (Or.inr (Or.inr (Or.inr ⟨rfl, rfl, rfl⟩)))) (hb hby d1_19) hr), hrun, hended, _, _, rfl, ?_, ⟨_, rfl⟩, hW, hsame.mono (by decide) (by decide)⟩
  show Q1_1 Z p2 p3 cs1 fm h0 n0 _ T117.heap _
  exact ⟨b102, x118, x119, rfl, N117, K120, q117_E, q117_c, q117_v, q117_xhash, q117_xhashIsZero, ge_b102, sz_b102, q117_g, (Nat.le_trans K109.1 q117_z), q117_V, q117_xb, q117_n⟩
theorem d12_0 : decode jdk_43_method_21_code 0 = .ok (.aload_n 0, 1) := by decide +kernel
theorem d12_1 : decode jdk_43_method_21_code 1 = .ok (.arraylength, 1) := by decide +kernel
theorem d12_2 : decode jdk_43_method_21_code 2 = .ok (.lookupswitch 40 #[(0, 26), (1, 30)], 26) := by decide +kernel
theorem d12_32 : decode jdk_43_method_21_code 32 = .ok (.aload_n 0, 1) := by decide +kernel
theorem d12_33 : decode jdk_43_method_21_code 33 = .ok (.iconst 0, 1) := by decide +kernel
theorem d12_34 : decode jdk_43_method_21_code 34 = .ok (.baload, 1) := by decide +kernel
theorem d12_35 : decode jdk_43_method_21_code 35 = .ok (.sipush 255, 3) := by decide +kernel
theorem d12_38 : decode jdk_43_method_21_code 38 = .ok (.iand, 1) := by decide +kernel
theorem d12_39 : decode jdk_43_method_21_code 39 = .ok (.goto 12, 3) := by decide +kernel
theorem d12_51 : decode jdk_43_method_21_code 51 = .ok (.ireturn, 1) := by decide +kernel
theorem pn12 : plainFor (⟨"java/lang/StringLatin1", "hashCode", "([B)I"⟩ : MethodName) = true := plainFor_of_name (by first | (simp [plainName, overriddenIn]; done) | decide +kernel)
theorem ef_rm12_1 (m : MethodId) (a1 : Addr) (k1 : ClassId) (b0 : Int32) : entryFrame m #[(.ref a1)] 1 = mkF m 0 #[.val (.ref a1)] [] := by first | (simp [entryFrame, mkF, argsToLocals, Value.category]; done) | rfl
def Q12_1 (Z : State) (a1 : Addr) (k1 : ClassId) (b0 : Int32) (h0 : Heap) (n0 : Nat) (v : Option Value) (h : Heap) (L : List Loc) : Prop := ∃ (hv : Int32), v = some (.int hv) ∧ Fr n0 L ∧ (h = h0)
set_option maxRecDepth 65536 in
set_option maxHeartbeats 40000000 in
theorem rm12_1 (l : Launch) (Z : State) (a0 : Array Value) (hw : ∀ d ∈ tables_1, d.before a0 Z = true) (ws : List Jvm.Cond) (a1 : Addr) (k1 : ClassId) (b0 : Int32) (h0 : Heap) (n0 : Nat) (Z0 : n0 ≤ h0.size) (V1 : Arv Z h0 a1 k1 .byte (1 : Int32) [(.int b0)] (.int (0 : Int32))) :
    MetFree l (⟨"java/lang/StringLatin1", "hashCode", "([B)I"⟩ : MethodName) (head1 (Jvm.Cond.code (⟨"java/lang/StringLatin1", "hashCode", "([B)I"⟩ : MethodName) jdk_43_method_21_code 1 (some .int) :: ws) ({ frames := 0, cells := 0, slots := 0, locals := 0 } : Room)) (fun a U => a = #[(.ref a1)] ∧ Z.Warmed39 U.vm ∧ U.heap = h0) (fun _ _ _ _ _ => True) (fun _ U o U' => ∃ v L, o = .returned v ∧ Q12_1 Z a1 k1 b0 h0 n0 v U'.heap L ∧ FrameEnd U o U' L ({ frames := 0, cells := 0, slots := 0, locals := 0 } : Room).cells ({ frames := 0, cells := 0, slots := 0, locals := 0 } : Room).slots) := by
  refine MetFree.of_bodySF pn12 hisR ?_
  intro p e s m args below meth c s₁ Bd hml0 hP hK
  obtain ⟨rfl, hZ, hh⟩ := hP
  have hx := Bd.exec
  have hby := Bd.bytes
  have hml : c.maxLocals = 1 := hml0
  have hown : s.vm.findClass "java/lang/StringLatin1" = some m.cls := findClass_of_methodNamed Bd.named
  have hnm := (name_of_methodNamed Bd.named Bd.method).1
  have X0 : Stand p l e ({ frames := 0, cells := 0, slots := 0, locals := 0 } : Room) s m #[(.ref a1)] below meth c s₁ [] 0 0 := Stand.of_body Bd
  have e0 : s₁.heap = h0 := by rw [← hh, Bd.state]; rfl
  have N0 := Fr.nil n0
  have p0 : Go p.tables e below (s₁.setTop (entryFrame m #[(.ref a1)] 1)) (s₁.setTop (mkF m 0 #[.val (.ref a1)] [])) := fun t_ k_ => castTop (ef_rm12_1 m a1 k1 b0) k_
  have p101 : Go p.tables e below _ (s₁.setTop (mkF m 1 #[.val (.ref a1)] [(.ref a1)])) := fun t_ k_ => p0 t_ (by
    refine XS.aloadN X0.here hx rfl (hb hby d12_0) rfl rfl ?_
    exact k_)
  obtain ⟨cl102, Ar102, -, S102, Ng102, -, -⟩ := id V1
  have p103 : Go p.tables e below _ (s₁.setTop (mkF m 34 #[.val (.ref a1)] [(.int (0 : Int32)), (.ref a1)])) := fun t_ k_ => p101 t_ (by
    refine X0.arraylength hx (by rw [e0]; exact Ar102.1) (State.isArrayOf_alike hZ.alike Ar102.2.1) (g := (mkF m 1 #[.val (.ref a1)] [(.ref a1)])) rfl rfl (hb hby d12_1) _ ?_
    rw [len_of S102 Ng102]
    show Steps p.tables e below (s₁.setTop (mkF m 2 #[.val (.ref a1)] [(.int (1 : Int32))])) _
    refine X0.lookupswitchHit hx (g := (mkF m 2 #[.val (.ref a1)] [(.int (1 : Int32))])) rfl rfl (hb hby d12_2) (by decide) (a := 1) (off := 30) (by decide) (by show (0 : Int) ≤ ((2 : Nat) : Int) + 30; decide) _ ?_
    show Steps p.tables e below (s₁.setTop (mkF m 32 #[.val (.ref a1)] [])) _
    refine XS.aloadN X0.here hx rfl (hb hby d12_32) rfl rfl ?_
    refine XS.iconst X0.here hx rfl (hb hby d12_33) ?_
    exact k_)
  obtain ⟨cl104, Ar104, q104, S104, Ng104, H104, G104⟩ := id V1
  have hin104 := inb_of S104 (j := (0 : Int32)) ⟨by decide, by decide⟩
  have hat104 := H104.at (v := (.int b0)) hin104 rfl
  have p105 : Go p.tables e below _ (s₁.setTop (mkF m 51 #[.val (.ref a1)] [(.int (b0 &&& (255 : Int32)))])) := fun t_ k_ => p103 t_ (by
    refine X0.baloadBytes hx (j := (0 : Int32)) (v := (.int b0)) (by rw [e0]; exact Ar104.1) (State.isArrayOf_alike hZ.alike Ar104.2.1) Ar104.2.2 hin104 hat104 (g := (mkF m 34 #[.val (.ref a1)] [(.int (0 : Int32)), (.ref a1)])) rfl rfl (hb hby d12_34) _ ?_
    refine XS.sipush X0.here hx rfl (hb hby d12_35) ?_
    refine XS.iand X0.here hx rfl (hb hby d12_38) rfl ?_
    refine XS.goto X0.here hx rfl (pc0 := 39) (pc' := 51) rfl (hb hby d12_39) (by decide) (by decide) ?_
    exact k_)
  obtain ⟨fs, hr, hrun, hended, hW, hsame⟩ := X0.leave (v := some (.int (b0 &&& (255 : Int32)))) (fun h => by rw [Bd.returns] at h; cases h)
  refine ⟨_, _, p105 _ (retI X0 hx Bd.returns (hb hby d12_51) hr), hrun, hended, _, _, rfl, ?_, ⟨_, rfl⟩, hW, hsame.mono (by decide) (by decide)⟩
  show Q12_1 Z a1 k1 b0 h0 n0 _ s₁.heap _
  rw [e0]
  exact ⟨_, rfl, N0, rfl⟩
theorem d10_0 : decode jdk_42_method_78_code 0 = .ok (.aload_n 0, 1) := by decide +kernel
theorem d10_1 : decode jdk_42_method_78_code 1 = .ok (.getfield 19, 3) := by decide +kernel
theorem d10_4 : decode jdk_42_method_78_code 4 = .ok (.istore_n 1, 1) := by decide +kernel
theorem d10_5 : decode jdk_42_method_78_code 5 = .ok (.iload_n 1, 1) := by decide +kernel
theorem d10_6 : decode jdk_42_method_78_code 6 = .ok (.ifCond .ne 52, 3) := by decide +kernel
theorem d10_9 : decode jdk_42_method_78_code 9 = .ok (.aload_n 0, 1) := by decide +kernel
theorem d10_10 : decode jdk_42_method_78_code 10 = .ok (.getfield 23, 3) := by decide +kernel
theorem d10_13 : decode jdk_42_method_78_code 13 = .ok (.ifCond .ne 45, 3) := by decide +kernel
theorem d10_16 : decode jdk_42_method_78_code 16 = .ok (.aload_n 0, 1) := by decide +kernel
theorem d10_17 : decode jdk_42_method_78_code 17 = .ok (.invokevirtual 492, 3) := by decide +kernel
theorem d10_20 : decode jdk_42_method_78_code 20 = .ok (.ifCond .eq 13, 3) := by decide +kernel
theorem d10_23 : decode jdk_42_method_78_code 23 = .ok (.aload_n 0, 1) := by decide +kernel
theorem d10_24 : decode jdk_42_method_78_code 24 = .ok (.getfield 9, 3) := by decide +kernel
theorem d10_27 : decode jdk_42_method_78_code 27 = .ok (.invokestatic 628, 3) := by decide +kernel
theorem d10_30 : decode jdk_42_method_78_code 30 = .ok (.goto 10, 3) := by decide +kernel
theorem d10_40 : decode jdk_42_method_78_code 40 = .ok (.istore_n 1, 1) := by decide +kernel
theorem d10_41 : decode jdk_42_method_78_code 41 = .ok (.iload_n 1, 1) := by decide +kernel
theorem d10_42 : decode jdk_42_method_78_code 42 = .ok (.ifCond .ne 11, 3) := by decide +kernel
theorem d10_45 : decode jdk_42_method_78_code 45 = .ok (.aload_n 0, 1) := by decide +kernel
theorem d10_46 : decode jdk_42_method_78_code 46 = .ok (.iconst 1, 1) := by decide +kernel
theorem d10_47 : decode jdk_42_method_78_code 47 = .ok (.putfield 23, 3) := by decide +kernel
theorem d10_50 : decode jdk_42_method_78_code 50 = .ok (.goto 8, 3) := by decide +kernel
theorem d10_53 : decode jdk_42_method_78_code 53 = .ok (.aload_n 0, 1) := by decide +kernel
theorem d10_54 : decode jdk_42_method_78_code 54 = .ok (.iload_n 1, 1) := by decide +kernel
theorem d10_55 : decode jdk_42_method_78_code 55 = .ok (.putfield 19, 3) := by decide +kernel
theorem d10_58 : decode jdk_42_method_78_code 58 = .ok (.iload_n 1, 1) := by decide +kernel
theorem d10_59 : decode jdk_42_method_78_code 59 = .ok (.ireturn, 1) := by decide +kernel
theorem pd5 : parseMethodDescriptor "()Z" = some ⟨[], some .boolean⟩ := by decide +kernel
theorem pd6 : parseMethodDescriptor "([B)I" = some ⟨[(.array .byte)], some .int⟩ := by decide +kernel
theorem pn10 : plainFor (⟨"java/lang/String", "hashCode", "()I"⟩ : MethodName) = true := plainFor_of_name (by first | (simp [plainName, overriddenIn]; done) | decide +kernel)
theorem ef_rm10_1 (m : MethodId) (a1 : Addr) (v1 : Addr) (k1 : ClassId) (b0 : Int32) (cs1 : Int32) (fm : Value) : entryFrame m #[(.ref a1)] 2 = mkF m 0 #[.val (.ref a1), .unset] [] := by first | (simp [entryFrame, mkF, argsToLocals, Value.category]; done) | rfl
def Q10_1 (Z : State) (a1 : Addr) (v1 : Addr) (k1 : ClassId) (b0 : Int32) (cs1 : Int32) (fm : Value) (h0 : Heap) (n0 : Nat) (v : Option Value) (h : Heap) (L : List Loc) : Prop := ∃ (hv : Int32), v = some (.int hv) ∧ Fr n0 L ∧ (Keep h0 h [a1]) ∧ (Exa Z h a1 "java/lang/String") ∧ (Fld Z h a1 "java/lang/String" "coder" "B" (.int (0 : Int32))) ∧ (Fld Z h a1 "java/lang/String" "value" "[B" (.ref v1))
set_option maxRecDepth 65536 in
set_option maxHeartbeats 40000000 in
theorem rm10_1 (l : Launch) (Z : State) (a0 : Array Value) (hw : ∀ d ∈ tables_1, d.before a0 Z = true) (ws : List Jvm.Cond) (a1 : Addr) (v1 : Addr) (k1 : ClassId) (b0 : Int32) (cs1 : Int32) (fm : Value) (h0 : Heap) (n0 : Nat) (Z0 : n0 ≤ h0.size) (O1 : Old Z n0 h0) (G : own_G Z cs1 fm) (F1 : Fld Z h0 a1 "java/lang/String" "coder" "B" (.int (0 : Int32))) (F2 : Fld Z h0 a1 "java/lang/String" "value" "[B" (.ref v1)) (F3 : Fld Z h0 a1 "java/lang/String" "hash" "I" (.int (0 : Int32))) (F4 : Fld Z h0 a1 "java/lang/String" "hashIsZero" "Z" (.int (0 : Int32))) (E1 : Exa Z h0 a1 "java/lang/String") (g1 : n0 ≤ a1) (ne : a1 ≠ v1) (V1 : Arv Z h0 v1 k1 .byte (1 : Int32) [(.int b0)] (.int (0 : Int32))) :
    MetFree l (⟨"java/lang/String", "hashCode", "()I"⟩ : MethodName) (head1 (Jvm.Cond.code (⟨"java/lang/String", "hashCode", "()I"⟩ : MethodName) jdk_42_method_78_code 2 (some .int) :: ws) ({ frames := 1, cells := 0, slots := 0, locals := 12 } : Room)) (fun a U => a = #[(.ref a1)] ∧ Z.Warmed39 U.vm ∧ U.heap = h0) (fun _ _ _ _ _ => True) (fun _ U o U' => ∃ v L, o = .returned v ∧ Q10_1 Z a1 v1 k1 b0 cs1 fm h0 n0 v U'.heap L ∧ FrameEnd U o U' L ({ frames := 1, cells := 0, slots := 0, locals := 12 } : Room).cells ({ frames := 1, cells := 0, slots := 0, locals := 12 } : Room).slots) := by
  refine MetFree.of_bodySF pn10 hisR ?_
  intro p e s m args below meth c s₁ Bd hml0 hP hK
  obtain ⟨rfl, hZ, hh⟩ := hP
  have hx := Bd.exec
  have hby := Bd.bytes
  have hml : c.maxLocals = 2 := hml0
  have hown : s.vm.findClass "java/lang/String" = some m.cls := findClass_of_methodNamed Bd.named
  have hnm := (name_of_methodNamed Bd.named Bd.method).1
  have X0 : Stand p l e ({ frames := 1, cells := 0, slots := 0, locals := 12 } : Room) s m #[(.ref a1)] below meth c s₁ [] 0 0 := Stand.of_body Bd
  have e0 : s₁.heap = h0 := by rw [← hh, Bd.state]; rfl
  have N0 := Fr.nil n0
  have p0 : Go p.tables e below (s₁.setTop (entryFrame m #[(.ref a1)] 2)) (s₁.setTop (mkF m 0 #[.val (.ref a1), .unset] [])) := fun t_ k_ => castTop (ef_rm10_1 m a1 v1 k1 b0 cs1 fm) k_
  have p101 : Go p.tables e below _ (s₁.setTop (mkF m 1 #[.val (.ref a1), .unset] [(.ref a1)])) := fun t_ k_ => p0 t_ (by
    refine XS.aloadN X0.here hx rfl (hb hby d10_0) rfl rfl ?_
    exact k_)
  obtain ⟨T102, X102, e102, st102⟩ := getF X0 hx hZ hown (host := "") (Or.inl (own_w hw 56 rfl)) Via.refl e0 F3 (g := (mkF m 1 #[.val (.ref a1), .unset] [(.ref a1)])) rfl rfl (hb hby d10_1)
  have p103 : Go p.tables e below _ (T102.setTop (mkF m 10 #[.val (.ref a1), .val (.int (0 : Int32))] [(.ref a1)])) := fun t_ k_ => (gc p101 st102) t_ (by
    refine XS.istoreN X102.here hx rfl (hb hby d10_4) rfl (l' := #[.val (.ref a1), .val (.int (0 : Int32))]) rfl ?_
    refine XS.iloadN X102.here hx rfl (hb hby d10_5) rfl ?_
    refine XS.ifNo X102.here hx rfl (hb hby d10_6) rfl ((if0 _ _).trans (teq (by decide : ((0 : Int32) = (0 : Int32)))).2) ?_
    refine XS.aloadN X102.here hx rfl (hb hby d10_9) rfl rfl ?_
    exact k_)
  obtain ⟨T104, X104, e104, st104⟩ := getF X102 hx hZ hown (host := "") (Or.inl (own_w hw 58 rfl)) Via.refl e102 F4 (g := (mkF m 10 #[.val (.ref a1), .val (.int (0 : Int32))] [(.ref a1)])) rfl rfl (hb hby d10_10)
  have p105 : Go p.tables e below _ (T104.setTop (mkF m 17 #[.val (.ref a1), .val (.int (0 : Int32))] [(.ref a1)])) := fun t_ k_ => (gc p103 st104) t_ (by
    refine XS.ifNo X104.here hx rfl (hb hby d10_13) rfl ((if0 _ _).trans (teq (by decide : ((0 : Int32) = (0 : Int32)))).2) ?_
    refine XS.aloadN X104.here hx rfl (hb hby d10_16) rfl rfl ?_
    exact k_)
  obtain ⟨cq106, kq106, q106a, q106b, q106c⟩ := isOf hZ e104 E1
  obtain ⟨_, _, ⟨T106, L106, k106, n106⟩, -, X106, ⟨Lc106, hQ106, l106, y106, z106⟩, st106⟩ := X104.virtualBack hx (y := (⟨"java/lang/String", "isLatin1", "()Z"⟩ : MethodName)) (z := (⟨"java/lang/String", "isLatin1", "()Z"⟩ : MethodName)) hown (mvT hZ (own_w hw 60 rfl)) (mvT hZ (own_w hw 61 rfl)) (notFace_of_selects (args := #[]) (mvT hZ (own_w hw 63 rfl))) (mvT hZ (own_w hw 63 rfl)) (mvT hZ (own_w hw 62 rfl)) (by decide) (backOf (W := 0) (rm11_0 l Z a0 hw [] a1 cs1 fm h0 n0 (Nat.le_trans Z0 (Keep.refl h0 [a1]).1) O1 G F1) hZ (own_w hw 64 rfl) (own_w hw 7 rfl) (by decide) (by decide)) q106a q106c (g := (mkF m 17 #[.val (.ref a1), .val (.int (0 : Int32))] [(.ref a1)])) rfl (by rw [hml]; rfl) (Steps.refl _) (argsL := []) (rest := []) (lenOf pd5 rfl) rfl (by show 2 * 0 + _ ≤ _; exact Nat.le_of_eq rfl) (hb hby d10_17) (fun _ _ => ⟨rfl, e104, (by decide : 0 + 0 ≤ _), (by decide : 0 + 0 ≤ _)⟩)
  dsimp only [Pt.U, Pt.locs, Pt.cells, Pt.slots] at X106 l106 y106 z106 st106 hQ106
  subst l106 y106 z106
  obtain ⟨rfl, N106q, q106_hh⟩ := hQ106
  have N106 := Fr.app N0 N106q
  have p107 : Go p.tables e below _ (T106.setTop (mkF m 24 #[.val (.ref a1), .val (.int (0 : Int32))] [(.ref a1)])) := fun t_ k_ => (gcT p105 st106) t_ (by
    refine XS.ifNo X106.here hx rfl (hb hby d10_20) rfl ((if0 _ _).trans (feq (by decide : ¬ ((1 : Int32) = (0 : Int32)))).1) ?_
    refine XS.aloadN X106.here hx rfl (hb hby d10_23) rfl rfl ?_
    exact k_)
  obtain ⟨T108, X108, e108, st108⟩ := getF X106 hx hZ hown (host := "") (Or.inl (own_w hw 33 rfl)) Via.refl q106_hh F2 (g := (mkF m 24 #[.val (.ref a1), .val (.int (0 : Int32))] [(.ref a1)])) rfl rfl (hb hby d10_24)
  obtain ⟨_, _, ⟨T109, L109, k109, n109⟩, -, X109, ⟨Lc109, hQ109, l109, y109, z109⟩, st109⟩ := Jvm.LawKit.callS X108 hx (y := (⟨"java/lang/StringLatin1", "hashCode", "([B)I"⟩ : MethodName)) hown (mvT hZ (own_w hw 65 rfl)) (mvT hZ (own_w hw 66 rfl)) (mvT hZ (own_w hw 67 rfl)) (mvT hZ (own_w hw 68 rfl)) (by decide) (backOf (W := 0) (rm12_1 l Z a0 hw [] v1 k1 b0 h0 n0 (Nat.le_trans Z0 (Keep.refl h0 [a1]).1) V1) hZ (own_w hw 68 rfl) (own_w hw 67 rfl) (by decide) (by decide)) (g := (mkF m 27 #[.val (.ref a1), .val (.int (0 : Int32))] [(.ref v1)])) rfl (by rw [hml]; rfl) (argsL := [(.ref v1)]) (rest := []) (lenOf pd6 rfl) rfl (by show 2 * 0 + _ ≤ _; exact Nat.le_of_eq rfl) (hb hby d10_27) (fun _ _ => ⟨rfl, e108, (by decide : 0 + 0 ≤ _), (by decide : 0 + 0 ≤ _)⟩)
  dsimp only [Pt.U, Pt.locs, Pt.cells, Pt.slots] at X109 l109 y109 z109 st109 hQ109
  subst l109 y109 z109
  obtain ⟨x110, rfl, N109q, q109_hh⟩ := hQ109
  have N109 := Fr.app N106 N109q
  have p111 : Go p.tables e below _ (T109.setTop (mkF m 42 #[.val (.ref a1), .val (.int x110)] [(.int x110)])) := fun t_ k_ => (gc (gc p107 st108) st109) t_ (by
    refine XS.goto X109.here hx rfl (pc0 := 30) (pc' := 40) rfl (hb hby d10_30) (by decide) (by decide) ?_
    refine XS.istoreN X109.here hx rfl (hb hby d10_40) rfl (l' := #[.val (.ref a1), .val (.int x110)]) rfl ?_
    refine XS.iloadN X109.here hx rfl (hb hby d10_41) rfl ?_
    exact k_)
  by_cases c112 : x110 = (0 : Int32)
  · have p113 : Go p.tables e below _ (T109.setTop (mkF m 45 #[.val (.ref a1), .val (.int x110)] [])) := fun t_ k_ => p111 t_ (by
      refine XS.ifNo X109.here hx rfl (hb hby d10_42) rfl ((if0 _ _).trans (teq c112).2) ?_
      exact k_)
    have p114 : Go p.tables e below _ (T109.setTop (mkF m 47 #[.val (.ref a1), .val (.int x110)] [(.int (1 : Int32)), (.ref a1)])) := fun t_ k_ => p113 t_ (by
      refine XS.aloadN X109.here hx rfl (hb hby d10_45) rfl rfl ?_
      refine XS.iconst X109.here hx rfl (hb hby d10_46) ?_
      exact k_)
    obtain ⟨T115, h115, X115, e115, W115, st115⟩ := putFN X109 hx hZ hown (own_w hw 58 rfl) Via.refl q109_hh F4 E1 (Or.inl (own_w hw 59 rfl)) (own_w hw 6 rfl) (ty := .boolean) (v' := (.int (1 : Int32))) (by decide) rfl (by decide) (g := (mkF m 47 #[.val (.ref a1), .val (.int x110)] [(.int (1 : Int32)), (.ref a1)])) rfl rfl (hb hby d10_47)
    have K116 : Keep h0 h115 [a1] := (Keep.refl h0 [a1]).wr W115 (Or.inl (List.mem_of_getElem? (i := 0) rfl))
    have N115 := Fr.snoc X115 N109 g1
    have F115 : Fld Z h115 a1 "java/lang/String" "hashIsZero" "Z" (.int (1 : Int32)) := F4.same W115
    have p117 : Go p.tables e below _ (T115.setTop (mkF m 59 #[.val (.ref a1), .val (.int x110)] [(.int x110)])) := fun t_ k_ => (gc p114 st115) t_ (by
      refine XS.goto X115.here hx rfl (pc0 := 50) (pc' := 58) rfl (hb hby d10_50) (by decide) (by decide) ?_
      refine XS.iloadN X115.here hx rfl (hb hby d10_58) rfl ?_
      exact k_)
    have f118 := (E1.wr W115)
    have f119 := (F1.other W115 (Or.inr (slot_ne (Or.inr (own_w hw 32 rfl)) (Or.inl (own_w hw 59 rfl)) (by decide) (t := .byte) (t' := .boolean) (by decide) (by decide))))
    have f120 := (F2.other W115 (Or.inr (slot_ne (Or.inr (own_w hw 34 rfl)) (Or.inl (own_w hw 59 rfl)) (by decide) (t := (.array .byte)) (t' := .boolean) (by decide) (by decide))))
    obtain ⟨fs, hr, hrun, hended, hW, hsame⟩ := X115.leave (v := some (.int x110)) (fun h => by rw [Bd.returns] at h; cases h)
    refine ⟨_, _, p117 _ (retI X115 hx Bd.returns (hb hby d10_59) hr), hrun, hended, _, _, rfl, ?_, ⟨_, rfl⟩, hW, hsame.mono (by decide) (by decide)⟩
    show Q10_1 Z a1 v1 k1 b0 cs1 fm h0 n0 _ T115.heap _
    rw [e115]
    exact ⟨_, rfl, N115, K116, f118, f119, f120⟩
  · have p121 : Go p.tables e below _ (T109.setTop (mkF m 53 #[.val (.ref a1), .val (.int x110)] [])) := fun t_ k_ => p111 t_ (by
      refine XS.ifYes X109.here hx rfl (pc0 := 42) (pc' := 53) rfl (hb hby d10_42) rfl ((if0 _ _).trans (feq c112).2) (by decide) (by decide) ?_
      exact k_)
    have p122 : Go p.tables e below _ (T109.setTop (mkF m 55 #[.val (.ref a1), .val (.int x110)] [(.int x110), (.ref a1)])) := fun t_ k_ => p121 t_ (by
      refine XS.aloadN X109.here hx rfl (hb hby d10_53) rfl rfl ?_
      refine XS.iloadN X109.here hx rfl (hb hby d10_54) rfl ?_
      exact k_)
    obtain ⟨T123, h123, X123, e123, W123, st123⟩ := putF X109 hx hZ hown (host := "") (Or.inl (own_w hw 56 rfl)) Via.refl q109_hh F3 E1 (Or.inl (own_w hw 57 rfl)) (own_w hw 6 rfl) (ty := .int) (by decide) rfl rfl (g := (mkF m 55 #[.val (.ref a1), .val (.int x110)] [(.int x110), (.ref a1)])) rfl rfl (hb hby d10_55)
    have K124 : Keep h0 h123 [a1] := (Keep.refl h0 [a1]).wr W123 (Or.inl (List.mem_of_getElem? (i := 0) rfl))
    have N123 := Fr.snoc X123 N109 g1
    have F123 : Fld Z h123 a1 "java/lang/String" "hash" "I" (.int x110) := F3.same W123
    have p125 : Go p.tables e below _ (T123.setTop (mkF m 59 #[.val (.ref a1), .val (.int x110)] [(.int x110)])) := fun t_ k_ => (gc p122 st123) t_ (by
      refine XS.iloadN X123.here hx rfl (hb hby d10_58) rfl ?_
      exact k_)
    have f126 := (E1.wr W123)
    have f127 := (F1.other W123 (Or.inr (slot_ne (Or.inr (own_w hw 32 rfl)) (Or.inl (own_w hw 57 rfl)) (by decide) (t := .byte) (t' := .int) (by decide) (by decide))))
    have f128 := (F2.other W123 (Or.inr (slot_ne (Or.inr (own_w hw 34 rfl)) (Or.inl (own_w hw 57 rfl)) (by decide) (t := (.array .byte)) (t' := .int) (by decide) (by decide))))
    obtain ⟨fs, hr, hrun, hended, hW, hsame⟩ := X123.leave (v := some (.int x110)) (fun h => by rw [Bd.returns] at h; cases h)
    refine ⟨_, _, p125 _ (retI X123 hx Bd.returns (hb hby d10_59) hr), hrun, hended, _, _, rfl, ?_, ⟨_, rfl⟩, hW, hsame.mono (by decide) (by decide)⟩
    show Q10_1 Z a1 v1 k1 b0 cs1 fm h0 n0 _ T123.heap _
    rw [e123]
    exact ⟨_, rfl, N123, K124, f126, f127, f128⟩
theorem d9_0 : decode jdk_42_method_55_code 0 = .ok (.aload_n 0, 1) := by decide +kernel
theorem d9_1 : decode jdk_42_method_55_code 1 = .ok (.getfield 9, 3) := by decide +kernel
theorem d9_4 : decode jdk_42_method_55_code 4 = .ok (.arraylength, 1) := by decide +kernel
theorem d9_5 : decode jdk_42_method_55_code 5 = .ok (.ifCond .ne 7, 3) := by decide +kernel
theorem d9_12 : decode jdk_42_method_55_code 12 = .ok (.iconst 0, 1) := by decide +kernel
theorem d9_13 : decode jdk_42_method_55_code 13 = .ok (.ireturn, 1) := by decide +kernel
theorem pn9 : plainFor (⟨"java/lang/String", "isEmpty", "()Z"⟩ : MethodName) = true := plainFor_of_name (by first | (simp [plainName, overriddenIn]; done) | decide +kernel)
theorem ef_rm9_1 (m : MethodId) (a1 : Addr) (bv : Addr) (kv : ClassId) (vs : List Value) : entryFrame m #[(.ref a1)] 1 = mkF m 0 #[.val (.ref a1)] [] := by first | (simp [entryFrame, mkF, argsToLocals, Value.category]; done) | rfl
def Q9_1 (Z : State) (a1 : Addr) (bv : Addr) (kv : ClassId) (vs : List Value) (h0 : Heap) (n0 : Nat) (v : Option Value) (h : Heap) (L : List Loc) : Prop := v = some (.int (0 : Int32)) ∧ Fr n0 L ∧ (h = h0)
set_option maxRecDepth 65536 in
set_option maxHeartbeats 40000000 in
theorem rm9_1 (l : Launch) (Z : State) (a0 : Array Value) (hw : ∀ d ∈ tables_1, d.before a0 Z = true) (ws : List Jvm.Cond) (a1 : Addr) (bv : Addr) (kv : ClassId) (vs : List Value) (h0 : Heap) (n0 : Nat) (Z0 : n0 ≤ h0.size) (F2 : Fld Z h0 a1 "java/lang/String" "value" "[B" (.ref bv)) (V1 : Arv Z h0 bv kv .byte (1 : Int32) vs (.int (0 : Int32))) :
    MetFree l (⟨"java/lang/String", "isEmpty", "()Z"⟩ : MethodName) (head1 (Jvm.Cond.code (⟨"java/lang/String", "isEmpty", "()Z"⟩ : MethodName) jdk_42_method_55_code 1 (some .boolean) :: ws) ({ frames := 0, cells := 0, slots := 0, locals := 0 } : Room)) (fun a U => a = #[(.ref a1)] ∧ Z.Warmed39 U.vm ∧ U.heap = h0) (fun _ _ _ _ _ => True) (fun _ U o U' => ∃ v L, o = .returned v ∧ Q9_1 Z a1 bv kv vs h0 n0 v U'.heap L ∧ FrameEnd U o U' L ({ frames := 0, cells := 0, slots := 0, locals := 0 } : Room).cells ({ frames := 0, cells := 0, slots := 0, locals := 0 } : Room).slots) := by
  refine MetFree.of_bodySF pn9 hisR ?_
  intro p e s m args below meth c s₁ Bd hml0 hP hK
  obtain ⟨rfl, hZ, hh⟩ := hP
  have hx := Bd.exec
  have hby := Bd.bytes
  have hml : c.maxLocals = 1 := hml0
  have hown : s.vm.findClass "java/lang/String" = some m.cls := findClass_of_methodNamed Bd.named
  have hnm := (name_of_methodNamed Bd.named Bd.method).1
  have X0 : Stand p l e ({ frames := 0, cells := 0, slots := 0, locals := 0 } : Room) s m #[(.ref a1)] below meth c s₁ [] 0 0 := Stand.of_body Bd
  have e0 : s₁.heap = h0 := by rw [← hh, Bd.state]; rfl
  have N0 := Fr.nil n0
  have p0 : Go p.tables e below (s₁.setTop (entryFrame m #[(.ref a1)] 1)) (s₁.setTop (mkF m 0 #[.val (.ref a1)] [])) := fun t_ k_ => castTop (ef_rm9_1 m a1 bv kv vs) k_
  have p101 : Go p.tables e below _ (s₁.setTop (mkF m 1 #[.val (.ref a1)] [(.ref a1)])) := fun t_ k_ => p0 t_ (by
    refine XS.aloadN X0.here hx rfl (hb hby d9_0) rfl rfl ?_
    exact k_)
  obtain ⟨T102, X102, e102, st102⟩ := getF X0 hx hZ hown (host := "") (Or.inl (own_w hw 33 rfl)) Via.refl e0 F2 (g := (mkF m 1 #[.val (.ref a1)] [(.ref a1)])) rfl rfl (hb hby d9_1)
  obtain ⟨cl103, Ar103, -, S103, Ng103, -, -⟩ := id V1
  have p104 : Go p.tables e below _ (T102.setTop (mkF m 13 #[.val (.ref a1)] [(.int (0 : Int32))])) := fun t_ k_ => (gc p101 st102) t_ (by
    refine X102.arraylength hx (by rw [e102]; exact Ar103.1) (State.isArrayOf_alike hZ.alike Ar103.2.1) (g := (mkF m 4 #[.val (.ref a1)] [(.ref bv)])) rfl rfl (hb hby d9_4) _ ?_
    rw [len_of S103 Ng103]
    show Steps p.tables e below (T102.setTop (mkF m 5 #[.val (.ref a1)] [(.int (1 : Int32))])) _
    refine XS.ifYes X102.here hx rfl (pc0 := 5) (pc' := 12) rfl (hb hby d9_5) rfl ((if0 _ _).trans (feq (by decide : ¬ ((1 : Int32) = (0 : Int32)))).2) (by decide) (by decide) ?_
    refine XS.iconst X102.here hx rfl (hb hby d9_12) ?_
    exact k_)
  obtain ⟨fs, hr, hrun, hended, hW, hsame⟩ := X102.leave (v := some (.int (0 : Int32))) (fun h => by rw [Bd.returns] at h; cases h)
  refine ⟨_, _, p104 _ (retN X102 hx (t := .boolean) Bd.returns (by simp) (hb hby d9_13) hr), hrun, hended, _, _, rfl, ?_, ⟨_, rfl⟩, hW, hsame.mono (by decide) (by decide)⟩
  show Q9_1 Z a1 bv kv vs h0 n0 _ T102.heap _
  rw [e102]
  exact ⟨rfl, N0, rfl⟩
theorem d8_0 : decode prog_78_method_1_code 0 = .ok (.aload_n 0, 1) := by decide +kernel
theorem d8_1 : decode prog_78_method_1_code 1 = .ok (.invokespecial 1, 3) := by decide +kernel
theorem d8_4 : decode prog_78_method_1_code 4 = .ok (.aload_n 1, 1) := by decide +kernel
theorem d8_5 : decode prog_78_method_1_code 5 = .ok (.invokevirtual 7, 3) := by decide +kernel
theorem d8_8 : decode prog_78_method_1_code 8 = .ok (.ifCond .eq 13, 3) := by decide +kernel
theorem d8_21 : decode prog_78_method_1_code 21 = .ok (.iload_n 2, 1) := by decide +kernel
theorem d8_22 : decode prog_78_method_1_code 22 = .ok (.ifCond .ge 18, 3) := by decide +kernel
theorem d8_40 : decode prog_78_method_1_code 40 = .ok (.aload_n 0, 1) := by decide +kernel
theorem d8_41 : decode prog_78_method_1_code 41 = .ok (.aload_n 1, 1) := by decide +kernel
theorem d8_42 : decode prog_78_method_1_code 42 = .ok (.putfield 24, 3) := by decide +kernel
theorem d8_45 : decode prog_78_method_1_code 45 = .ok (.aload_n 0, 1) := by decide +kernel
theorem d8_46 : decode prog_78_method_1_code 46 = .ok (.iload_n 2, 1) := by decide +kernel
theorem d8_47 : decode prog_78_method_1_code 47 = .ok (.putfield 30, 3) := by decide +kernel
theorem d8_50 : decode prog_78_method_1_code 50 = .ok (.aload_n 0, 1) := by decide +kernel
theorem d8_51 : decode prog_78_method_1_code 51 = .ok (.bipush 31, 2) := by decide +kernel
theorem d8_53 : decode prog_78_method_1_code 53 = .ok (.aload_n 1, 1) := by decide +kernel
theorem d8_54 : decode prog_78_method_1_code 54 = .ok (.invokevirtual 34, 3) := by decide +kernel
theorem d8_57 : decode prog_78_method_1_code 57 = .ok (.imul, 1) := by decide +kernel
theorem d8_58 : decode prog_78_method_1_code 58 = .ok (.iload_n 2, 1) := by decide +kernel
theorem d8_59 : decode prog_78_method_1_code 59 = .ok (.iadd, 1) := by decide +kernel
theorem d8_60 : decode prog_78_method_1_code 60 = .ok (.putfield 38, 3) := by decide +kernel
theorem d8_63 : decode prog_78_method_1_code 63 = .ok (.return_, 1) := by decide +kernel
theorem pd7 : parseMethodDescriptor "()I" = some ⟨[], some .int⟩ := by decide +kernel
theorem pn8 : plainFor (⟨"com/example/kuusi/kuusi/core/Symbol", "<init>", "(Ljava/lang/String;I)V"⟩ : MethodName) = true := plainFor_of_name (by first | (simp [plainName, overriddenIn]; done) | decide +kernel)
theorem ef_rm8_1 (m : MethodId) (a1 : Addr) (a2 : Addr) (p3 : Int32) (v2 : Addr) (k2 : ClassId) (b0 : Int32) (cs1 : Int32) (fm : Value) : entryFrame m #[(.ref a1), (.ref a2), (.int p3)] 3 = mkF m 0 #[.val (.ref a1), .val (.ref a2), .val (.int p3)] [] := by first | (simp [entryFrame, mkF, argsToLocals, Value.category]; done) | rfl
def Q8_1 (Z : State) (a1 : Addr) (a2 : Addr) (p3 : Int32) (v2 : Addr) (k2 : ClassId) (b0 : Int32) (cs1 : Int32) (fm : Value) (h0 : Heap) (n0 : Nat) (v : Option Value) (h : Heap) (L : List Loc) : Prop := v = none ∧ Fr n0 L ∧ (Keep h0 h [a1, a2]) ∧ (Fld Z h a1 "com/example/kuusi/kuusi/core/Symbol" "name" "Ljava/lang/String;" (.ref a2)) ∧ (Fld Z h a1 "com/example/kuusi/kuusi/core/Symbol" "rank" "I" (.int p3)) ∧ (Exa Z h a1 "com/example/kuusi/kuusi/core/Symbol") ∧ (Exa Z h a2 "java/lang/String") ∧ (Fld Z h a2 "java/lang/String" "coder" "B" (.int (0 : Int32))) ∧ (Fld Z h a2 "java/lang/String" "value" "[B" (.ref v2))
set_option maxRecDepth 65536 in
set_option maxHeartbeats 40000000 in
theorem rm8_1 (l : Launch) (Z : State) (a0 : Array Value) (hw : ∀ d ∈ tables_1, d.before a0 Z = true) (ws : List Jvm.Cond) (a1 : Addr) (a2 : Addr) (p3 : Int32) (v2 : Addr) (k2 : ClassId) (b0 : Int32) (cs1 : Int32) (fm : Value) (h0 : Heap) (n0 : Nat) (Z0 : n0 ≤ h0.size) (O1 : Old Z n0 h0) (G : own_G Z cs1 fm) (F1 : Fld Z h0 a1 "com/example/kuusi/kuusi/core/Symbol" "name" "Ljava/lang/String;" .null) (F2 : Fld Z h0 a1 "com/example/kuusi/kuusi/core/Symbol" "rank" "I" (.int (0 : Int32))) (F3 : Fld Z h0 a1 "com/example/kuusi/kuusi/core/Symbol" "hash" "I" (.int (0 : Int32))) (E1 : Exa Z h0 a1 "com/example/kuusi/kuusi/core/Symbol") (g1 : n0 ≤ a1) (hr : ¬ (p3 < (0 : Int32))) (E2 : Exa Z h0 a2 "java/lang/String") (G1 : Fld Z h0 a2 "java/lang/String" "coder" "B" (.int (0 : Int32))) (G2 : Fld Z h0 a2 "java/lang/String" "value" "[B" (.ref v2)) (G3 : Fld Z h0 a2 "java/lang/String" "hash" "I" (.int (0 : Int32))) (G4 : Fld Z h0 a2 "java/lang/String" "hashIsZero" "Z" (.int (0 : Int32))) (V2 : Arv Z h0 v2 k2 .byte (1 : Int32) [(.int b0)] (.int (0 : Int32))) (EB : Exa Z h0 v2 "[B") (g2 : n0 ≤ a2) (n1 : a1 ≠ a2) (n2 : a1 ≠ v2) (n3 : a2 ≠ v2) :
    MetFree l (⟨"com/example/kuusi/kuusi/core/Symbol", "<init>", "(Ljava/lang/String;I)V"⟩ : MethodName) (head1 (Jvm.Cond.code (⟨"com/example/kuusi/kuusi/core/Symbol", "<init>", "(Ljava/lang/String;I)V"⟩ : MethodName) prog_78_method_1_code 3 none :: ws) ({ frames := 2, cells := 0, slots := 0, locals := 27 } : Room)) (fun a U => a = #[(.ref a1), (.ref a2), (.int p3)] ∧ Z.Warmed39 U.vm ∧ U.heap = h0) (fun _ _ _ _ _ => True) (fun _ U o U' => ∃ v L, o = .returned v ∧ Q8_1 Z a1 a2 p3 v2 k2 b0 cs1 fm h0 n0 v U'.heap L ∧ FrameEnd U o U' L ({ frames := 2, cells := 0, slots := 0, locals := 27 } : Room).cells ({ frames := 2, cells := 0, slots := 0, locals := 27 } : Room).slots) := by
  refine MetFree.of_bodySF pn8 hisR ?_
  intro p e s m args below meth c s₁ Bd hml0 hP hK
  obtain ⟨rfl, hZ, hh⟩ := hP
  have hx := Bd.exec
  have hby := Bd.bytes
  have hml : c.maxLocals = 3 := hml0
  have hown : s.vm.findClass "com/example/kuusi/kuusi/core/Symbol" = some m.cls := findClass_of_methodNamed Bd.named
  have hnm := (name_of_methodNamed Bd.named Bd.method).1
  have X0 : Stand p l e ({ frames := 2, cells := 0, slots := 0, locals := 27 } : Room) s m #[(.ref a1), (.ref a2), (.int p3)] below meth c s₁ [] 0 0 := Stand.of_body Bd
  have e0 : s₁.heap = h0 := by rw [← hh, Bd.state]; rfl
  have N0 := Fr.nil n0
  have p0 : Go p.tables e below (s₁.setTop (entryFrame m #[(.ref a1), (.ref a2), (.int p3)] 3)) (s₁.setTop (mkF m 0 #[.val (.ref a1), .val (.ref a2), .val (.int p3)] [])) := fun t_ k_ => castTop (ef_rm8_1 m a1 a2 p3 v2 k2 b0 cs1 fm) k_
  have p101 : Go p.tables e below _ (s₁.setTop (mkF m 1 #[.val (.ref a1), .val (.ref a2), .val (.int p3)] [(.ref a1)])) := fun t_ k_ => p0 t_ (by
    refine XS.aloadN X0.here hx rfl (hb hby d8_0) rfl rfl ?_
    exact k_)
  obtain ⟨T102, X102, e102, st102⟩ := initO X0 hx hZ hown (own_w hw 41 rfl) (own_w hw 17 rfl) (own_w hw 18 rfl) e0 (g := (mkF m 1 #[.val (.ref a1), .val (.ref a2), .val (.int p3)] [(.ref a1)])) rfl (by rw [hml]; rfl) rfl (hb hby d8_1) (by decide) (W := 0) (by show 2 * 0 + _ ≤ _; exact Nat.le_of_eq rfl) (by decide)
  have p103 : Go p.tables e below _ (T102.setTop (mkF m 5 #[.val (.ref a1), .val (.ref a2), .val (.int p3)] [(.ref a2)])) := fun t_ k_ => (gc p101 st102) t_ (by
    refine XS.aloadN X102.here hx rfl (hb hby d8_4) rfl rfl ?_
    exact k_)
  obtain ⟨cq104, kq104, q104a, q104b, q104c⟩ := isOf hZ e102 E2
  obtain ⟨_, _, ⟨T104, L104, k104, n104⟩, -, X104, ⟨Lc104, hQ104, l104, y104, z104⟩, st104⟩ := X102.virtualBack hx (y := (⟨"java/lang/String", "isEmpty", "()Z"⟩ : MethodName)) (z := (⟨"java/lang/String", "isEmpty", "()Z"⟩ : MethodName)) hown (mvT hZ (own_w hw 42 rfl)) (mvT hZ (own_w hw 43 rfl)) (notFace_of_selects (args := #[]) (mvT hZ (own_w hw 45 rfl))) (mvT hZ (own_w hw 45 rfl)) (mvT hZ (own_w hw 44 rfl)) (by decide) (backOf (W := 0) (rm9_1 l Z a0 hw [] a2 v2 k2 [(.int b0)] h0 n0 (Nat.le_trans Z0 (Keep.refl h0 [a1, a2]).1) G2 V2) hZ (own_w hw 46 rfl) (own_w hw 7 rfl) (by decide) (by decide)) q104a q104c (g := (mkF m 5 #[.val (.ref a1), .val (.ref a2), .val (.int p3)] [(.ref a2)])) rfl (by rw [hml]; rfl) (Steps.refl _) (argsL := []) (rest := []) (lenOf pd5 rfl) rfl (by show 2 * 0 + _ ≤ _; exact Nat.le_of_eq rfl) (hb hby d8_5) (fun _ _ => ⟨rfl, e102, (by decide : 0 + 0 ≤ _), (by decide : 0 + 0 ≤ _)⟩)
  dsimp only [Pt.U, Pt.locs, Pt.cells, Pt.slots] at X104 l104 y104 z104 st104 hQ104
  subst l104 y104 z104
  obtain ⟨rfl, N104q, q104_hh⟩ := hQ104
  have N104 := Fr.app N0 N104q
  have p105 : Go p.tables e below _ (T104.setTop (mkF m 22 #[.val (.ref a1), .val (.ref a2), .val (.int p3)] [(.int p3)])) := fun t_ k_ => (gcT p103 st104) t_ (by
    refine XS.ifYes X104.here hx rfl (pc0 := 8) (pc' := 21) rfl (hb hby d8_8) rfl ((if0 _ _).trans (teq (by decide : ((0 : Int32) = (0 : Int32)))).1) (by decide) (by decide) ?_
    refine XS.iloadN X104.here hx rfl (hb hby d8_21) rfl ?_
    exact k_)
  have c106 : ¬ (p3 < (0 : Int32)) := hr
  have p107 : Go p.tables e below _ (T104.setTop (mkF m 42 #[.val (.ref a1), .val (.ref a2), .val (.int p3)] [(.ref a2), (.ref a1)])) := fun t_ k_ => p105 t_ (by
    refine XS.ifYes X104.here hx rfl (pc0 := 22) (pc' := 40) rfl (hb hby d8_22) rfl ((if0 _ _).trans (flt c106).2.1) (by decide) (by decide) ?_
    refine XS.aloadN X104.here hx rfl (hb hby d8_40) rfl rfl ?_
    refine XS.aloadN X104.here hx rfl (hb hby d8_41) rfl rfl ?_
    exact k_)
  obtain ⟨T108, h108, X108, e108, W108, st108⟩ := putF X104 hx hZ hown (host := "") (Or.inl (own_w hw 47 rfl)) Via.refl q104_hh F1 E1 (Or.inr ⟨(own_w hw 48 rfl), rfl, hnm⟩) (own_w hw 36 rfl) (ty := (.object "java/lang/String")) (by decide) rfl rfl (g := (mkF m 42 #[.val (.ref a1), .val (.ref a2), .val (.int p3)] [(.ref a2), (.ref a1)])) rfl rfl (hb hby d8_42)
  have K109 : Keep h0 h108 [a1, a2] := (Keep.refl h0 [a1, a2]).wr W108 (Or.inl (List.mem_of_getElem? (i := 0) rfl))
  have N108 := Fr.snoc X108 N104 g1
  have F108 : Fld Z h108 a1 "com/example/kuusi/kuusi/core/Symbol" "name" "Ljava/lang/String;" (.ref a2) := F1.same W108
  have p110 : Go p.tables e below _ (T108.setTop (mkF m 47 #[.val (.ref a1), .val (.ref a2), .val (.int p3)] [(.int p3), (.ref a1)])) := fun t_ k_ => (gc p107 st108) t_ (by
    refine XS.aloadN X108.here hx rfl (hb hby d8_45) rfl rfl ?_
    refine XS.iloadN X108.here hx rfl (hb hby d8_46) rfl ?_
    exact k_)
  have f111 := (F2.other W108 (Or.inr (slot_ne (Or.inr (own_w hw 50 rfl)) (Or.inr (own_w hw 48 rfl)) (by decide) (t := .int) (t' := (.object "java/lang/String")) (by decide) (by decide))))
  have f112 := (E1.wr W108)
  obtain ⟨T113, h113, X113, e113, W113, st113⟩ := putF X108 hx hZ hown (host := "") (Or.inl (own_w hw 49 rfl)) Via.refl e108 f111 f112 (Or.inr ⟨(own_w hw 50 rfl), rfl, hnm⟩) (own_w hw 36 rfl) (ty := .int) (by decide) rfl rfl (g := (mkF m 47 #[.val (.ref a1), .val (.ref a2), .val (.int p3)] [(.int p3), (.ref a1)])) rfl rfl (hb hby d8_47)
  have K114 : Keep h0 h113 [a1, a2] := K109.wr W113 (Or.inl (List.mem_of_getElem? (i := 0) rfl))
  have N113 := Fr.snoc X113 N108 g1
  have F113 : Fld Z h113 a1 "com/example/kuusi/kuusi/core/Symbol" "rank" "I" (.int p3) := f111.same W113
  have p115 : Go p.tables e below _ (T113.setTop (mkF m 54 #[.val (.ref a1), .val (.ref a2), .val (.int p3)] [(.ref a2), (.int (31 : Int32)), (.ref a1)])) := fun t_ k_ => (gc p110 st113) t_ (by
    refine XS.aloadN X113.here hx rfl (hb hby d8_50) rfl rfl ?_
    refine XS.bipush X113.here hx rfl (hb hby d8_51) ?_
    refine XS.aloadN X113.here hx rfl (hb hby d8_53) rfl rfl ?_
    exact k_)
  have f116 := ((O1.wr W108 g1).wr W113 g1)
  have f117 := ((G1.other W108 (Or.inl (Ne.symm n1))).other W113 (Or.inl (Ne.symm n1)))
  have f118 := ((G2.other W108 (Or.inl (Ne.symm n1))).other W113 (Or.inl (Ne.symm n1)))
  have f119 := ((G3.other W108 (Or.inl (Ne.symm n1))).other W113 (Or.inl (Ne.symm n1)))
  have f120 := ((G4.other W108 (Or.inl (Ne.symm n1))).other W113 (Or.inl (Ne.symm n1)))
  have f121 := ((E2.wr W108).wr W113)
  have f122 := ((V2.other W108 (Ne.symm n2)).other W113 (Ne.symm n2))
  obtain ⟨cq123, kq123, q123a, q123b, q123c⟩ := isOf hZ e113 f121
  obtain ⟨_, _, ⟨T123, L123, k123, n123⟩, -, X123, ⟨Lc123, hQ123, l123, y123, z123⟩, st123⟩ := X113.virtualBack hx (y := (⟨"java/lang/String", "hashCode", "()I"⟩ : MethodName)) (z := (⟨"java/lang/String", "hashCode", "()I"⟩ : MethodName)) hown (mvT hZ (own_w hw 51 rfl)) (mvT hZ (own_w hw 52 rfl)) (notFace_of_selects (args := #[]) (mvT hZ (own_w hw 54 rfl))) (mvT hZ (own_w hw 54 rfl)) (mvT hZ (own_w hw 53 rfl)) (by decide) (backOf (W := 2) (rm10_1 l Z a0 hw [] a2 v2 k2 b0 cs1 fm h113 n0 (Nat.le_trans Z0 K114.1) f116 G f117 f118 f119 f120 f121 g2 n3 f122) hZ (own_w hw 55 rfl) (own_w hw 7 rfl) (by decide) (by decide)) q123a q123c (g := (mkF m 54 #[.val (.ref a1), .val (.ref a2), .val (.int p3)] [(.ref a2), (.int (31 : Int32)), (.ref a1)])) rfl (by rw [hml]; rfl) (Steps.refl _) (argsL := []) (rest := [(.int (31 : Int32)), (.ref a1)]) (lenOf pd7 rfl) rfl (by show 2 * 0 + _ ≤ _; exact Nat.le_of_eq rfl) (hb hby d8_54) (fun _ _ => ⟨rfl, e113, (by decide : 0 + 0 ≤ _), (by decide : 0 + 0 ≤ _)⟩)
  dsimp only [Pt.U, Pt.locs, Pt.cells, Pt.slots] at X123 l123 y123 z123 st123 hQ123
  subst l123 y123 z123
  obtain ⟨x124, rfl, N123q, q123_K, q123_E, q123_c, q123_v⟩ := hQ123
  have N123 := Fr.app N113 N123q
  have K125 : Keep h0 T123.heap [a1, a2] := K114.trans q123_K (allS (Or.inl (List.mem_of_getElem? (i := 1) rfl)) all0)
  have p126 : Go p.tables e below _ (T123.setTop (mkF m 60 #[.val (.ref a1), .val (.ref a2), .val (.int p3)] [(.int (((31 : Int32) * x124) + p3)), (.ref a1)])) := fun t_ k_ => (gcT p115 st123) t_ (by
    refine XS.imul X123.here hx rfl (hb hby d8_57) rfl ?_
    refine XS.iloadN X123.here hx rfl (hb hby d8_58) rfl ?_
    refine XS.iadd X123.here hx rfl (hb hby d8_59) rfl ?_
    exact k_)
  have f127 := (((F3.other W108 (Or.inr (slot_ne (Or.inr (own_w hw 70 rfl)) (Or.inr (own_w hw 48 rfl)) (by decide) (t := .int) (t' := (.object "java/lang/String")) (by decide) (by decide)))).other W113 (Or.inr (slot_ne (Or.inr (own_w hw 70 rfl)) (Or.inr (own_w hw 50 rfl)) (by decide) (t := .int) (t' := .int) (by decide) (by decide)))).keep q123_K (ninS n1 nin0))
  have f128 := ((f112.wr W113).keep q123_K)
  obtain ⟨T129, h129, X129, e129, W129, st129⟩ := putF X123 hx hZ hown (host := "") (Or.inl (own_w hw 69 rfl)) Via.refl rfl f127 f128 (Or.inr ⟨(own_w hw 70 rfl), rfl, hnm⟩) (own_w hw 36 rfl) (ty := .int) (by decide) rfl rfl (g := (mkF m 60 #[.val (.ref a1), .val (.ref a2), .val (.int p3)] [(.int (((31 : Int32) * x124) + p3)), (.ref a1)])) rfl rfl (hb hby d8_60)
  have K130 : Keep h0 h129 [a1, a2] := K125.wr W129 (Or.inl (List.mem_of_getElem? (i := 0) rfl))
  have N129 := Fr.snoc X129 N123 g1
  have F129 : Fld Z h129 a1 "com/example/kuusi/kuusi/core/Symbol" "hash" "I" (.int (((31 : Int32) * x124) + p3)) := f127.same W129
  have f131 := (((F108.other W113 (Or.inr (slot_ne (Or.inr (own_w hw 48 rfl)) (Or.inr (own_w hw 50 rfl)) (by decide) (t := (.object "java/lang/String")) (t' := .int) (by decide) (by decide)))).keep q123_K (ninS n1 nin0)).other W129 (Or.inr (slot_ne (Or.inr (own_w hw 48 rfl)) (Or.inr (own_w hw 70 rfl)) (by decide) (t := (.object "java/lang/String")) (t' := .int) (by decide) (by decide))))
  have f132 := ((F113.keep q123_K (ninS n1 nin0)).other W129 (Or.inr (slot_ne (Or.inr (own_w hw 50 rfl)) (Or.inr (own_w hw 70 rfl)) (by decide) (t := .int) (t' := .int) (by decide) (by decide))))
  have f133 := (f128.wr W129)
  have f134 := (q123_E.wr W129)
  have f135 := (q123_c.other W129 (Or.inl (Ne.symm n1)))
  have f136 := (q123_v.other W129 (Or.inl (Ne.symm n1)))
  obtain ⟨fs, hr, hrun, hended, hW, hsame⟩ := X129.leave (v := none) (fun _ => rfl)
  refine ⟨_, _, (gc p126 st129) _ (X129.returnOut hx Bd.returns (hb hby d8_63) hr), hrun, hended, _, _, rfl, ?_, ⟨_, rfl⟩, hW, hsame.mono (by decide) (by decide)⟩
  show Q8_1 Z a1 a2 p3 v2 k2 b0 cs1 fm h0 n0 _ T129.heap _
  rw [e129]
  exact ⟨rfl, N129, K130, f131, f132, f133, f134, f135, f136⟩
theorem ef_rm6_L2 (m : MethodId) (a1 : Addr) (a3 : Addr) (k1 : ClassId) (k3 : ClassId) (c0 : Int32) (c1 : Int32) : entryFrame m #[(.ref a1), (.int (0 : Int32)), (.ref a3), (.int (0 : Int32)), (.int (2 : Int32))] 7 = mkF m 0 #[.val (.ref a1), .val (.int (0 : Int32)), .val (.ref a3), .val (.int (0 : Int32)), .val (.int (2 : Int32)), .unset, .unset] [] := by first | (simp [entryFrame, mkF, argsToLocals, Value.category]; done) | rfl
def Q6_L2 (Z : State) (a1 : Addr) (a3 : Addr) (k1 : ClassId) (k3 : ClassId) (c0 : Int32) (c1 : Int32) (h0 : Heap) (n0 : Nat) (v : Option Value) (h : Heap) (L : List Loc) : Prop := v = some (.int (2 : Int32)) ∧ Fr n0 L ∧ (Keep h0 h [a3]) ∧ (Arv Z h a3 k3 .byte (2 : Int32) [(.int (nar .byte (c0.toInt8.toInt32))), (.int (nar .byte (c1.toInt8.toInt32)))] (.int (0 : Int32)))
set_option maxRecDepth 65536 in
set_option maxHeartbeats 40000000 in
theorem rm6_L2 (l : Launch) (Z : State) (a0 : Array Value) (hw : ∀ d ∈ tables_1, d.before a0 Z = true) (ws : List Jvm.Cond) (a1 : Addr) (a3 : Addr) (k1 : ClassId) (k3 : ClassId) (c0 : Int32) (c1 : Int32) (h0 : Heap) (n0 : Nat) (Z0 : n0 ≤ h0.size) (V1 : Arv Z h0 a1 k1 .char (2 : Int32) [(.int c0), (.int c1)] (.int (0 : Int32))) (V3 : Arv Z h0 a3 k3 .byte (2 : Int32) [(.int (0 : Int32)), (.int (0 : Int32))] (.int (0 : Int32))) (ne : a1 ≠ a3) (g3 : n0 ≤ a3) (l0 : ¬ ((255 : Int32) < c0)) (l1 : ¬ ((255 : Int32) < c1)) :
    MetFree l (⟨"java/lang/StringUTF16", "compress", "([CI[BII)I"⟩ : MethodName) (head1 (Jvm.Cond.code (⟨"java/lang/StringUTF16", "compress", "([CI[BII)I"⟩ : MethodName) jdk_52_method_21_code 7 (some .int) :: ws) ({ frames := 0, cells := 0, slots := 0, locals := 0 } : Room)) (fun a U => a = #[(.ref a1), (.int (0 : Int32)), (.ref a3), (.int (0 : Int32)), (.int (2 : Int32))] ∧ Z.Warmed39 U.vm ∧ U.heap = h0) (fun _ _ _ _ _ => True) (fun _ U o U' => ∃ v L, o = .returned v ∧ Q6_L2 Z a1 a3 k1 k3 c0 c1 h0 n0 v U'.heap L ∧ FrameEnd U o U' L ({ frames := 0, cells := 0, slots := 0, locals := 0 } : Room).cells ({ frames := 0, cells := 0, slots := 0, locals := 0 } : Room).slots) := by
  refine MetFree.of_bodySF pn6 hisR ?_
  intro p e s m args below meth c s₁ Bd hml0 hP hK
  obtain ⟨rfl, hZ, hh⟩ := hP
  have hx := Bd.exec
  have hby := Bd.bytes
  have hml : c.maxLocals = 7 := hml0
  have hown : s.vm.findClass "java/lang/StringUTF16" = some m.cls := findClass_of_methodNamed Bd.named
  have hnm := (name_of_methodNamed Bd.named Bd.method).1
  have X0 : Stand p l e ({ frames := 0, cells := 0, slots := 0, locals := 0 } : Room) s m #[(.ref a1), (.int (0 : Int32)), (.ref a3), (.int (0 : Int32)), (.int (2 : Int32))] below meth c s₁ [] 0 0 := Stand.of_body Bd
  have e0 : s₁.heap = h0 := by rw [← hh, Bd.state]; rfl
  have N0 := Fr.nil n0
  have p0 : Go p.tables e below (s₁.setTop (entryFrame m #[(.ref a1), (.int (0 : Int32)), (.ref a3), (.int (0 : Int32)), (.int (2 : Int32))] 7)) (s₁.setTop (mkF m 0 #[.val (.ref a1), .val (.int (0 : Int32)), .val (.ref a3), .val (.int (0 : Int32)), .val (.int (2 : Int32)), .unset, .unset] [])) := fun t_ k_ => castTop (ef_rm6_L2 m a1 a3 k1 k3 c0 c1) k_
  have p101 : Go p.tables e below _ (s₁.setTop (mkF m 12 #[.val (.ref a1), .val (.int (0 : Int32)), .val (.ref a3), .val (.int (0 : Int32)), .val (.int (2 : Int32)), .val (.int (0 : Int32)), .unset] [(.int (0 : Int32)), (.ref a1)])) := fun t_ k_ => p0 t_ (by
    refine XS.iconst X0.here hx rfl (hb hby d6_0) ?_
    refine XS.istore X0.here hx rfl (hb hby d6_1) rfl (l' := #[.val (.ref a1), .val (.int (0 : Int32)), .val (.ref a3), .val (.int (0 : Int32)), .val (.int (2 : Int32)), .val (.int (0 : Int32)), .unset]) rfl ?_
    refine XS.iload X0.here hx rfl (hb hby d6_3) rfl ?_
    refine XS.iload X0.here hx rfl (hb hby d6_5) rfl ?_
    refine XS.icmpNo X0.here hx rfl (hb hby d6_7) rfl (tlt (by decide : ((0 : Int32) < (2 : Int32)))).2.1 ?_
    refine XS.aloadN X0.here hx rfl (hb hby d6_10) rfl rfl ?_
    refine XS.iloadN X0.here hx rfl (hb hby d6_11) rfl ?_
    exact k_)
  obtain ⟨cl102, Ar102, q102, S102, Ng102, H102, G102⟩ := id V1
  have hin102 := inb_of S102 (j := (0 : Int32)) ⟨by decide, by decide⟩
  have hat102 := H102.at (v := (.int c0)) hin102 rfl
  have p103 : Go p.tables e below _ (s₁.setTop (mkF m 20 #[.val (.ref a1), .val (.int (0 : Int32)), .val (.ref a3), .val (.int (0 : Int32)), .val (.int (2 : Int32)), .val (.int (0 : Int32)), .val (.int c0)] [(.int (255 : Int32)), (.int c0)])) := fun t_ k_ => p101 t_ (by
    refine X0.caload hx (j := (0 : Int32)) (v := (.int c0)) (by rw [e0]; exact Ar102.1) (State.isArrayOf_alike hZ.alike Ar102.2.1) Ar102.2.2 hin102 hat102 (g := (mkF m 12 #[.val (.ref a1), .val (.int (0 : Int32)), .val (.ref a3), .val (.int (0 : Int32)), .val (.int (2 : Int32)), .val (.int (0 : Int32)), .unset] [(.int (0 : Int32)), (.ref a1)])) rfl rfl (hb hby d6_12) _ ?_
    refine XS.istore X0.here hx rfl (hb hby d6_13) rfl (l' := #[.val (.ref a1), .val (.int (0 : Int32)), .val (.ref a3), .val (.int (0 : Int32)), .val (.int (2 : Int32)), .val (.int (0 : Int32)), .val (.int c0)]) rfl ?_
    refine XS.iload X0.here hx rfl (hb hby d6_15) rfl ?_
    refine XS.sipush X0.here hx rfl (hb hby d6_17) ?_
    exact k_)
  have c104 : ¬ ((255 : Int32) < c0) := l0
  have p105 : Go p.tables e below _ (s₁.setTop (mkF m 31 #[.val (.ref a1), .val (.int (0 : Int32)), .val (.ref a3), .val (.int (0 : Int32)), .val (.int (2 : Int32)), .val (.int (0 : Int32)), .val (.int c0)] [(.int (c0.toInt8.toInt32)), (.int (0 : Int32)), (.ref a3)])) := fun t_ k_ => p103 t_ (by
    refine XS.icmpYes X0.here hx rfl (pc0 := 20) (pc' := 26) rfl (hb hby d6_20) rfl (flt c104).2.2.2 (by decide) (by decide) ?_
    refine XS.aloadN X0.here hx rfl (hb hby d6_26) rfl rfl ?_
    refine XS.iloadN X0.here hx rfl (hb hby d6_27) rfl ?_
    refine XS.iload X0.here hx rfl (hb hby d6_28) rfl ?_
    refine XS.i2b X0.here hx rfl (hb hby d6_30) rfl ?_
    exact k_)
  obtain ⟨cl106, Ar106, q106, S106, Ng106, H106, G106⟩ := id V3
  have hin106 := inb_of S106 (j := (0 : Int32)) ⟨by decide, by decide⟩
  obtain ⟨T106, h106, X106, e106, W106, st106⟩ := stB X0 hx hZ e0 Ar106 (j := (0 : Int32)) hin106 (g := (mkF m 31 #[.val (.ref a1), .val (.int (0 : Int32)), .val (.ref a3), .val (.int (0 : Int32)), .val (.int (2 : Int32)), .val (.int (0 : Int32)), .val (.int c0)] [(.int (c0.toInt8.toInt32)), (.int (0 : Int32)), (.ref a3)])) rfl rfl (hb hby d6_31)
  have K107 : Keep h0 h106 [a3] := (Keep.refl h0 [a3]).wr W106 (Or.inl (List.mem_of_getElem? (i := 0) rfl))
  have N106 := Fr.snoc X106 N0 g3
  have V106 : Arv Z h106 a3 k3 .byte (2 : Int32) [(.int (nar .byte (c0.toInt8.toInt32))), (.int (0 : Int32))] (.int (0 : Int32)) := Arv.set Ar106 q106 S106 Ng106 H106 G106 (fits_nar_byte _) W106 0 rfl (Nat.le_of_ble_eq_true rfl)
  have p108 : Go p.tables e below _ (T106.setTop (mkF m 12 #[.val (.ref a1), .val (.int (1 : Int32)), .val (.ref a3), .val (.int (1 : Int32)), .val (.int (2 : Int32)), .val (.int (1 : Int32)), .val (.int c0)] [(.int (1 : Int32)), (.ref a1)])) := fun t_ k_ => (gc p105 st106) t_ (by
    refine XS.iinc X106.here hx rfl (hb hby d6_32) rfl (l' := #[.val (.ref a1), .val (.int (1 : Int32)), .val (.ref a3), .val (.int (0 : Int32)), .val (.int (2 : Int32)), .val (.int (0 : Int32)), .val (.int c0)]) rfl ?_
    refine XS.iinc X106.here hx rfl (hb hby d6_35) rfl (l' := #[.val (.ref a1), .val (.int (1 : Int32)), .val (.ref a3), .val (.int (1 : Int32)), .val (.int (2 : Int32)), .val (.int (0 : Int32)), .val (.int c0)]) rfl ?_
    refine XS.iinc X106.here hx rfl (hb hby d6_38) rfl (l' := #[.val (.ref a1), .val (.int (1 : Int32)), .val (.ref a3), .val (.int (1 : Int32)), .val (.int (2 : Int32)), .val (.int (1 : Int32)), .val (.int c0)]) rfl ?_
    refine XS.goto X106.here hx rfl (pc0 := 41) (pc' := 3) rfl (hb hby d6_41) (by decide) (by decide) ?_
    refine XS.iload X106.here hx rfl (hb hby d6_3) rfl ?_
    refine XS.iload X106.here hx rfl (hb hby d6_5) rfl ?_
    refine XS.icmpNo X106.here hx rfl (hb hby d6_7) rfl (tlt (by decide : ((1 : Int32) < (2 : Int32)))).2.1 ?_
    refine XS.aloadN X106.here hx rfl (hb hby d6_10) rfl rfl ?_
    refine XS.iloadN X106.here hx rfl (hb hby d6_11) rfl ?_
    exact k_)
  have f110 := (V1.other W106 ne)
  obtain ⟨cl109, Ar109, q109, S109, Ng109, H109, G109⟩ := id f110
  have hin109 := inb_of S109 (j := (1 : Int32)) ⟨by decide, by decide⟩
  have hat109 := H109.at (v := (.int c1)) hin109 rfl
  have p111 : Go p.tables e below _ (T106.setTop (mkF m 20 #[.val (.ref a1), .val (.int (1 : Int32)), .val (.ref a3), .val (.int (1 : Int32)), .val (.int (2 : Int32)), .val (.int (1 : Int32)), .val (.int c1)] [(.int (255 : Int32)), (.int c1)])) := fun t_ k_ => p108 t_ (by
    refine X106.caload hx (j := (1 : Int32)) (v := (.int c1)) (by rw [e106]; exact Ar109.1) (State.isArrayOf_alike hZ.alike Ar109.2.1) Ar109.2.2 hin109 hat109 (g := (mkF m 12 #[.val (.ref a1), .val (.int (1 : Int32)), .val (.ref a3), .val (.int (1 : Int32)), .val (.int (2 : Int32)), .val (.int (1 : Int32)), .val (.int c0)] [(.int (1 : Int32)), (.ref a1)])) rfl rfl (hb hby d6_12) _ ?_
    refine XS.istore X106.here hx rfl (hb hby d6_13) rfl (l' := #[.val (.ref a1), .val (.int (1 : Int32)), .val (.ref a3), .val (.int (1 : Int32)), .val (.int (2 : Int32)), .val (.int (1 : Int32)), .val (.int c1)]) rfl ?_
    refine XS.iload X106.here hx rfl (hb hby d6_15) rfl ?_
    refine XS.sipush X106.here hx rfl (hb hby d6_17) ?_
    exact k_)
  have c112 : ¬ ((255 : Int32) < c1) := l1
  have p113 : Go p.tables e below _ (T106.setTop (mkF m 31 #[.val (.ref a1), .val (.int (1 : Int32)), .val (.ref a3), .val (.int (1 : Int32)), .val (.int (2 : Int32)), .val (.int (1 : Int32)), .val (.int c1)] [(.int (c1.toInt8.toInt32)), (.int (1 : Int32)), (.ref a3)])) := fun t_ k_ => p111 t_ (by
    refine XS.icmpYes X106.here hx rfl (pc0 := 20) (pc' := 26) rfl (hb hby d6_20) rfl (flt c112).2.2.2 (by decide) (by decide) ?_
    refine XS.aloadN X106.here hx rfl (hb hby d6_26) rfl rfl ?_
    refine XS.iloadN X106.here hx rfl (hb hby d6_27) rfl ?_
    refine XS.iload X106.here hx rfl (hb hby d6_28) rfl ?_
    refine XS.i2b X106.here hx rfl (hb hby d6_30) rfl ?_
    exact k_)
  obtain ⟨cl114, Ar114, q114, S114, Ng114, H114, G114⟩ := id V106
  have hin114 := inb_of S114 (j := (1 : Int32)) ⟨by decide, by decide⟩
  obtain ⟨T114, h114, X114, e114, W114, st114⟩ := stB X106 hx hZ e106 Ar114 (j := (1 : Int32)) hin114 (g := (mkF m 31 #[.val (.ref a1), .val (.int (1 : Int32)), .val (.ref a3), .val (.int (1 : Int32)), .val (.int (2 : Int32)), .val (.int (1 : Int32)), .val (.int c1)] [(.int (c1.toInt8.toInt32)), (.int (1 : Int32)), (.ref a3)])) rfl rfl (hb hby d6_31)
  have K115 : Keep h0 h114 [a3] := K107.wr W114 (Or.inl (List.mem_of_getElem? (i := 0) rfl))
  have N114 := Fr.snoc X114 N106 g3
  have V114 : Arv Z h114 a3 k3 .byte (2 : Int32) [(.int (nar .byte (c0.toInt8.toInt32))), (.int (nar .byte (c1.toInt8.toInt32)))] (.int (0 : Int32)) := Arv.set Ar114 q114 S114 Ng114 H114 G114 (fits_nar_byte _) W114 1 rfl (Nat.le_of_ble_eq_true rfl)
  have p116 : Go p.tables e below _ (T114.setTop (mkF m 46 #[.val (.ref a1), .val (.int (2 : Int32)), .val (.ref a3), .val (.int (2 : Int32)), .val (.int (2 : Int32)), .val (.int (2 : Int32)), .val (.int c1)] [(.int (2 : Int32))])) := fun t_ k_ => (gc p113 st114) t_ (by
    refine XS.iinc X114.here hx rfl (hb hby d6_32) rfl (l' := #[.val (.ref a1), .val (.int (2 : Int32)), .val (.ref a3), .val (.int (1 : Int32)), .val (.int (2 : Int32)), .val (.int (1 : Int32)), .val (.int c1)]) rfl ?_
    refine XS.iinc X114.here hx rfl (hb hby d6_35) rfl (l' := #[.val (.ref a1), .val (.int (2 : Int32)), .val (.ref a3), .val (.int (2 : Int32)), .val (.int (2 : Int32)), .val (.int (1 : Int32)), .val (.int c1)]) rfl ?_
    refine XS.iinc X114.here hx rfl (hb hby d6_38) rfl (l' := #[.val (.ref a1), .val (.int (2 : Int32)), .val (.ref a3), .val (.int (2 : Int32)), .val (.int (2 : Int32)), .val (.int (2 : Int32)), .val (.int c1)]) rfl ?_
    refine XS.goto X114.here hx rfl (pc0 := 41) (pc' := 3) rfl (hb hby d6_41) (by decide) (by decide) ?_
    refine XS.iload X114.here hx rfl (hb hby d6_3) rfl ?_
    refine XS.iload X114.here hx rfl (hb hby d6_5) rfl ?_
    refine XS.icmpYes X114.here hx rfl (pc0 := 7) (pc' := 44) rfl (hb hby d6_7) rfl (flt (by decide : ¬ ((2 : Int32) < (2 : Int32)))).2.1 (by decide) (by decide) ?_
    refine XS.iload X114.here hx rfl (hb hby d6_44) rfl ?_
    exact k_)
  obtain ⟨fs, hr, hrun, hended, hW, hsame⟩ := X114.leave (v := some (.int (2 : Int32))) (fun h => by rw [Bd.returns] at h; cases h)
  refine ⟨_, _, p116 _ (retI X114 hx Bd.returns (hb hby d6_46) hr), hrun, hended, _, _, rfl, ?_, ⟨_, rfl⟩, hW, hsame.mono (by decide) (by decide)⟩
  show Q6_L2 Z a1 a3 k1 k3 c0 c1 h0 n0 _ T114.heap _
  rw [e114]
  exact ⟨rfl, N114, K115, V114⟩
theorem ef_rm5_L2 (m : MethodId) (a1 : Addr) (k1 : ClassId) (c0 : Int32) (c1 : Int32) : entryFrame m #[(.ref a1), (.int (0 : Int32)), (.int (2 : Int32))] 6 = mkF m 0 #[.val (.ref a1), .val (.int (0 : Int32)), .val (.int (2 : Int32)), .unset, .unset, .unset] [] := by first | (simp [entryFrame, mkF, argsToLocals, Value.category]; done) | rfl
def Q5_L2 (Z : State) (a1 : Addr) (k1 : ClassId) (c0 : Int32) (c1 : Int32) (h0 : Heap) (n0 : Nat) (v : Option Value) (h : Heap) (L : List Loc) : Prop := ∃ (b : Addr) (kb : ClassId), v = some (.ref b) ∧ Fr n0 L ∧ (Keep h0 h []) ∧ (n0 ≤ b) ∧ (h0.size ≤ b) ∧ (Arv Z h b kb .byte (2 : Int32) [(.int (nar .byte (c0.toInt8.toInt32))), (.int (nar .byte (c1.toInt8.toInt32)))] (.int (0 : Int32))) ∧ (Exa Z h b "[B")
set_option maxRecDepth 65536 in
set_option maxHeartbeats 40000000 in
theorem rm5_L2 (l : Launch) (Z : State) (a0 : Array Value) (hw : ∀ d ∈ tables_1, d.before a0 Z = true) (ws : List Jvm.Cond) (a1 : Addr) (k1 : ClassId) (c0 : Int32) (c1 : Int32) (h0 : Heap) (n0 : Nat) (Z0 : n0 ≤ h0.size) (V1 : Arv Z h0 a1 k1 .char (2 : Int32) [(.int c0), (.int c1)] (.int (0 : Int32))) (l0 : ¬ ((255 : Int32) < c0)) (l1 : ¬ ((255 : Int32) < c1)) :
    MetFree l (⟨"java/lang/StringUTF16", "compress", "([CII)[B"⟩ : MethodName) (head1 (Jvm.Cond.code (⟨"java/lang/StringUTF16", "compress", "([CII)[B"⟩ : MethodName) jdk_52_method_16_code 6 (some (.array .byte)) :: ws) ({ frames := 1, cells := 1, slots := 2, locals := 18 } : Room)) (fun a U => a = #[(.ref a1), (.int (0 : Int32)), (.int (2 : Int32))] ∧ Z.Warmed39 U.vm ∧ U.heap = h0) (fun _ _ _ _ _ => True) (fun _ U o U' => ∃ v L, o = .returned v ∧ Q5_L2 Z a1 k1 c0 c1 h0 n0 v U'.heap L ∧ FrameEnd U o U' L ({ frames := 1, cells := 1, slots := 2, locals := 18 } : Room).cells ({ frames := 1, cells := 1, slots := 2, locals := 18 } : Room).slots) := by
  refine MetFree.of_bodySF pn5 hisR ?_
  intro p e s m args below meth c s₁ Bd hml0 hP hK
  obtain ⟨rfl, hZ, hh⟩ := hP
  have hx := Bd.exec
  have hby := Bd.bytes
  have hml : c.maxLocals = 6 := hml0
  have hown : s.vm.findClass "java/lang/StringUTF16" = some m.cls := findClass_of_methodNamed Bd.named
  have hnm := (name_of_methodNamed Bd.named Bd.method).1
  have X0 : Stand p l e ({ frames := 1, cells := 1, slots := 2, locals := 18 } : Room) s m #[(.ref a1), (.int (0 : Int32)), (.int (2 : Int32))] below meth c s₁ [] 0 0 := Stand.of_body Bd
  have e0 : s₁.heap = h0 := by rw [← hh, Bd.state]; rfl
  have N0 := Fr.nil n0
  have p0 : Go p.tables e below (s₁.setTop (entryFrame m #[(.ref a1), (.int (0 : Int32)), (.int (2 : Int32))] 6)) (s₁.setTop (mkF m 0 #[.val (.ref a1), .val (.int (0 : Int32)), .val (.int (2 : Int32)), .unset, .unset, .unset] [])) := fun t_ k_ => castTop (ef_rm5_L2 m a1 k1 c0 c1) k_
  have p101 : Go p.tables e below _ (s₁.setTop (mkF m 1 #[.val (.ref a1), .val (.int (0 : Int32)), .val (.int (2 : Int32)), .unset, .unset, .unset] [(.int (2 : Int32))])) := fun t_ k_ => p0 t_ (by
    refine XS.iloadN X0.here hx rfl (hb hby d5_0) rfl ?_
    exact k_)
  obtain ⟨T102, h102, k102, X102, e102, E102, A102, AE102, st102⟩ := newPE X0 hx hZ (own_w hw 24 rfl) e0 (g := (mkF m 1 #[.val (.ref a1), .val (.int (0 : Int32)), .val (.int (2 : Int32)), .unset, .unset, .unset] [(.int (2 : Int32))])) rfl (hb hby d5_1) rfl (by decide) (cap := 2) (by decide) (by decide) (by decide) (by decide) (ad := "[B") (by decide)
  obtain ⟨b102, g102⟩ : ∃ z, z = h0.size := ⟨_, rfl⟩
  rw [← g102] at A102 AE102 st102
  have ne_a1_b102 : a1 ≠ b102 := Nat.ne_of_lt (Nat.lt_of_lt_of_le V1.lt (Nat.le_of_eq g102.symm))
  have ge_b102 : n0 ≤ b102 := Nat.le_trans (Nat.le_trans Z0 (Keep.refl h0 []).1) (Nat.le_of_eq g102.symm)
  have sz_b102 : h0.size ≤ b102 := Nat.le_trans (Keep.refl h0 []).1 (Nat.le_of_eq g102.symm)
  have K103 : Keep h0 h102 [] := (Keep.refl h0 []).ext E102
  have V102 : Arv Z h102 b102 k102 .byte (2 : Int32) [(.int (0 : Int32)), (.int (0 : Int32))] (.int (0 : Int32)) := (Arv.new A102 (by decide)).pad (pad_rep [] (.int (0 : Int32)) 2)
  have p104 : Go p.tables e below _ (T102.setTop (mkF m 9 #[.val (.ref a1), .val (.int (0 : Int32)), .val (.int (2 : Int32)), .val (.ref b102), .unset, .unset] [(.int (2 : Int32)), (.int (0 : Int32)), (.ref b102), (.int (0 : Int32)), (.ref a1)])) := fun t_ k_ => (gc p101 st102) t_ (by
    refine XS.astoreN X102.here hx rfl (hb hby d5_3) rfl rfl (l' := #[.val (.ref a1), .val (.int (0 : Int32)), .val (.int (2 : Int32)), .val (.ref b102), .unset, .unset]) rfl ?_
    refine XS.aloadN X102.here hx rfl (hb hby d5_4) rfl rfl ?_
    refine XS.iloadN X102.here hx rfl (hb hby d5_5) rfl ?_
    refine XS.aloadN X102.here hx rfl (hb hby d5_6) rfl rfl ?_
    refine XS.iconst X102.here hx rfl (hb hby d5_7) ?_
    refine XS.iloadN X102.here hx rfl (hb hby d5_8) rfl ?_
    exact k_)
  have f105 := (V1.ext E102)
  obtain ⟨_, _, ⟨T106, L106, k106, n106⟩, -, X106, ⟨Lc106, hQ106, l106, y106, z106⟩, st106⟩ := Jvm.LawKit.callS X102 hx (y := (⟨"java/lang/StringUTF16", "compress", "([CI[BII)I"⟩ : MethodName)) hown (mvT hZ (own_w hw 25 rfl)) (mvT hZ (own_w hw 26 rfl)) (mvT hZ (own_w hw 22 rfl)) (mvT hZ (own_w hw 27 rfl)) (by decide) (backOf (W := 0) (rm6_L2 l Z a0 hw [] a1 b102 k1 k102 c0 c1 h102 n0 (Nat.le_trans Z0 K103.1) f105 V102 ne_a1_b102 ge_b102 l0 l1) hZ (own_w hw 27 rfl) (own_w hw 22 rfl) (by decide) (by decide)) (g := (mkF m 9 #[.val (.ref a1), .val (.int (0 : Int32)), .val (.int (2 : Int32)), .val (.ref b102), .unset, .unset] [(.int (2 : Int32)), (.int (0 : Int32)), (.ref b102), (.int (0 : Int32)), (.ref a1)])) rfl (by rw [hml]; rfl) (argsL := [(.ref a1), (.int (0 : Int32)), (.ref b102), (.int (0 : Int32)), (.int (2 : Int32))]) (rest := []) (lenOf pd0 rfl) rfl (by show 2 * 0 + _ ≤ _; exact Nat.le_of_eq rfl) (hb hby d5_9) (fun _ _ => ⟨rfl, e102, (by decide : 1 + 0 ≤ _), (by decide : 2 + 0 ≤ _)⟩)
  dsimp only [Pt.U, Pt.locs, Pt.cells, Pt.slots] at X106 l106 y106 z106 st106 hQ106
  subst l106 y106 z106
  obtain ⟨rfl, N106q, q106_K, q106_V⟩ := hQ106
  have N106 := Fr.app N0 N106q
  have K107 : Keep h0 T106.heap [] := K103.trans q106_K (allS (Or.inr sz_b102) all0)
  have p108 : Go p.tables e below _ (T106.setTop (mkF m 58 #[.val (.ref a1), .val (.int (0 : Int32)), .val (.int (2 : Int32)), .val (.ref b102), .val (.int (2 : Int32)), .unset] [(.ref b102)])) := fun t_ k_ => (gc p104 st106) t_ (by
    refine XS.istore X106.here hx rfl (hb hby d5_12) rfl (l' := #[.val (.ref a1), .val (.int (0 : Int32)), .val (.int (2 : Int32)), .val (.ref b102), .val (.int (2 : Int32)), .unset]) rfl ?_
    refine XS.iload X106.here hx rfl (hb hby d5_14) rfl ?_
    refine XS.iloadN X106.here hx rfl (hb hby d5_16) rfl ?_
    refine XS.icmpYes X106.here hx rfl (pc0 := 17) (pc' := 57) rfl (hb hby d5_17) rfl (teq (by decide : ((2 : Int32) = (2 : Int32)))).1 (by decide) (by decide) ?_
    refine XS.aloadN X106.here hx rfl (hb hby d5_57) rfl rfl ?_
    exact k_)
  have f109 := (AE102.keep q106_K)
  obtain ⟨fs, hr, hrun, hended, hW, hsame⟩ := X106.leave (v := some (.ref b102)) (fun h => by rw [Bd.returns] at h; cases h)
  refine ⟨_, _, p108 _ (retOut X106 hx (w := (.ref b102)) (i := .areturn) Bd.returns rfl (Or.inr (Or.inr (Or.inr (Or.inr ⟨rfl, rfl, rfl⟩)))) (hb hby d5_58) hr), hrun, hended, _, _, rfl, ?_, ⟨_, rfl⟩, hW, hsame.mono (by decide) (by decide)⟩
  show Q5_L2 Z a1 k1 c0 c1 h0 n0 _ T106.heap _
  exact ⟨b102, k102, rfl, N106, K107, ge_b102, sz_b102, q106_V, f109⟩
theorem ef_rm7_L2 (m : MethodId) (a1 : Addr) (k1 : ClassId) (vs : List Value) : entryFrame m #[(.ref a1), (.int (2 : Int32))] 2 = mkF m 0 #[.val (.ref a1), .val (.int (2 : Int32))] [] := by first | (simp [entryFrame, mkF, argsToLocals, Value.category]; done) | rfl
def Q7_L2 (Z : State) (a1 : Addr) (k1 : ClassId) (vs : List Value) (h0 : Heap) (n0 : Nat) (v : Option Value) (h : Heap) (L : List Loc) : Prop := v = some (.int (0 : Int32)) ∧ Fr n0 L ∧ (h = h0)
set_option maxRecDepth 65536 in
set_option maxHeartbeats 40000000 in
theorem rm7_L2 (l : Launch) (Z : State) (a0 : Array Value) (hw : ∀ d ∈ tables_1, d.before a0 Z = true) (ws : List Jvm.Cond) (a1 : Addr) (k1 : ClassId) (vs : List Value) (h0 : Heap) (n0 : Nat) (Z0 : n0 ≤ h0.size) (V1 : Arv Z h0 a1 k1 .byte (2 : Int32) vs (.int (0 : Int32))) :
    MetFree l (⟨"java/lang/StringUTF16", "coderFromArrayLen", "([BI)B"⟩ : MethodName) (head1 (Jvm.Cond.code (⟨"java/lang/StringUTF16", "coderFromArrayLen", "([BI)B"⟩ : MethodName) jdk_52_method_15_code 2 (some .byte) :: ws) ({ frames := 0, cells := 0, slots := 0, locals := 0 } : Room)) (fun a U => a = #[(.ref a1), (.int (2 : Int32))] ∧ Z.Warmed39 U.vm ∧ U.heap = h0) (fun _ _ _ _ _ => True) (fun _ U o U' => ∃ v L, o = .returned v ∧ Q7_L2 Z a1 k1 vs h0 n0 v U'.heap L ∧ FrameEnd U o U' L ({ frames := 0, cells := 0, slots := 0, locals := 0 } : Room).cells ({ frames := 0, cells := 0, slots := 0, locals := 0 } : Room).slots) := by
  refine MetFree.of_bodySF pn7 hisR ?_
  intro p e s m args below meth c s₁ Bd hml0 hP hK
  obtain ⟨rfl, hZ, hh⟩ := hP
  have hx := Bd.exec
  have hby := Bd.bytes
  have hml : c.maxLocals = 2 := hml0
  have hown : s.vm.findClass "java/lang/StringUTF16" = some m.cls := findClass_of_methodNamed Bd.named
  have hnm := (name_of_methodNamed Bd.named Bd.method).1
  have X0 : Stand p l e ({ frames := 0, cells := 0, slots := 0, locals := 0 } : Room) s m #[(.ref a1), (.int (2 : Int32))] below meth c s₁ [] 0 0 := Stand.of_body Bd
  have e0 : s₁.heap = h0 := by rw [← hh, Bd.state]; rfl
  have N0 := Fr.nil n0
  have p0 : Go p.tables e below (s₁.setTop (entryFrame m #[(.ref a1), (.int (2 : Int32))] 2)) (s₁.setTop (mkF m 0 #[.val (.ref a1), .val (.int (2 : Int32))] [])) := fun t_ k_ => castTop (ef_rm7_L2 m a1 k1 vs) k_
  have p101 : Go p.tables e below _ (s₁.setTop (mkF m 2 #[.val (.ref a1), .val (.int (2 : Int32))] [(.ref a1), (.int (2 : Int32))])) := fun t_ k_ => p0 t_ (by
    refine XS.iloadN X0.here hx rfl (hb hby d7_0) rfl ?_
    refine XS.aloadN X0.here hx rfl (hb hby d7_1) rfl rfl ?_
    exact k_)
  obtain ⟨cl102, Ar102, -, S102, Ng102, -, -⟩ := id V1
  have p103 : Go p.tables e below _ (s₁.setTop (mkF m 8 #[.val (.ref a1), .val (.int (2 : Int32))] [(.int (0 : Int32))])) := fun t_ k_ => p101 t_ (by
    refine X0.arraylength hx (by rw [e0]; exact Ar102.1) (State.isArrayOf_alike hZ.alike Ar102.2.1) (g := (mkF m 2 #[.val (.ref a1), .val (.int (2 : Int32))] [(.ref a1), (.int (2 : Int32))])) rfl rfl (hb hby d7_2) _ ?_
    rw [len_of S102 Ng102]
    show Steps p.tables e below (s₁.setTop (mkF m 3 #[.val (.ref a1), .val (.int (2 : Int32))] [(.int (2 : Int32)), (.int (2 : Int32))])) _
    refine XS.isub X0.here hx rfl (hb hby d7_3) rfl ?_
    refine XS.bipush X0.here hx rfl (hb hby d7_4) ?_
    refine XS.iushr X0.here hx rfl (hb hby d7_6) rfl ?_
    refine XS.i2b X0.here hx rfl (hb hby d7_7) rfl ?_
    exact k_)
  obtain ⟨fs, hr, hrun, hended, hW, hsame⟩ := X0.leave (v := some (.int (0 : Int32))) (fun h => by rw [Bd.returns] at h; cases h)
  refine ⟨_, _, p103 _ (retN X0 hx (t := .byte) Bd.returns (by simp) (hb hby d7_8) hr), hrun, hended, _, _, rfl, ?_, ⟨_, rfl⟩, hW, hsame.mono (by decide) (by decide)⟩
  show Q7_L2 Z a1 k1 vs h0 n0 _ s₁.heap _
  rw [e0]
  exact ⟨rfl, N0, rfl⟩
theorem ef_rm3_L2 (m : MethodId) (a1 : Addr) (a2 : Addr) (k1 : ClassId) (c0 : Int32) (c1 : Int32) (cs1 : Int32) (fm : Value) : entryFrame m #[(.ref a1), (.ref a2), (.int (0 : Int32)), (.int (2 : Int32)), .null] 6 = mkF m 0 #[.val (.ref a1), .val (.ref a2), .val (.int (0 : Int32)), .val (.int (2 : Int32)), .val .null, .unset] [] := by first | (simp [entryFrame, mkF, argsToLocals, Value.category]; done) | rfl
def Q3_L2 (Z : State) (a1 : Addr) (a2 : Addr) (k1 : ClassId) (c0 : Int32) (c1 : Int32) (cs1 : Int32) (fm : Value) (h0 : Heap) (n0 : Nat) (v : Option Value) (h : Heap) (L : List Loc) : Prop := ∃ (b : Addr) (kb : ClassId), v = none ∧ Fr n0 L ∧ (Keep h0 h [a1]) ∧ (Exa Z h a1 "java/lang/String") ∧ (Fld Z h a1 "java/lang/String" "coder" "B" (.int (0 : Int32))) ∧ (Fld Z h a1 "java/lang/String" "value" "[B" (.ref b)) ∧ (Fld Z h a1 "java/lang/String" "hash" "I" (.int (0 : Int32))) ∧ (Fld Z h a1 "java/lang/String" "hashIsZero" "Z" (.int (0 : Int32))) ∧ (n0 ≤ b) ∧ (h0.size ≤ b) ∧ (Arv Z h b kb .byte (2 : Int32) [(.int (nar .byte (c0.toInt8.toInt32))), (.int (nar .byte (c1.toInt8.toInt32)))] (.int (0 : Int32))) ∧ (Exa Z h b "[B") ∧ (a1 ≠ b)
set_option maxRecDepth 65536 in
set_option maxHeartbeats 40000000 in
theorem rm3_L2 (l : Launch) (Z : State) (a0 : Array Value) (hw : ∀ d ∈ tables_1, d.before a0 Z = true) (ws : List Jvm.Cond) (a1 : Addr) (a2 : Addr) (k1 : ClassId) (c0 : Int32) (c1 : Int32) (cs1 : Int32) (fm : Value) (h0 : Heap) (n0 : Nat) (Z0 : n0 ≤ h0.size) (O1 : Old Z n0 h0) (G : own_G Z cs1 fm) (F1 : Fld Z h0 a1 "java/lang/String" "coder" "B" (.int (0 : Int32))) (F2 : Fld Z h0 a1 "java/lang/String" "value" "[B" .null) (xhash : Fld Z h0 a1 "java/lang/String" "hash" "I" (.int (0 : Int32))) (xhashIsZero : Fld Z h0 a1 "java/lang/String" "hashIsZero" "Z" (.int (0 : Int32))) (E1 : Exa Z h0 a1 "java/lang/String") (V1 : Arv Z h0 a2 k1 .char (2 : Int32) [(.int c0), (.int c1)] (.int (0 : Int32))) (ne : a1 ≠ a2) (g1 : n0 ≤ a1) (l0 : ¬ ((255 : Int32) < c0)) (l1 : ¬ ((255 : Int32) < c1)) :
    MetFree l (⟨"java/lang/String", "<init>", "([CIILjava/lang/Void;)V"⟩ : MethodName) (head1 (Jvm.Cond.code (⟨"java/lang/String", "<init>", "([CIILjava/lang/Void;)V"⟩ : MethodName) jdk_42_method_149_code 6 none :: ws) ({ frames := 2, cells := 1, slots := 2, locals := 35 } : Room)) (fun a U => a = #[(.ref a1), (.ref a2), (.int (0 : Int32)), (.int (2 : Int32)), .null] ∧ Z.Warmed39 U.vm ∧ U.heap = h0) (fun _ _ _ _ _ => True) (fun _ U o U' => ∃ v L, o = .returned v ∧ Q3_L2 Z a1 a2 k1 c0 c1 cs1 fm h0 n0 v U'.heap L ∧ FrameEnd U o U' L ({ frames := 2, cells := 1, slots := 2, locals := 35 } : Room).cells ({ frames := 2, cells := 1, slots := 2, locals := 35 } : Room).slots) := by
  refine MetFree.of_bodySF pn3 hisR ?_
  intro p e s m args below meth c s₁ Bd hml0 hP hK
  obtain ⟨rfl, hZ, hh⟩ := hP
  have hx := Bd.exec
  have hby := Bd.bytes
  have hml : c.maxLocals = 6 := hml0
  have hown : s.vm.findClass "java/lang/String" = some m.cls := findClass_of_methodNamed Bd.named
  have hnm := (name_of_methodNamed Bd.named Bd.method).1
  have X0 : Stand p l e ({ frames := 2, cells := 1, slots := 2, locals := 35 } : Room) s m #[(.ref a1), (.ref a2), (.int (0 : Int32)), (.int (2 : Int32)), .null] below meth c s₁ [] 0 0 := Stand.of_body Bd
  have e0 : s₁.heap = h0 := by rw [← hh, Bd.state]; rfl
  have N0 := Fr.nil n0
  have p0 : Go p.tables e below (s₁.setTop (entryFrame m #[(.ref a1), (.ref a2), (.int (0 : Int32)), (.int (2 : Int32)), .null] 6)) (s₁.setTop (mkF m 0 #[.val (.ref a1), .val (.ref a2), .val (.int (0 : Int32)), .val (.int (2 : Int32)), .val .null, .unset] [])) := fun t_ k_ => castTop (ef_rm3_L2 m a1 a2 k1 c0 c1 cs1 fm) k_
  have p101 : Go p.tables e below _ (s₁.setTop (mkF m 1 #[.val (.ref a1), .val (.ref a2), .val (.int (0 : Int32)), .val (.int (2 : Int32)), .val .null, .unset] [(.ref a1)])) := fun t_ k_ => p0 t_ (by
    refine XS.aloadN X0.here hx rfl (hb hby d3_0) rfl rfl ?_
    exact k_)
  obtain ⟨T102, X102, e102, st102⟩ := initO X0 hx hZ hown (own_w hw 16 rfl) (own_w hw 17 rfl) (own_w hw 18 rfl) e0 (g := (mkF m 1 #[.val (.ref a1), .val (.ref a2), .val (.int (0 : Int32)), .val (.int (2 : Int32)), .val .null, .unset] [(.ref a1)])) rfl (by rw [hml]; rfl) rfl (hb hby d3_1) (by decide) (W := 0) (by show 2 * 0 + _ ≤ _; exact Nat.le_of_eq rfl) (by decide)
  have p103 : Go p.tables e below _ (T102.setTop (mkF m 27 #[.val (.ref a1), .val (.ref a2), .val (.int (0 : Int32)), .val (.int (2 : Int32)), .val .null, .unset] [])) := fun t_ k_ => (gc p101 st102) t_ (by
    refine XS.iloadN X102.here hx rfl (hb hby d3_4) rfl ?_
    refine XS.ifYes X102.here hx rfl (pc0 := 5) (pc' := 27) rfl (hb hby d3_5) rfl ((if0 _ _).trans (feq (by decide : ¬ ((2 : Int32) = (0 : Int32)))).2) (by decide) (by decide) ?_
    exact k_)
  obtain ⟨T104, X104, e104, st104⟩ := getS2 X102 hx hZ hown (host := "") (Or.inl (own_w hw 19 rfl)) Via.refl e102 (G.1.ext O1.2) (g := (mkF m 27 #[.val (.ref a1), .val (.ref a2), .val (.int (0 : Int32)), .val (.int (2 : Int32)), .val .null, .unset] [])) rfl (hb hby d3_27)
  have c105 : ¬ (cs1 = (0 : Int32)) := G.2.1
  have p106 : Go p.tables e below _ (T104.setTop (mkF m 36 #[.val (.ref a1), .val (.ref a2), .val (.int (0 : Int32)), .val (.int (2 : Int32)), .val .null, .unset] [(.int (2 : Int32)), (.int (0 : Int32)), (.ref a2)])) := fun t_ k_ => (gc p103 st104) t_ (by
    refine XS.ifNo X104.here hx rfl (hb hby d3_30) rfl ((if0 _ _).trans (feq c105).1) ?_
    refine XS.aloadN X104.here hx rfl (hb hby d3_33) rfl rfl ?_
    refine XS.iloadN X104.here hx rfl (hb hby d3_34) rfl ?_
    refine XS.iloadN X104.here hx rfl (hb hby d3_35) rfl ?_
    exact k_)
  obtain ⟨_, _, ⟨T107, L107, k107, n107⟩, -, X107, ⟨Lc107, hQ107, l107, y107, z107⟩, st107⟩ := Jvm.LawKit.callS X104 hx (y := (⟨"java/lang/StringUTF16", "compress", "([CII)[B"⟩ : MethodName)) hown (mvT hZ (own_w hw 20 rfl)) (mvT hZ (own_w hw 21 rfl)) (mvT hZ (own_w hw 22 rfl)) (mvT hZ (own_w hw 23 rfl)) (by decide) (backOf (W := 0) (rm5_L2 l Z a0 hw [] a2 k1 c0 c1 h0 n0 (Nat.le_trans Z0 (Keep.refl h0 [a1]).1) V1 l0 l1) hZ (own_w hw 23 rfl) (own_w hw 22 rfl) (by decide) (by decide)) (g := (mkF m 36 #[.val (.ref a1), .val (.ref a2), .val (.int (0 : Int32)), .val (.int (2 : Int32)), .val .null, .unset] [(.int (2 : Int32)), (.int (0 : Int32)), (.ref a2)])) rfl (by rw [hml]; rfl) (argsL := [(.ref a2), (.int (0 : Int32)), (.int (2 : Int32))]) (rest := []) (lenOf pd1 rfl) rfl (by show 2 * 0 + _ ≤ _; exact Nat.le_of_eq rfl) (hb hby d3_36) (fun _ _ => ⟨rfl, e104, (by decide : 0 + 1 ≤ _), (by decide : 0 + 2 ≤ _)⟩)
  dsimp only [Pt.U, Pt.locs, Pt.cells, Pt.slots] at X107 l107 y107 z107 st107 hQ107
  subst l107 y107 z107
  obtain ⟨x108, x109, rfl, N107q, q107_K, q107_g, q107_z, q107_V, q107_xb⟩ := hQ107
  have N107 := Fr.app N0 N107q
  have K110 : Keep h0 T107.heap [a1] := (Keep.refl h0 [a1]).trans q107_K all0
  have ne_a1_x108 : a1 ≠ x108 := Nat.ne_of_lt (Nat.lt_of_lt_of_le E1.lt q107_z)
  have ne_a2_x108 : a2 ≠ x108 := Nat.ne_of_lt (Nat.lt_of_lt_of_le V1.lt q107_z)
  have p111 : Go p.tables e below _ (T107.setTop (mkF m 45 #[.val (.ref a1), .val (.ref a2), .val (.int (0 : Int32)), .val (.int (2 : Int32)), .val .null, .val (.ref x108)] [(.int (2 : Int32)), (.ref x108), (.ref a1)])) := fun t_ k_ => (gc p106 st107) t_ (by
    refine XS.astore X107.here hx rfl (hb hby d3_39) rfl rfl (l' := #[.val (.ref a1), .val (.ref a2), .val (.int (0 : Int32)), .val (.int (2 : Int32)), .val .null, .val (.ref x108)]) rfl ?_
    refine XS.aloadN X107.here hx rfl (hb hby d3_41) rfl rfl ?_
    refine XS.aload X107.here hx rfl (hb hby d3_42) rfl rfl ?_
    refine XS.iloadN X107.here hx rfl (hb hby d3_44) rfl ?_
    exact k_)
  obtain ⟨_, _, ⟨T112, L112, k112, n112⟩, -, X112, ⟨Lc112, hQ112, l112, y112, z112⟩, st112⟩ := Jvm.LawKit.callS X107 hx (y := (⟨"java/lang/StringUTF16", "coderFromArrayLen", "([BI)B"⟩ : MethodName)) hown (mvT hZ (own_w hw 28 rfl)) (mvT hZ (own_w hw 29 rfl)) (mvT hZ (own_w hw 22 rfl)) (mvT hZ (own_w hw 30 rfl)) (by decide) (backOf (W := 1) (rm7_L2 l Z a0 hw [] x108 x109 [(.int (nar .byte (c0.toInt8.toInt32))), (.int (nar .byte (c1.toInt8.toInt32)))] T107.heap n0 (Nat.le_trans Z0 K110.1) q107_V) hZ (own_w hw 30 rfl) (own_w hw 22 rfl) (by decide) (by decide)) (g := (mkF m 45 #[.val (.ref a1), .val (.ref a2), .val (.int (0 : Int32)), .val (.int (2 : Int32)), .val .null, .val (.ref x108)] [(.int (2 : Int32)), (.ref x108), (.ref a1)])) rfl (by rw [hml]; rfl) (argsL := [(.ref x108), (.int (2 : Int32))]) (rest := [(.ref a1)]) (lenOf pd2 rfl) rfl (by show 2 * 0 + _ ≤ _; exact Nat.le_of_eq rfl) (hb hby d3_45) (fun _ _ => ⟨rfl, rfl, (by decide : 1 + 0 ≤ _), (by decide : 2 + 0 ≤ _)⟩)
  dsimp only [Pt.U, Pt.locs, Pt.cells, Pt.slots] at X112 l112 y112 z112 st112 hQ112
  subst l112 y112 z112
  obtain ⟨rfl, N112q, q112_hh⟩ := hQ112
  have N112 := Fr.app N107 N112q
  have f113 := (F1.keep q107_K nin0)
  have f114 := (E1.keep q107_K)
  obtain ⟨T115, h115, X115, e115, W115, st115⟩ := putFN X112 hx hZ hown (own_w hw 31 rfl) Via.refl q112_hh f113 f114 (Or.inr ⟨(own_w hw 32 rfl), rfl, hnm⟩) (own_w hw 6 rfl) (ty := .byte) (v' := (.int (0 : Int32))) (by decide) rfl (by decide) (g := (mkF m 48 #[.val (.ref a1), .val (.ref a2), .val (.int (0 : Int32)), .val (.int (2 : Int32)), .val .null, .val (.ref x108)] [(.int (0 : Int32)), (.ref a1)])) rfl rfl (hb hby d3_48)
  have K116 : Keep h0 h115 [a1] := K110.wr W115 (Or.inl (List.mem_of_getElem? (i := 0) rfl))
  have N115 := Fr.snoc X115 N112 g1
  have F115 : Fld Z h115 a1 "java/lang/String" "coder" "B" (.int (0 : Int32)) := f113.same W115
  have p117 : Go p.tables e below _ (T115.setTop (mkF m 54 #[.val (.ref a1), .val (.ref a2), .val (.int (0 : Int32)), .val (.int (2 : Int32)), .val .null, .val (.ref x108)] [(.ref x108), (.ref a1)])) := fun t_ k_ => (gc (gc p111 st112) st115) t_ (by
    refine XS.aloadN X115.here hx rfl (hb hby d3_51) rfl rfl ?_
    refine XS.aload X115.here hx rfl (hb hby d3_52) rfl rfl ?_
    exact k_)
  have f118 := ((F2.keep q107_K nin0).other W115 (Or.inr (slot_ne (Or.inr (own_w hw 34 rfl)) (Or.inr (own_w hw 32 rfl)) (by decide) (t := (.array .byte)) (t' := .byte) (by decide) (by decide))))
  have f119 := (f114.wr W115)
  obtain ⟨T120, h120, X120, e120, W120, st120⟩ := putF X115 hx hZ hown (host := "") (Or.inl (own_w hw 33 rfl)) Via.refl e115 f118 f119 (Or.inr ⟨(own_w hw 34 rfl), rfl, hnm⟩) (own_w hw 6 rfl) (ty := (.array .byte)) (by decide) rfl rfl (g := (mkF m 54 #[.val (.ref a1), .val (.ref a2), .val (.int (0 : Int32)), .val (.int (2 : Int32)), .val .null, .val (.ref x108)] [(.ref x108), (.ref a1)])) rfl rfl (hb hby d3_54)
  have K121 : Keep h0 h120 [a1] := K116.wr W120 (Or.inl (List.mem_of_getElem? (i := 0) rfl))
  have N120 := Fr.snoc X120 N115 g1
  have F120 : Fld Z h120 a1 "java/lang/String" "value" "[B" (.ref x108) := f118.same W120
  have f122 := (f119.wr W120)
  have f123 := (F115.other W120 (Or.inr (slot_ne (Or.inr (own_w hw 32 rfl)) (Or.inr (own_w hw 34 rfl)) (by decide) (t := .byte) (t' := (.array .byte)) (by decide) (by decide))))
  have f124 := (((xhash.keep q107_K nin0).other W115 (Or.inr (slot_ne (Or.inl (own_w hw 57 rfl)) (Or.inr (own_w hw 32 rfl)) (by decide) (t := .int) (t' := .byte) (by decide) (by decide)))).other W120 (Or.inr (slot_ne (Or.inl (own_w hw 57 rfl)) (Or.inr (own_w hw 34 rfl)) (by decide) (t := .int) (t' := (.array .byte)) (by decide) (by decide))))
  have f125 := (((xhashIsZero.keep q107_K nin0).other W115 (Or.inr (slot_ne (Or.inl (own_w hw 59 rfl)) (Or.inr (own_w hw 32 rfl)) (by decide) (t := .boolean) (t' := .byte) (by decide) (by decide)))).other W120 (Or.inr (slot_ne (Or.inl (own_w hw 59 rfl)) (Or.inr (own_w hw 34 rfl)) (by decide) (t := .boolean) (t' := (.array .byte)) (by decide) (by decide))))
  have f126 := ((q107_V.other W115 (Ne.symm ne_a1_x108)).other W120 (Ne.symm ne_a1_x108))
  have f127 := ((q107_xb.wr W115).wr W120)
  obtain ⟨fs, hr, hrun, hended, hW, hsame⟩ := X120.leave (v := none) (fun _ => rfl)
  refine ⟨_, _, (gc p117 st120) _ (X120.returnOut hx Bd.returns (hb hby d3_57) hr), hrun, hended, _, _, rfl, ?_, ⟨_, rfl⟩, hW, hsame.mono (by decide) (by decide)⟩
  show Q3_L2 Z a1 a2 k1 c0 c1 cs1 fm h0 n0 _ T120.heap _
  rw [e120]
  exact ⟨x108, x109, rfl, N120, K121, f122, f123, F120, f124, f125, q107_g, (Nat.le_trans (Keep.refl h0 [a1]).1 q107_z), f126, f127, ne_a1_x108⟩
theorem ef_rm2_L2 (m : MethodId) (a1 : Addr) (a2 : Addr) (k1 : ClassId) (c0 : Int32) (c1 : Int32) (cs1 : Int32) (fm : Value) : entryFrame m #[(.ref a1), (.ref a2)] 2 = mkF m 0 #[.val (.ref a1), .val (.ref a2)] [] := by first | (simp [entryFrame, mkF, argsToLocals, Value.category]; done) | rfl
def Q2_L2 (Z : State) (a1 : Addr) (a2 : Addr) (k1 : ClassId) (c0 : Int32) (c1 : Int32) (cs1 : Int32) (fm : Value) (h0 : Heap) (n0 : Nat) (v : Option Value) (h : Heap) (L : List Loc) : Prop := ∃ (b : Addr) (kb : ClassId), v = none ∧ Fr n0 L ∧ (Keep h0 h [a1]) ∧ (Exa Z h a1 "java/lang/String") ∧ (Fld Z h a1 "java/lang/String" "coder" "B" (.int (0 : Int32))) ∧ (Fld Z h a1 "java/lang/String" "value" "[B" (.ref b)) ∧ (Fld Z h a1 "java/lang/String" "hash" "I" (.int (0 : Int32))) ∧ (Fld Z h a1 "java/lang/String" "hashIsZero" "Z" (.int (0 : Int32))) ∧ (n0 ≤ b) ∧ (h0.size ≤ b) ∧ (Arv Z h b kb .byte (2 : Int32) [(.int (nar .byte (c0.toInt8.toInt32))), (.int (nar .byte (c1.toInt8.toInt32)))] (.int (0 : Int32))) ∧ (Exa Z h b "[B") ∧ (a1 ≠ b)
set_option maxRecDepth 65536 in
set_option maxHeartbeats 40000000 in
theorem rm2_L2 (l : Launch) (Z : State) (a0 : Array Value) (hw : ∀ d ∈ tables_1, d.before a0 Z = true) (ws : List Jvm.Cond) (a1 : Addr) (a2 : Addr) (k1 : ClassId) (c0 : Int32) (c1 : Int32) (cs1 : Int32) (fm : Value) (h0 : Heap) (n0 : Nat) (Z0 : n0 ≤ h0.size) (O1 : Old Z n0 h0) (G : own_G Z cs1 fm) (F1 : Fld Z h0 a1 "java/lang/String" "coder" "B" (.int (0 : Int32))) (F2 : Fld Z h0 a1 "java/lang/String" "value" "[B" .null) (xhash : Fld Z h0 a1 "java/lang/String" "hash" "I" (.int (0 : Int32))) (xhashIsZero : Fld Z h0 a1 "java/lang/String" "hashIsZero" "Z" (.int (0 : Int32))) (E1 : Exa Z h0 a1 "java/lang/String") (V1 : Arv Z h0 a2 k1 .char (2 : Int32) [(.int c0), (.int c1)] (.int (0 : Int32))) (ne : a1 ≠ a2) (g1 : n0 ≤ a1) (l0 : ¬ ((255 : Int32) < c0)) (l1 : ¬ ((255 : Int32) < c1)) :
    MetFree l (⟨"java/lang/String", "<init>", "([C)V"⟩ : MethodName) (head1 (Jvm.Cond.code (⟨"java/lang/String", "<init>", "([C)V"⟩ : MethodName) jdk_42_method_3_code 2 none :: ws) ({ frames := 3, cells := 1, slots := 2, locals := 52 } : Room)) (fun a U => a = #[(.ref a1), (.ref a2)] ∧ Z.Warmed39 U.vm ∧ U.heap = h0) (fun _ _ _ _ _ => True) (fun _ U o U' => ∃ v L, o = .returned v ∧ Q2_L2 Z a1 a2 k1 c0 c1 cs1 fm h0 n0 v U'.heap L ∧ FrameEnd U o U' L ({ frames := 3, cells := 1, slots := 2, locals := 52 } : Room).cells ({ frames := 3, cells := 1, slots := 2, locals := 52 } : Room).slots) := by
  refine MetFree.of_bodySF pn2 hisR ?_
  intro p e s m args below meth c s₁ Bd hml0 hP hK
  obtain ⟨rfl, hZ, hh⟩ := hP
  have hx := Bd.exec
  have hby := Bd.bytes
  have hml : c.maxLocals = 2 := hml0
  have hown : s.vm.findClass "java/lang/String" = some m.cls := findClass_of_methodNamed Bd.named
  have hnm := (name_of_methodNamed Bd.named Bd.method).1
  have X0 : Stand p l e ({ frames := 3, cells := 1, slots := 2, locals := 52 } : Room) s m #[(.ref a1), (.ref a2)] below meth c s₁ [] 0 0 := Stand.of_body Bd
  have e0 : s₁.heap = h0 := by rw [← hh, Bd.state]; rfl
  have N0 := Fr.nil n0
  have p0 : Go p.tables e below (s₁.setTop (entryFrame m #[(.ref a1), (.ref a2)] 2)) (s₁.setTop (mkF m 0 #[.val (.ref a1), .val (.ref a2)] [])) := fun t_ k_ => castTop (ef_rm2_L2 m a1 a2 k1 c0 c1 cs1 fm) k_
  have p101 : Go p.tables e below _ (s₁.setTop (mkF m 4 #[.val (.ref a1), .val (.ref a2)] [(.ref a2), (.int (0 : Int32)), (.ref a2), (.ref a1)])) := fun t_ k_ => p0 t_ (by
    refine XS.aloadN X0.here hx rfl (hb hby d2_0) rfl rfl ?_
    refine XS.aloadN X0.here hx rfl (hb hby d2_1) rfl rfl ?_
    refine XS.iconst X0.here hx rfl (hb hby d2_2) ?_
    refine XS.aloadN X0.here hx rfl (hb hby d2_3) rfl rfl ?_
    exact k_)
  obtain ⟨cl102, Ar102, -, S102, Ng102, -, -⟩ := id V1
  have p103 : Go p.tables e below _ (s₁.setTop (mkF m 6 #[.val (.ref a1), .val (.ref a2)] [.null, (.int (2 : Int32)), (.int (0 : Int32)), (.ref a2), (.ref a1)])) := fun t_ k_ => p101 t_ (by
    refine X0.arraylength hx (by rw [e0]; exact Ar102.1) (State.isArrayOf_alike hZ.alike Ar102.2.1) (g := (mkF m 4 #[.val (.ref a1), .val (.ref a2)] [(.ref a2), (.int (0 : Int32)), (.ref a2), (.ref a1)])) rfl rfl (hb hby d2_4) _ ?_
    rw [len_of S102 Ng102]
    show Steps p.tables e below (s₁.setTop (mkF m 5 #[.val (.ref a1), .val (.ref a2)] [(.int (2 : Int32)), (.int (0 : Int32)), (.ref a2), (.ref a1)])) _
    refine XS.aconstNull X0.here hx rfl (hb hby d2_5) ?_
    exact k_)
  obtain ⟨_, _, ⟨T104, L104, k104, n104⟩, -, X104, ⟨Lc104, hQ104, l104, y104, z104⟩, st104⟩ := X0.specialBack hx (y := (⟨"java/lang/String", "<init>", "([CIILjava/lang/Void;)V"⟩ : MethodName)) rfl hown (mvT hZ (own_w hw 12 rfl)) (mvT hZ (own_w hw 13 rfl)) (mvT hZ (own_w hw 15 rfl)) (by decide) (backOf (W := 0) (rm3_L2 l Z a0 hw [] a1 a2 k1 c0 c1 cs1 fm h0 n0 (Nat.le_trans Z0 (Keep.refl h0 [a1]).1) O1 G F1 F2 xhash xhashIsZero E1 V1 ne g1 l0 l1) hZ (own_w hw 15 rfl) (own_w hw 7 rfl) (by decide) (by decide)) (g := (mkF m 6 #[.val (.ref a1), .val (.ref a2)] [.null, (.int (2 : Int32)), (.int (0 : Int32)), (.ref a2), (.ref a1)])) rfl (by rw [hml]; rfl) (Steps.refl _) (a := a1) (argsL := [(.ref a2), (.int (0 : Int32)), (.int (2 : Int32)), .null]) (rest := []) (lenOf pd3 rfl) rfl (by show 2 * 0 + _ ≤ _; exact Nat.le_of_eq rfl) (hb hby d2_6) (fun _ _ => ⟨rfl, e0, (by decide : 0 + 1 ≤ _), (by decide : 0 + 2 ≤ _)⟩)
  dsimp only [Pt.U, Pt.locs, Pt.cells, Pt.slots] at X104 l104 y104 z104 st104 hQ104
  subst l104 y104 z104
  obtain ⟨x105, x106, rfl, N104q, q104_K, q104_E, q104_c, q104_v, q104_xhash, q104_xhashIsZero, q104_g, q104_z, q104_V, q104_xb, q104_n⟩ := hQ104
  have N104 := Fr.app N0 N104q
  have K107 : Keep h0 T104.heap [a1] := (Keep.refl h0 [a1]).trans q104_K (allS (Or.inl (List.mem_of_getElem? (i := 0) rfl)) all0)
  have ne_a1_x105 : a1 ≠ x105 := Nat.ne_of_lt (Nat.lt_of_lt_of_le E1.lt q104_z)
  have ne_a2_x105 : a2 ≠ x105 := Nat.ne_of_lt (Nat.lt_of_lt_of_le V1.lt q104_z)
  obtain ⟨fs, hr, hrun, hended, hW, hsame⟩ := X104.leave (v := none) (fun _ => rfl)
  refine ⟨_, _, (gcT p103 st104) _ (X104.returnOut hx Bd.returns (hb hby d2_9) hr), hrun, hended, _, _, rfl, ?_, ⟨_, rfl⟩, hW, hsame.mono (by decide) (by decide)⟩
  show Q2_L2 Z a1 a2 k1 c0 c1 cs1 fm h0 n0 _ T104.heap _
  exact ⟨x105, x106, rfl, N104, K107, q104_E, q104_c, q104_v, q104_xhash, q104_xhashIsZero, q104_g, (Nat.le_trans (Keep.refl h0 [a1]).1 q104_z), q104_V, q104_xb, q104_n⟩
theorem d1_20 : decode method_2_code 20 = .ok (.new 7, 3) := by decide +kernel
theorem d1_23 : decode method_2_code 23 = .ok (.dup, 1) := by decide +kernel
theorem d1_24 : decode method_2_code 24 = .ok (.iconst 2, 1) := by decide +kernel
theorem d1_25 : decode method_2_code 25 = .ok (.newarray .char, 2) := by decide +kernel
theorem d1_27 : decode method_2_code 27 = .ok (.dup, 1) := by decide +kernel
theorem d1_28 : decode method_2_code 28 = .ok (.iconst 0, 1) := by decide +kernel
theorem d1_29 : decode method_2_code 29 = .ok (.iload_n 1, 1) := by decide +kernel
theorem d1_30 : decode method_2_code 30 = .ok (.castore, 1) := by decide +kernel
theorem d1_31 : decode method_2_code 31 = .ok (.dup, 1) := by decide +kernel
theorem d1_32 : decode method_2_code 32 = .ok (.iconst 1, 1) := by decide +kernel
theorem d1_33 : decode method_2_code 33 = .ok (.iload_n 2, 1) := by decide +kernel
theorem d1_34 : decode method_2_code 34 = .ok (.castore, 1) := by decide +kernel
theorem d1_35 : decode method_2_code 35 = .ok (.invokespecial 9, 3) := by decide +kernel
theorem d1_38 : decode method_2_code 38 = .ok (.areturn, 1) := by decide +kernel
theorem ef_rm1_2 (m : MethodId) (p2 : Int32) (p3 : Int32) (cs1 : Int32) (fm : Value) : entryFrame m #[(.int (2 : Int32)), (.int p2), (.int p3)] 3 = mkF m 0 #[.val (.int (2 : Int32)), .val (.int p2), .val (.int p3)] [] := by first | (simp [entryFrame, mkF, argsToLocals, Value.category]; done) | rfl
def Q1_2 (Z : State) (p2 : Int32) (p3 : Int32) (cs1 : Int32) (fm : Value) (h0 : Heap) (n0 : Nat) (v : Option Value) (h : Heap) (L : List Loc) : Prop := ∃ (a : Addr) (b : Addr) (kb : ClassId), v = some (.ref a) ∧ Fr n0 L ∧ (Keep h0 h []) ∧ (Exa Z h a "java/lang/String") ∧ (Fld Z h a "java/lang/String" "coder" "B" (.int (0 : Int32))) ∧ (Fld Z h a "java/lang/String" "value" "[B" (.ref b)) ∧ (Fld Z h a "java/lang/String" "hash" "I" (.int (0 : Int32))) ∧ (Fld Z h a "java/lang/String" "hashIsZero" "Z" (.int (0 : Int32))) ∧ (n0 ≤ a) ∧ (h0.size ≤ a) ∧ (n0 ≤ b) ∧ (h0.size ≤ b) ∧ (Arv Z h b kb .byte (2 : Int32) [(.int (nar .byte ((nar .char p2).toInt8.toInt32))), (.int (nar .byte ((nar .char p3).toInt8.toInt32)))] (.int (0 : Int32))) ∧ (Exa Z h b "[B") ∧ (a ≠ b)
set_option maxRecDepth 65536 in
set_option maxHeartbeats 40000000 in
theorem rm1_2 (l : Launch) (Z : State) (a0 : Array Value) (hw : ∀ d ∈ tables_1, d.before a0 Z = true) (ws : List Jvm.Cond) (p2 : Int32) (p3 : Int32) (cs1 : Int32) (fm : Value) (h0 : Heap) (n0 : Nat) (Z0 : n0 ≤ h0.size) (O1 : Old Z n0 h0) (G : own_G Z cs1 fm) (r0 : ¬ ((255 : Int32) < nar .char p2)) (r1 : ¬ ((255 : Int32) < nar .char p3)) :
    MetFree l (⟨"com/example/kuusi/kuusi/core/SymbolEqualsPinLaw", "mk", "(ICC)Ljava/lang/String;"⟩ : MethodName) (head1 (Jvm.Cond.code (⟨"com/example/kuusi/kuusi/core/SymbolEqualsPinLaw", "mk", "(ICC)Ljava/lang/String;"⟩ : MethodName) method_2_code 3 (some (.object "java/lang/String")) :: ws) ({ frames := 4, cells := 3, slots := 8, locals := 66 } : Room)) (fun a U => a = #[(.int (2 : Int32)), (.int p2), (.int p3)] ∧ Z.Warmed39 U.vm ∧ U.heap = h0) (fun _ _ _ _ _ => True) (fun _ U o U' => ∃ v L, o = .returned v ∧ Q1_2 Z p2 p3 cs1 fm h0 n0 v U'.heap L ∧ FrameEnd U o U' L ({ frames := 4, cells := 3, slots := 8, locals := 66 } : Room).cells ({ frames := 4, cells := 3, slots := 8, locals := 66 } : Room).slots) := by
  refine MetFree.of_bodySF pn1 hisR ?_
  intro p e s m args below meth c s₁ Bd hml0 hP hK
  obtain ⟨rfl, hZ, hh⟩ := hP
  have hx := Bd.exec
  have hby := Bd.bytes
  have hml : c.maxLocals = 3 := hml0
  have hown : s.vm.findClass "com/example/kuusi/kuusi/core/SymbolEqualsPinLaw" = some m.cls := findClass_of_methodNamed Bd.named
  have hnm := (name_of_methodNamed Bd.named Bd.method).1
  have X0 : Stand p l e ({ frames := 4, cells := 3, slots := 8, locals := 66 } : Room) s m #[(.int (2 : Int32)), (.int p2), (.int p3)] below meth c s₁ [] 0 0 := Stand.of_body Bd
  have e0 : s₁.heap = h0 := by rw [← hh, Bd.state]; rfl
  have N0 := Fr.nil n0
  have p0 : Go p.tables e below (s₁.setTop (entryFrame m #[(.int (2 : Int32)), (.int p2), (.int p3)] 3)) (s₁.setTop (mkF m 0 #[.val (.int (2 : Int32)), .val (.int p2), .val (.int p3)] [])) := fun t_ k_ => castTop (ef_rm1_2 m p2 p3 cs1 fm) k_
  have p101 : Go p.tables e below _ (s₁.setTop (mkF m 20 #[.val (.int (2 : Int32)), .val (.int p2), .val (.int p3)] [])) := fun t_ k_ => p0 t_ (by
    refine XS.iloadN X0.here hx rfl (hb hby d1_0) rfl ?_
    refine XS.iconst X0.here hx rfl (hb hby d1_1) ?_
    refine XS.icmpYes X0.here hx rfl (pc0 := 2) (pc' := 20) rfl (hb hby d1_2) rfl (feq (by decide : ¬ ((2 : Int32) = (1 : Int32)))).2 (by decide) (by decide) ?_
    exact k_)
  obtain ⟨T102, h102, X102, e102, E102, A102, D102, -, st102⟩ := newO X0 hx hZ hown (own_w hw 5 rfl) (own_w hw 6 rfl) (own_w hw 7 rfl) e0 (g := (mkF m 20 #[.val (.int (2 : Int32)), .val (.int p2), .val (.int p3)] [])) rfl (hb hby d1_20) (by decide) (by decide)
  obtain ⟨b102, g102⟩ : ∃ z, z = h0.size := ⟨_, rfl⟩
  rw [← g102] at A102 D102 st102
  have ge_b102 : n0 ≤ b102 := Nat.le_trans (Nat.le_trans Z0 (Keep.refl h0 []).1) (Nat.le_of_eq g102.symm)
  have sz_b102 : h0.size ≤ b102 := Nat.le_trans (Keep.refl h0 []).1 (Nat.le_of_eq g102.symm)
  have K103 : Keep h0 h102 [] := (Keep.refl h0 []).ext E102
  have F102_coder : Fld Z h102 b102 "java/lang/String" "coder" "B" (.int (0 : Int32)) := D102 (Or.inr (own_w hw 32 rfl)) (ty := .byte) (by decide)
  have F102_value : Fld Z h102 b102 "java/lang/String" "value" "[B" .null := D102 (Or.inr (own_w hw 34 rfl)) (ty := (.array .byte)) (by decide)
  have F102_hash : Fld Z h102 b102 "java/lang/String" "hash" "I" (.int (0 : Int32)) := D102 (Or.inl (own_w hw 57 rfl)) (ty := .int) (by decide)
  have F102_hashIsZero : Fld Z h102 b102 "java/lang/String" "hashIsZero" "Z" (.int (0 : Int32)) := D102 (Or.inl (own_w hw 59 rfl)) (ty := .boolean) (by decide)
  have p104 : Go p.tables e below _ (T102.setTop (mkF m 25 #[.val (.int (2 : Int32)), .val (.int p2), .val (.int p3)] [(.int (2 : Int32)), (.ref b102), (.ref b102)])) := fun t_ k_ => (gc p101 st102) t_ (by
    refine XS.dup X102.here hx rfl (hb hby d1_23) rfl rfl ?_
    refine XS.iconst X102.here hx rfl (hb hby d1_24) ?_
    exact k_)
  obtain ⟨T105, h105, k105, X105, e105, E105, A105, AE105, st105⟩ := newPE X102 hx hZ (own_w hw 8 rfl) e102 (g := (mkF m 25 #[.val (.int (2 : Int32)), .val (.int p2), .val (.int p3)] [(.int (2 : Int32)), (.ref b102), (.ref b102)])) rfl (hb hby d1_25) rfl (by decide) (cap := 2) (by decide) (by decide) (by decide) (by decide) (ad := "[C") (by decide)
  obtain ⟨b105, g105⟩ : ∃ z, z = h102.size := ⟨_, rfl⟩
  rw [← g105] at A105 AE105 st105
  have ne_b102_b105 : b102 ≠ b105 := Nat.ne_of_lt (Nat.lt_of_lt_of_le A102.lt (Nat.le_of_eq g105.symm))
  have ge_b105 : n0 ≤ b105 := Nat.le_trans (Nat.le_trans Z0 K103.1) (Nat.le_of_eq g105.symm)
  have sz_b105 : h0.size ≤ b105 := Nat.le_trans K103.1 (Nat.le_of_eq g105.symm)
  have K106 : Keep h0 h105 [] := K103.ext E105
  have V105 : Arv Z h105 b105 k105 .char (2 : Int32) [(.int (0 : Int32)), (.int (0 : Int32))] (.int (0 : Int32)) := (Arv.new A105 (by decide)).pad (pad_rep [] (.int (0 : Int32)) 2)
  have p107 : Go p.tables e below _ (T105.setTop (mkF m 30 #[.val (.int (2 : Int32)), .val (.int p2), .val (.int p3)] [(.int p2), (.int (0 : Int32)), (.ref b105), (.ref b105), (.ref b102), (.ref b102)])) := fun t_ k_ => (gc p104 st105) t_ (by
    refine XS.dup X105.here hx rfl (hb hby d1_27) rfl rfl ?_
    refine XS.iconst X105.here hx rfl (hb hby d1_28) ?_
    refine XS.iloadN X105.here hx rfl (hb hby d1_29) rfl ?_
    exact k_)
  obtain ⟨cl108, Ar108, q108, S108, Ng108, H108, G108⟩ := id V105
  have hin108 := inb_of S108 (j := (0 : Int32)) ⟨by decide, by decide⟩
  obtain ⟨T108, h108, X108, e108, W108, st108⟩ := stC X105 hx hZ e105 Ar108 (j := (0 : Int32)) hin108 (g := (mkF m 30 #[.val (.int (2 : Int32)), .val (.int p2), .val (.int p3)] [(.int p2), (.int (0 : Int32)), (.ref b105), (.ref b105), (.ref b102), (.ref b102)])) rfl rfl (hb hby d1_30)
  have K109 : Keep h0 h108 [] := K106.wr W108 (Or.inr sz_b105)
  have N108 := Fr.snoc X108 N0 ge_b105
  have V108 : Arv Z h108 b105 k105 .char (2 : Int32) [(.int (nar .char p2)), (.int (0 : Int32))] (.int (0 : Int32)) := Arv.set Ar108 q108 S108 Ng108 H108 G108 (fits_nar_char _) W108 0 rfl (Nat.le_of_ble_eq_true rfl)
  have p110 : Go p.tables e below _ (T108.setTop (mkF m 34 #[.val (.int (2 : Int32)), .val (.int p2), .val (.int p3)] [(.int p3), (.int (1 : Int32)), (.ref b105), (.ref b105), (.ref b102), (.ref b102)])) := fun t_ k_ => (gc p107 st108) t_ (by
    refine XS.dup X108.here hx rfl (hb hby d1_31) rfl rfl ?_
    refine XS.iconst X108.here hx rfl (hb hby d1_32) ?_
    refine XS.iloadN X108.here hx rfl (hb hby d1_33) rfl ?_
    exact k_)
  obtain ⟨cl111, Ar111, q111, S111, Ng111, H111, G111⟩ := id V108
  have hin111 := inb_of S111 (j := (1 : Int32)) ⟨by decide, by decide⟩
  obtain ⟨T111, h111, X111, e111, W111, st111⟩ := stC X108 hx hZ e108 Ar111 (j := (1 : Int32)) hin111 (g := (mkF m 34 #[.val (.int (2 : Int32)), .val (.int p2), .val (.int p3)] [(.int p3), (.int (1 : Int32)), (.ref b105), (.ref b105), (.ref b102), (.ref b102)])) rfl rfl (hb hby d1_34)
  have K112 : Keep h0 h111 [] := K109.wr W111 (Or.inr sz_b105)
  have N111 := Fr.snoc X111 N108 ge_b105
  have V111 : Arv Z h111 b105 k105 .char (2 : Int32) [(.int (nar .char p2)), (.int (nar .char p3))] (.int (0 : Int32)) := Arv.set Ar111 q111 S111 Ng111 H111 G111 (fits_nar_char _) W111 1 rfl (Nat.le_of_ble_eq_true rfl)
  have f113 := (((A102.ext E105).wr W108).wr W111)
  have f114 := ((AE105.wr W108).wr W111)
  have f115 := ((((O1.ext E102).ext E105).wr W108 ge_b105).wr W111 ge_b105)
  have f116 := (((F102_coder.ext E105).other W108 (Or.inl ne_b102_b105)).other W111 (Or.inl ne_b102_b105))
  have f117 := (((F102_value.ext E105).other W108 (Or.inl ne_b102_b105)).other W111 (Or.inl ne_b102_b105))
  have f118 := (((F102_hash.ext E105).other W108 (Or.inl ne_b102_b105)).other W111 (Or.inl ne_b102_b105))
  have f119 := (((F102_hashIsZero.ext E105).other W108 (Or.inl ne_b102_b105)).other W111 (Or.inl ne_b102_b105))
  obtain ⟨_, _, ⟨T120, L120, k120, n120⟩, -, X120, ⟨Lc120, hQ120, l120, y120, z120⟩, st120⟩ := X111.specialBack hx (y := (⟨"java/lang/String", "<init>", "([C)V"⟩ : MethodName)) rfl hown (mvT hZ (own_w hw 9 rfl)) (mvT hZ (own_w hw 10 rfl)) (mvT hZ (own_w hw 11 rfl)) (by decide) (backOf (W := 1) (rm2_L2 l Z a0 hw [] b102 b105 k105 (nar .char p2) (nar .char p3) cs1 fm h111 n0 (Nat.le_trans Z0 K112.1) f115 G f116 f117 f118 f119 f113 V111 ne_b102_b105 ge_b102 r0 r1) hZ (own_w hw 11 rfl) (own_w hw 7 rfl) (by decide) (by decide)) (g := (mkF m 35 #[.val (.int (2 : Int32)), .val (.int p2), .val (.int p3)] [(.ref b105), (.ref b102), (.ref b102)])) rfl (by rw [hml]; rfl) (Steps.refl _) (a := b102) (argsL := [(.ref b105)]) (rest := [(.ref b102)]) (lenOf pd4 rfl) rfl (by show 2 * 0 + _ ≤ _; exact Nat.le_of_eq rfl) (hb hby d1_35) (fun _ _ => ⟨rfl, e111, (by decide : 2 + 1 ≤ _), (by decide : 6 + 2 ≤ _)⟩)
  dsimp only [Pt.U, Pt.locs, Pt.cells, Pt.slots] at X120 l120 y120 z120 st120 hQ120
  subst l120 y120 z120
  obtain ⟨x121, x122, rfl, N120q, q120_K, q120_E, q120_c, q120_v, q120_xhash, q120_xhashIsZero, q120_g, q120_z, q120_V, q120_xb, q120_n⟩ := hQ120
  have N120 := Fr.app N111 N120q
  have K123 : Keep h0 T120.heap [] := K112.trans q120_K (allS (Or.inr sz_b102) all0)
  have ne_b102_x121 : b102 ≠ x121 := Nat.ne_of_lt (Nat.lt_of_lt_of_le f113.lt q120_z)
  have ne_b105_x121 : b105 ≠ x121 := Nat.ne_of_lt (Nat.lt_of_lt_of_le f114.lt q120_z)
  obtain ⟨fs, hr, hrun, hended, hW, hsame⟩ := X120.leave (v := some (.ref b102)) (fun h => by rw [Bd.returns] at h; cases h)
  refine ⟨_, _, (gcT (gc p110 st111) st120) _ (retOut X120 hx (w := (.ref b102)) (i := .areturn) Bd.returns rfl (Or.inr (Or.inr (Or.inr (Or.inr ⟨rfl, rfl, rfl⟩)))) (hb hby d1_38) hr), hrun, hended, _, _, rfl, ?_, ⟨_, rfl⟩, hW, hsame.mono (by decide) (by decide)⟩
  show Q1_2 Z p2 p3 cs1 fm h0 n0 _ T120.heap _
  exact ⟨b102, x121, x122, rfl, N120, K123, q120_E, q120_c, q120_v, q120_xhash, q120_xhashIsZero, ge_b102, sz_b102, q120_g, (Nat.le_trans K112.1 q120_z), q120_V, q120_xb, q120_n⟩
theorem d17_0 : decode jdk_48_method_5_code 0 = .ok (.iload_n 2, 1) := by decide +kernel
theorem d17_1 : decode jdk_48_method_5_code 1 = .ok (.iload_n 3, 1) := by decide +kernel
theorem d17_2 : decode jdk_48_method_5_code 2 = .ok (.iadd, 1) := by decide +kernel
theorem d17_3 : decode jdk_48_method_5_code 3 = .ok (.istore 4, 2) := by decide +kernel
theorem d17_5 : decode jdk_48_method_5_code 5 = .ok (.iload_n 2, 1) := by decide +kernel
theorem d17_6 : decode jdk_48_method_5_code 6 = .ok (.istore 5, 2) := by decide +kernel
theorem d17_8 : decode jdk_48_method_5_code 8 = .ok (.iload 5, 2) := by decide +kernel
theorem d17_10 : decode jdk_48_method_5_code 10 = .ok (.iload 4, 2) := by decide +kernel
theorem d17_12 : decode jdk_48_method_5_code 12 = .ok (.if_icmp .ge 23, 3) := by decide +kernel
theorem d17_15 : decode jdk_48_method_5_code 15 = .ok (.bipush 31, 2) := by decide +kernel
theorem d17_17 : decode jdk_48_method_5_code 17 = .ok (.iload_n 0, 1) := by decide +kernel
theorem d17_18 : decode jdk_48_method_5_code 18 = .ok (.imul, 1) := by decide +kernel
theorem d17_19 : decode jdk_48_method_5_code 19 = .ok (.aload_n 1, 1) := by decide +kernel
theorem d17_20 : decode jdk_48_method_5_code 20 = .ok (.iload 5, 2) := by decide +kernel
theorem d17_22 : decode jdk_48_method_5_code 22 = .ok (.baload, 1) := by decide +kernel
theorem d17_23 : decode jdk_48_method_5_code 23 = .ok (.sipush 255, 3) := by decide +kernel
theorem d17_26 : decode jdk_48_method_5_code 26 = .ok (.iand, 1) := by decide +kernel
theorem d17_27 : decode jdk_48_method_5_code 27 = .ok (.iadd, 1) := by decide +kernel
theorem d17_28 : decode jdk_48_method_5_code 28 = .ok (.istore_n 0, 1) := by decide +kernel
theorem d17_29 : decode jdk_48_method_5_code 29 = .ok (.iinc 5 1, 3) := by decide +kernel
theorem d17_32 : decode jdk_48_method_5_code 32 = .ok (.goto (-24), 3) := by decide +kernel
theorem d17_35 : decode jdk_48_method_5_code 35 = .ok (.iload_n 0, 1) := by decide +kernel
theorem d17_36 : decode jdk_48_method_5_code 36 = .ok (.ireturn, 1) := by decide +kernel
theorem pn17 : plainFor (⟨"jdk/internal/util/ArraysSupport", "signedHashCode", "(I[BII)I"⟩ : MethodName) = true := plainFor_of_name (by first | (simp [plainName, overriddenIn]; done) | decide +kernel)
theorem ef_rm17 (m : MethodId) (a2 : Addr) (k1 : ClassId) (b0 : Int32) (b1 : Int32) : entryFrame m #[(.int (0 : Int32)), (.ref a2), (.int (0 : Int32)), (.int (2 : Int32))] 6 = mkF m 0 #[.val (.int (0 : Int32)), .val (.ref a2), .val (.int (0 : Int32)), .val (.int (2 : Int32)), .unset, .unset] [] := by first | (simp [entryFrame, mkF, argsToLocals, Value.category]; done) | rfl
def Q17 (Z : State) (a2 : Addr) (k1 : ClassId) (b0 : Int32) (b1 : Int32) (h0 : Heap) (n0 : Nat) (v : Option Value) (h : Heap) (L : List Loc) : Prop := ∃ (hv : Int32), v = some (.int hv) ∧ Fr n0 L ∧ (h = h0)
set_option maxRecDepth 65536 in
set_option maxHeartbeats 40000000 in
theorem rm17 (l : Launch) (Z : State) (a0 : Array Value) (hw : ∀ d ∈ tables_1, d.before a0 Z = true) (ws : List Jvm.Cond) (a2 : Addr) (k1 : ClassId) (b0 : Int32) (b1 : Int32) (h0 : Heap) (n0 : Nat) (Z0 : n0 ≤ h0.size) (V1 : Arv Z h0 a2 k1 .byte (2 : Int32) [(.int b0), (.int b1)] (.int (0 : Int32))) :
    MetFree l (⟨"jdk/internal/util/ArraysSupport", "signedHashCode", "(I[BII)I"⟩ : MethodName) (head1 (Jvm.Cond.code (⟨"jdk/internal/util/ArraysSupport", "signedHashCode", "(I[BII)I"⟩ : MethodName) jdk_48_method_5_code 6 (some .int) :: ws) ({ frames := 0, cells := 0, slots := 0, locals := 0 } : Room)) (fun a U => a = #[(.int (0 : Int32)), (.ref a2), (.int (0 : Int32)), (.int (2 : Int32))] ∧ Z.Warmed39 U.vm ∧ U.heap = h0) (fun _ _ _ _ _ => True) (fun _ U o U' => ∃ v L, o = .returned v ∧ Q17 Z a2 k1 b0 b1 h0 n0 v U'.heap L ∧ FrameEnd U o U' L ({ frames := 0, cells := 0, slots := 0, locals := 0 } : Room).cells ({ frames := 0, cells := 0, slots := 0, locals := 0 } : Room).slots) := by
  refine MetFree.of_bodySF pn17 hisR ?_
  intro p e s m args below meth c s₁ Bd hml0 hP hK
  obtain ⟨rfl, hZ, hh⟩ := hP
  have hx := Bd.exec
  have hby := Bd.bytes
  have hml : c.maxLocals = 6 := hml0
  have hown : s.vm.findClass "jdk/internal/util/ArraysSupport" = some m.cls := findClass_of_methodNamed Bd.named
  have hnm := (name_of_methodNamed Bd.named Bd.method).1
  have X0 : Stand p l e ({ frames := 0, cells := 0, slots := 0, locals := 0 } : Room) s m #[(.int (0 : Int32)), (.ref a2), (.int (0 : Int32)), (.int (2 : Int32))] below meth c s₁ [] 0 0 := Stand.of_body Bd
  have e0 : s₁.heap = h0 := by rw [← hh, Bd.state]; rfl
  have N0 := Fr.nil n0
  have p0 : Go p.tables e below (s₁.setTop (entryFrame m #[(.int (0 : Int32)), (.ref a2), (.int (0 : Int32)), (.int (2 : Int32))] 6)) (s₁.setTop (mkF m 0 #[.val (.int (0 : Int32)), .val (.ref a2), .val (.int (0 : Int32)), .val (.int (2 : Int32)), .unset, .unset] [])) := fun t_ k_ => castTop (ef_rm17 m a2 k1 b0 b1) k_
  have p101 : Go p.tables e below _ (s₁.setTop (mkF m 22 #[.val (.int (0 : Int32)), .val (.ref a2), .val (.int (0 : Int32)), .val (.int (2 : Int32)), .val (.int (2 : Int32)), .val (.int (0 : Int32))] [(.int (0 : Int32)), (.ref a2), (.int (0 : Int32))])) := fun t_ k_ => p0 t_ (by
    refine XS.iloadN X0.here hx rfl (hb hby d17_0) rfl ?_
    refine XS.iloadN X0.here hx rfl (hb hby d17_1) rfl ?_
    refine XS.iadd X0.here hx rfl (hb hby d17_2) rfl ?_
    refine XS.istore X0.here hx rfl (hb hby d17_3) rfl (l' := #[.val (.int (0 : Int32)), .val (.ref a2), .val (.int (0 : Int32)), .val (.int (2 : Int32)), .val (.int (2 : Int32)), .unset]) rfl ?_
    refine XS.iloadN X0.here hx rfl (hb hby d17_5) rfl ?_
    refine XS.istore X0.here hx rfl (hb hby d17_6) rfl (l' := #[.val (.int (0 : Int32)), .val (.ref a2), .val (.int (0 : Int32)), .val (.int (2 : Int32)), .val (.int (2 : Int32)), .val (.int (0 : Int32))]) rfl ?_
    refine XS.iload X0.here hx rfl (hb hby d17_8) rfl ?_
    refine XS.iload X0.here hx rfl (hb hby d17_10) rfl ?_
    refine XS.icmpNo X0.here hx rfl (hb hby d17_12) rfl (tlt (by decide : ((0 : Int32) < (2 : Int32)))).2.1 ?_
    refine XS.bipush X0.here hx rfl (hb hby d17_15) ?_
    refine XS.iloadN X0.here hx rfl (hb hby d17_17) rfl ?_
    refine XS.imul X0.here hx rfl (hb hby d17_18) rfl ?_
    refine XS.aloadN X0.here hx rfl (hb hby d17_19) rfl rfl ?_
    refine XS.iload X0.here hx rfl (hb hby d17_20) rfl ?_
    exact k_)
  obtain ⟨cl102, Ar102, q102, S102, Ng102, H102, G102⟩ := id V1
  have hin102 := inb_of S102 (j := (0 : Int32)) ⟨by decide, by decide⟩
  have hat102 := H102.at (v := (.int b0)) hin102 rfl
  have p103 : Go p.tables e below _ (s₁.setTop (mkF m 22 #[.val (.int ((0 : Int32) + (b0 &&& (255 : Int32)))), .val (.ref a2), .val (.int (0 : Int32)), .val (.int (2 : Int32)), .val (.int (2 : Int32)), .val (.int (1 : Int32))] [(.int (1 : Int32)), (.ref a2), (.int ((31 : Int32) * ((0 : Int32) + (b0 &&& (255 : Int32)))))])) := fun t_ k_ => p101 t_ (by
    refine X0.baloadBytes hx (j := (0 : Int32)) (v := (.int b0)) (by rw [e0]; exact Ar102.1) (State.isArrayOf_alike hZ.alike Ar102.2.1) Ar102.2.2 hin102 hat102 (g := (mkF m 22 #[.val (.int (0 : Int32)), .val (.ref a2), .val (.int (0 : Int32)), .val (.int (2 : Int32)), .val (.int (2 : Int32)), .val (.int (0 : Int32))] [(.int (0 : Int32)), (.ref a2), (.int (0 : Int32))])) rfl rfl (hb hby d17_22) _ ?_
    refine XS.sipush X0.here hx rfl (hb hby d17_23) ?_
    refine XS.iand X0.here hx rfl (hb hby d17_26) rfl ?_
    refine XS.iadd X0.here hx rfl (hb hby d17_27) rfl ?_
    refine XS.istoreN X0.here hx rfl (hb hby d17_28) rfl (l' := #[.val (.int ((0 : Int32) + (b0 &&& (255 : Int32)))), .val (.ref a2), .val (.int (0 : Int32)), .val (.int (2 : Int32)), .val (.int (2 : Int32)), .val (.int (0 : Int32))]) rfl ?_
    refine XS.iinc X0.here hx rfl (hb hby d17_29) rfl (l' := #[.val (.int ((0 : Int32) + (b0 &&& (255 : Int32)))), .val (.ref a2), .val (.int (0 : Int32)), .val (.int (2 : Int32)), .val (.int (2 : Int32)), .val (.int (1 : Int32))]) rfl ?_
    refine XS.goto X0.here hx rfl (pc0 := 32) (pc' := 8) rfl (hb hby d17_32) (by decide) (by decide) ?_
    refine XS.iload X0.here hx rfl (hb hby d17_8) rfl ?_
    refine XS.iload X0.here hx rfl (hb hby d17_10) rfl ?_
    refine XS.icmpNo X0.here hx rfl (hb hby d17_12) rfl (tlt (by decide : ((1 : Int32) < (2 : Int32)))).2.1 ?_
    refine XS.bipush X0.here hx rfl (hb hby d17_15) ?_
    refine XS.iloadN X0.here hx rfl (hb hby d17_17) rfl ?_
    refine XS.imul X0.here hx rfl (hb hby d17_18) rfl ?_
    refine XS.aloadN X0.here hx rfl (hb hby d17_19) rfl rfl ?_
    refine XS.iload X0.here hx rfl (hb hby d17_20) rfl ?_
    exact k_)
  obtain ⟨cl104, Ar104, q104, S104, Ng104, H104, G104⟩ := id V1
  have hin104 := inb_of S104 (j := (1 : Int32)) ⟨by decide, by decide⟩
  have hat104 := H104.at (v := (.int b1)) hin104 rfl
  have p105 : Go p.tables e below _ (s₁.setTop (mkF m 36 #[.val (.int (((31 : Int32) * ((0 : Int32) + (b0 &&& (255 : Int32)))) + (b1 &&& (255 : Int32)))), .val (.ref a2), .val (.int (0 : Int32)), .val (.int (2 : Int32)), .val (.int (2 : Int32)), .val (.int (2 : Int32))] [(.int (((31 : Int32) * ((0 : Int32) + (b0 &&& (255 : Int32)))) + (b1 &&& (255 : Int32))))])) := fun t_ k_ => p103 t_ (by
    refine X0.baloadBytes hx (j := (1 : Int32)) (v := (.int b1)) (by rw [e0]; exact Ar104.1) (State.isArrayOf_alike hZ.alike Ar104.2.1) Ar104.2.2 hin104 hat104 (g := (mkF m 22 #[.val (.int ((0 : Int32) + (b0 &&& (255 : Int32)))), .val (.ref a2), .val (.int (0 : Int32)), .val (.int (2 : Int32)), .val (.int (2 : Int32)), .val (.int (1 : Int32))] [(.int (1 : Int32)), (.ref a2), (.int ((31 : Int32) * ((0 : Int32) + (b0 &&& (255 : Int32)))))])) rfl rfl (hb hby d17_22) _ ?_
    refine XS.sipush X0.here hx rfl (hb hby d17_23) ?_
    refine XS.iand X0.here hx rfl (hb hby d17_26) rfl ?_
    refine XS.iadd X0.here hx rfl (hb hby d17_27) rfl ?_
    refine XS.istoreN X0.here hx rfl (hb hby d17_28) rfl (l' := #[.val (.int (((31 : Int32) * ((0 : Int32) + (b0 &&& (255 : Int32)))) + (b1 &&& (255 : Int32)))), .val (.ref a2), .val (.int (0 : Int32)), .val (.int (2 : Int32)), .val (.int (2 : Int32)), .val (.int (1 : Int32))]) rfl ?_
    refine XS.iinc X0.here hx rfl (hb hby d17_29) rfl (l' := #[.val (.int (((31 : Int32) * ((0 : Int32) + (b0 &&& (255 : Int32)))) + (b1 &&& (255 : Int32)))), .val (.ref a2), .val (.int (0 : Int32)), .val (.int (2 : Int32)), .val (.int (2 : Int32)), .val (.int (2 : Int32))]) rfl ?_
    refine XS.goto X0.here hx rfl (pc0 := 32) (pc' := 8) rfl (hb hby d17_32) (by decide) (by decide) ?_
    refine XS.iload X0.here hx rfl (hb hby d17_8) rfl ?_
    refine XS.iload X0.here hx rfl (hb hby d17_10) rfl ?_
    refine XS.icmpYes X0.here hx rfl (pc0 := 12) (pc' := 35) rfl (hb hby d17_12) rfl (flt (by decide : ¬ ((2 : Int32) < (2 : Int32)))).2.1 (by decide) (by decide) ?_
    refine XS.iloadN X0.here hx rfl (hb hby d17_35) rfl ?_
    exact k_)
  obtain ⟨fs, hr, hrun, hended, hW, hsame⟩ := X0.leave (v := some (.int (((31 : Int32) * ((0 : Int32) + (b0 &&& (255 : Int32)))) + (b1 &&& (255 : Int32))))) (fun h => by rw [Bd.returns] at h; cases h)
  refine ⟨_, _, p105 _ (retI X0 hx Bd.returns (hb hby d17_36) hr), hrun, hended, _, _, rfl, ?_, ⟨_, rfl⟩, hW, hsame.mono (by decide) (by decide)⟩
  show Q17 Z a2 k1 b0 b1 h0 n0 _ s₁.heap _
  rw [e0]
  exact ⟨_, rfl, N0, rfl⟩
theorem d16_0 : decode jdk_48_method_4_code 0 = .ok (.iload 4, 2) := by decide +kernel
theorem d16_2 : decode jdk_48_method_4_code 2 = .ok (.tableswitch 127 4 10 #[42, 55, 127, 127, 88, 101, 114], 42) := by decide +kernel
theorem d16_44 : decode jdk_48_method_4_code 44 = .ok (.iload_n 3, 1) := by decide +kernel
theorem d16_45 : decode jdk_48_method_4_code 45 = .ok (.aload_n 0, 1) := by decide +kernel
theorem d16_46 : decode jdk_48_method_4_code 46 = .ok (.checkcast 60, 3) := by decide +kernel
theorem d16_49 : decode jdk_48_method_4_code 49 = .ok (.iload_n 1, 1) := by decide +kernel
theorem d16_50 : decode jdk_48_method_4_code 50 = .ok (.iload_n 2, 1) := by decide +kernel
theorem d16_51 : decode jdk_48_method_4_code 51 = .ok (.invokestatic 62, 3) := by decide +kernel
theorem d16_54 : decode jdk_48_method_4_code 54 = .ok (.goto 103, 3) := by decide +kernel
theorem d16_157 : decode jdk_48_method_4_code 157 = .ok (.ireturn, 1) := by decide +kernel
theorem pd8 : parseMethodDescriptor "(I[BII)I" = some ⟨[.int, (.array .byte), .int, .int], some .int⟩ := by decide +kernel
theorem pn16 : plainFor (⟨"jdk/internal/util/ArraysSupport", "vectorizedHashCode", "(Ljava/lang/Object;IIII)I"⟩ : MethodName) = true := plainFor_of_name (by first | (simp [plainName, overriddenIn]; done) | decide +kernel)
theorem ef_rm16 (m : MethodId) (a1 : Addr) (k1 : ClassId) (b0 : Int32) (b1 : Int32) : entryFrame m #[(.ref a1), (.int (0 : Int32)), (.int (2 : Int32)), (.int (0 : Int32)), (.int (4 : Int32))] 5 = mkF m 0 #[.val (.ref a1), .val (.int (0 : Int32)), .val (.int (2 : Int32)), .val (.int (0 : Int32)), .val (.int (4 : Int32))] [] := by first | (simp [entryFrame, mkF, argsToLocals, Value.category]; done) | rfl
def Q16 (Z : State) (a1 : Addr) (k1 : ClassId) (b0 : Int32) (b1 : Int32) (h0 : Heap) (n0 : Nat) (v : Option Value) (h : Heap) (L : List Loc) : Prop := ∃ (hv : Int32), v = some (.int hv) ∧ Fr n0 L ∧ (h = h0)
set_option maxRecDepth 65536 in
set_option maxHeartbeats 40000000 in
theorem rm16 (l : Launch) (Z : State) (a0 : Array Value) (hw : ∀ d ∈ tables_1, d.before a0 Z = true) (ws : List Jvm.Cond) (a1 : Addr) (k1 : ClassId) (b0 : Int32) (b1 : Int32) (h0 : Heap) (n0 : Nat) (Z0 : n0 ≤ h0.size) (V1 : Arv Z h0 a1 k1 .byte (2 : Int32) [(.int b0), (.int b1)] (.int (0 : Int32))) (E1 : Exa Z h0 a1 "[B") :
    MetFree l (⟨"jdk/internal/util/ArraysSupport", "vectorizedHashCode", "(Ljava/lang/Object;IIII)I"⟩ : MethodName) (head1 (Jvm.Cond.code (⟨"jdk/internal/util/ArraysSupport", "vectorizedHashCode", "(Ljava/lang/Object;IIII)I"⟩ : MethodName) jdk_48_method_4_code 5 (some .int) :: ws) ({ frames := 1, cells := 0, slots := 0, locals := 17 } : Room)) (fun a U => a = #[(.ref a1), (.int (0 : Int32)), (.int (2 : Int32)), (.int (0 : Int32)), (.int (4 : Int32))] ∧ Z.Warmed39 U.vm ∧ U.heap = h0) (fun _ _ _ _ _ => True) (fun _ U o U' => ∃ v L, o = .returned v ∧ Q16 Z a1 k1 b0 b1 h0 n0 v U'.heap L ∧ FrameEnd U o U' L ({ frames := 1, cells := 0, slots := 0, locals := 17 } : Room).cells ({ frames := 1, cells := 0, slots := 0, locals := 17 } : Room).slots) := by
  refine MetFree.of_bodySF pn16 hisR ?_
  intro p e s m args below meth c s₁ Bd hml0 hP hK
  obtain ⟨rfl, hZ, hh⟩ := hP
  have hx := Bd.exec
  have hby := Bd.bytes
  have hml : c.maxLocals = 5 := hml0
  have hown : s.vm.findClass "jdk/internal/util/ArraysSupport" = some m.cls := findClass_of_methodNamed Bd.named
  have hnm := (name_of_methodNamed Bd.named Bd.method).1
  have X0 : Stand p l e ({ frames := 1, cells := 0, slots := 0, locals := 17 } : Room) s m #[(.ref a1), (.int (0 : Int32)), (.int (2 : Int32)), (.int (0 : Int32)), (.int (4 : Int32))] below meth c s₁ [] 0 0 := Stand.of_body Bd
  have e0 : s₁.heap = h0 := by rw [← hh, Bd.state]; rfl
  have N0 := Fr.nil n0
  have p0 : Go p.tables e below (s₁.setTop (entryFrame m #[(.ref a1), (.int (0 : Int32)), (.int (2 : Int32)), (.int (0 : Int32)), (.int (4 : Int32))] 5)) (s₁.setTop (mkF m 0 #[.val (.ref a1), .val (.int (0 : Int32)), .val (.int (2 : Int32)), .val (.int (0 : Int32)), .val (.int (4 : Int32))] [])) := fun t_ k_ => castTop (ef_rm16 m a1 k1 b0 b1) k_
  have p101 : Go p.tables e below _ (s₁.setTop (mkF m 46 #[.val (.ref a1), .val (.int (0 : Int32)), .val (.int (2 : Int32)), .val (.int (0 : Int32)), .val (.int (4 : Int32))] [(.ref a1), (.int (0 : Int32))])) := fun t_ k_ => p0 t_ (by
    refine XS.iload X0.here hx rfl (hb hby d16_0) rfl ?_
    refine XS.tswIn X0.here hx rfl (pc0 := 2) (pc' := 44) rfl (hb hby d16_2) rfl (by decide) rfl (by decide) (by decide) ?_
    refine XS.iloadN X0.here hx rfl (hb hby d16_44) rfl ?_
    refine XS.aloadN X0.here hx rfl (hb hby d16_45) rfl rfl ?_
    exact k_)
  obtain ⟨T102, X102, e102, st102⟩ := castY X0 hx hZ hown (own_w hw 93 rfl) e0 (Ins.self E1) (g := (mkF m 46 #[.val (.ref a1), .val (.int (0 : Int32)), .val (.int (2 : Int32)), .val (.int (0 : Int32)), .val (.int (4 : Int32))] [(.ref a1), (.int (0 : Int32))])) rfl rfl (hb hby d16_46)
  have p103 : Go p.tables e below _ (T102.setTop (mkF m 51 #[.val (.ref a1), .val (.int (0 : Int32)), .val (.int (2 : Int32)), .val (.int (0 : Int32)), .val (.int (4 : Int32))] [(.int (2 : Int32)), (.int (0 : Int32)), (.ref a1), (.int (0 : Int32))])) := fun t_ k_ => (gc p101 st102) t_ (by
    refine XS.iloadN X102.here hx rfl (hb hby d16_49) rfl ?_
    refine XS.iloadN X102.here hx rfl (hb hby d16_50) rfl ?_
    exact k_)
  obtain ⟨_, _, ⟨T104, L104, k104, n104⟩, -, X104, ⟨Lc104, hQ104, l104, y104, z104⟩, st104⟩ := Jvm.LawKit.callS X102 hx (y := (⟨"jdk/internal/util/ArraysSupport", "signedHashCode", "(I[BII)I"⟩ : MethodName)) hown (mvT hZ (own_w hw 95 rfl)) (mvT hZ (own_w hw 96 rfl)) (mvT hZ (own_w hw 91 rfl)) (mvT hZ (own_w hw 97 rfl)) (by decide) (backOf (W := 0) (rm17 l Z a0 hw [] a1 k1 b0 b1 h0 n0 (Nat.le_trans Z0 (Keep.refl h0 []).1) V1) hZ (own_w hw 97 rfl) (own_w hw 91 rfl) (by decide) (by decide)) (g := (mkF m 51 #[.val (.ref a1), .val (.int (0 : Int32)), .val (.int (2 : Int32)), .val (.int (0 : Int32)), .val (.int (4 : Int32))] [(.int (2 : Int32)), (.int (0 : Int32)), (.ref a1), (.int (0 : Int32))])) rfl (by rw [hml]; rfl) (argsL := [(.int (0 : Int32)), (.ref a1), (.int (0 : Int32)), (.int (2 : Int32))]) (rest := []) (lenOf pd8 rfl) rfl (by show 2 * 0 + _ ≤ _; exact Nat.le_of_eq rfl) (hb hby d16_51) (fun _ _ => ⟨rfl, e102, (by decide : 0 + 0 ≤ _), (by decide : 0 + 0 ≤ _)⟩)
  dsimp only [Pt.U, Pt.locs, Pt.cells, Pt.slots] at X104 l104 y104 z104 st104 hQ104
  subst l104 y104 z104
  obtain ⟨x105, rfl, N104q, q104_hh⟩ := hQ104
  have N104 := Fr.app N0 N104q
  have p106 : Go p.tables e below _ (T104.setTop (mkF m 157 #[.val (.ref a1), .val (.int (0 : Int32)), .val (.int (2 : Int32)), .val (.int (0 : Int32)), .val (.int (4 : Int32))] [(.int x105)])) := fun t_ k_ => (gc p103 st104) t_ (by
    refine XS.goto X104.here hx rfl (pc0 := 54) (pc' := 157) rfl (hb hby d16_54) (by decide) (by decide) ?_
    exact k_)
  obtain ⟨fs, hr, hrun, hended, hW, hsame⟩ := X104.leave (v := some (.int x105)) (fun h => by rw [Bd.returns] at h; cases h)
  refine ⟨_, _, p106 _ (retI X104 hx Bd.returns (hb hby d16_157) hr), hrun, hended, _, _, rfl, ?_, ⟨_, rfl⟩, hW, hsame.mono (by decide) (by decide)⟩
  show Q16 Z a1 k1 b0 b1 h0 n0 _ T104.heap _
  rw [q104_hh]
  exact ⟨_, rfl, N104, rfl⟩
theorem d12_42 : decode jdk_43_method_21_code 42 = .ok (.aload_n 0, 1) := by decide +kernel
theorem d12_43 : decode jdk_43_method_21_code 43 = .ok (.iconst 0, 1) := by decide +kernel
theorem d12_44 : decode jdk_43_method_21_code 44 = .ok (.aload_n 0, 1) := by decide +kernel
theorem d12_45 : decode jdk_43_method_21_code 45 = .ok (.arraylength, 1) := by decide +kernel
theorem d12_46 : decode jdk_43_method_21_code 46 = .ok (.iconst 0, 1) := by decide +kernel
theorem d12_47 : decode jdk_43_method_21_code 47 = .ok (.iconst 4, 1) := by decide +kernel
theorem d12_48 : decode jdk_43_method_21_code 48 = .ok (.invokestatic 84, 3) := by decide +kernel
theorem pd9 : parseMethodDescriptor "(Ljava/lang/Object;IIII)I" = some ⟨[(.object "java/lang/Object"), .int, .int, .int, .int], some .int⟩ := by decide +kernel
theorem ef_rm12_2 (m : MethodId) (a1 : Addr) (k1 : ClassId) (b0 : Int32) (b1 : Int32) : entryFrame m #[(.ref a1)] 1 = mkF m 0 #[.val (.ref a1)] [] := by first | (simp [entryFrame, mkF, argsToLocals, Value.category]; done) | rfl
def Q12_2 (Z : State) (a1 : Addr) (k1 : ClassId) (b0 : Int32) (b1 : Int32) (h0 : Heap) (n0 : Nat) (v : Option Value) (h : Heap) (L : List Loc) : Prop := ∃ (hv : Int32), v = some (.int hv) ∧ Fr n0 L ∧ (h = h0)
set_option maxRecDepth 65536 in
set_option maxHeartbeats 40000000 in
theorem rm12_2 (l : Launch) (Z : State) (a0 : Array Value) (hw : ∀ d ∈ tables_1, d.before a0 Z = true) (ws : List Jvm.Cond) (a1 : Addr) (k1 : ClassId) (b0 : Int32) (b1 : Int32) (h0 : Heap) (n0 : Nat) (Z0 : n0 ≤ h0.size) (V1 : Arv Z h0 a1 k1 .byte (2 : Int32) [(.int b0), (.int b1)] (.int (0 : Int32))) (E1 : Exa Z h0 a1 "[B") :
    MetFree l (⟨"java/lang/StringLatin1", "hashCode", "([B)I"⟩ : MethodName) (head1 (Jvm.Cond.code (⟨"java/lang/StringLatin1", "hashCode", "([B)I"⟩ : MethodName) jdk_43_method_21_code 1 (some .int) :: ws) ({ frames := 2, cells := 0, slots := 0, locals := 33 } : Room)) (fun a U => a = #[(.ref a1)] ∧ Z.Warmed39 U.vm ∧ U.heap = h0) (fun _ _ _ _ _ => True) (fun _ U o U' => ∃ v L, o = .returned v ∧ Q12_2 Z a1 k1 b0 b1 h0 n0 v U'.heap L ∧ FrameEnd U o U' L ({ frames := 2, cells := 0, slots := 0, locals := 33 } : Room).cells ({ frames := 2, cells := 0, slots := 0, locals := 33 } : Room).slots) := by
  refine MetFree.of_bodySF pn12 hisR ?_
  intro p e s m args below meth c s₁ Bd hml0 hP hK
  obtain ⟨rfl, hZ, hh⟩ := hP
  have hx := Bd.exec
  have hby := Bd.bytes
  have hml : c.maxLocals = 1 := hml0
  have hown : s.vm.findClass "java/lang/StringLatin1" = some m.cls := findClass_of_methodNamed Bd.named
  have hnm := (name_of_methodNamed Bd.named Bd.method).1
  have X0 : Stand p l e ({ frames := 2, cells := 0, slots := 0, locals := 33 } : Room) s m #[(.ref a1)] below meth c s₁ [] 0 0 := Stand.of_body Bd
  have e0 : s₁.heap = h0 := by rw [← hh, Bd.state]; rfl
  have N0 := Fr.nil n0
  have p0 : Go p.tables e below (s₁.setTop (entryFrame m #[(.ref a1)] 1)) (s₁.setTop (mkF m 0 #[.val (.ref a1)] [])) := fun t_ k_ => castTop (ef_rm12_2 m a1 k1 b0 b1) k_
  have p101 : Go p.tables e below _ (s₁.setTop (mkF m 1 #[.val (.ref a1)] [(.ref a1)])) := fun t_ k_ => p0 t_ (by
    refine XS.aloadN X0.here hx rfl (hb hby d12_0) rfl rfl ?_
    exact k_)
  obtain ⟨cl102, Ar102, -, S102, Ng102, -, -⟩ := id V1
  have p103 : Go p.tables e below _ (s₁.setTop (mkF m 45 #[.val (.ref a1)] [(.ref a1), (.int (0 : Int32)), (.ref a1)])) := fun t_ k_ => p101 t_ (by
    refine X0.arraylength hx (by rw [e0]; exact Ar102.1) (State.isArrayOf_alike hZ.alike Ar102.2.1) (g := (mkF m 1 #[.val (.ref a1)] [(.ref a1)])) rfl rfl (hb hby d12_1) _ ?_
    rw [len_of S102 Ng102]
    show Steps p.tables e below (s₁.setTop (mkF m 2 #[.val (.ref a1)] [(.int (2 : Int32))])) _
    refine X0.lookupswitchMiss hx (g := (mkF m 2 #[.val (.ref a1)] [(.int (2 : Int32))])) rfl rfl (hb hby d12_2) (by decide) (by decide) (by show (0 : Int) ≤ ((2 : Nat) : Int) + 40; decide) _ ?_
    show Steps p.tables e below (s₁.setTop (mkF m 42 #[.val (.ref a1)] [])) _
    refine XS.aloadN X0.here hx rfl (hb hby d12_42) rfl rfl ?_
    refine XS.iconst X0.here hx rfl (hb hby d12_43) ?_
    refine XS.aloadN X0.here hx rfl (hb hby d12_44) rfl rfl ?_
    exact k_)
  obtain ⟨cl104, Ar104, -, S104, Ng104, -, -⟩ := id V1
  have p105 : Go p.tables e below _ (s₁.setTop (mkF m 48 #[.val (.ref a1)] [(.int (4 : Int32)), (.int (0 : Int32)), (.int (2 : Int32)), (.int (0 : Int32)), (.ref a1)])) := fun t_ k_ => p103 t_ (by
    refine X0.arraylength hx (by rw [e0]; exact Ar104.1) (State.isArrayOf_alike hZ.alike Ar104.2.1) (g := (mkF m 45 #[.val (.ref a1)] [(.ref a1), (.int (0 : Int32)), (.ref a1)])) rfl rfl (hb hby d12_45) _ ?_
    rw [len_of S104 Ng104]
    show Steps p.tables e below (s₁.setTop (mkF m 46 #[.val (.ref a1)] [(.int (2 : Int32)), (.int (0 : Int32)), (.ref a1)])) _
    refine XS.iconst X0.here hx rfl (hb hby d12_46) ?_
    refine XS.iconst X0.here hx rfl (hb hby d12_47) ?_
    exact k_)
  obtain ⟨_, _, ⟨T106, L106, k106, n106⟩, -, X106, ⟨Lc106, hQ106, l106, y106, z106⟩, st106⟩ := Jvm.LawKit.callS X0 hx (y := (⟨"jdk/internal/util/ArraysSupport", "vectorizedHashCode", "(Ljava/lang/Object;IIII)I"⟩ : MethodName)) hown (mvT hZ (own_w hw 89 rfl)) (mvT hZ (own_w hw 90 rfl)) (mvT hZ (own_w hw 91 rfl)) (mvT hZ (own_w hw 92 rfl)) (by decide) (backOf (W := 0) (rm16 l Z a0 hw [] a1 k1 b0 b1 h0 n0 (Nat.le_trans Z0 (Keep.refl h0 []).1) V1 E1) hZ (own_w hw 92 rfl) (own_w hw 91 rfl) (by decide) (by decide)) (g := (mkF m 48 #[.val (.ref a1)] [(.int (4 : Int32)), (.int (0 : Int32)), (.int (2 : Int32)), (.int (0 : Int32)), (.ref a1)])) rfl (by rw [hml]; rfl) (argsL := [(.ref a1), (.int (0 : Int32)), (.int (2 : Int32)), (.int (0 : Int32)), (.int (4 : Int32))]) (rest := []) (lenOf pd9 rfl) rfl (by show 2 * 0 + _ ≤ _; exact Nat.le_of_eq rfl) (hb hby d12_48) (fun _ _ => ⟨rfl, e0, (by decide : 0 + 0 ≤ _), (by decide : 0 + 0 ≤ _)⟩)
  dsimp only [Pt.U, Pt.locs, Pt.cells, Pt.slots] at X106 l106 y106 z106 st106 hQ106
  subst l106 y106 z106
  obtain ⟨x107, rfl, N106q, q106_hh⟩ := hQ106
  have N106 := Fr.app N0 N106q
  obtain ⟨fs, hr, hrun, hended, hW, hsame⟩ := X106.leave (v := some (.int x107)) (fun h => by rw [Bd.returns] at h; cases h)
  refine ⟨_, _, (gc p105 st106) _ (retI X106 hx Bd.returns (hb hby d12_51) hr), hrun, hended, _, _, rfl, ?_, ⟨_, rfl⟩, hW, hsame.mono (by decide) (by decide)⟩
  show Q12_2 Z a1 k1 b0 b1 h0 n0 _ T106.heap _
  rw [q106_hh]
  exact ⟨_, rfl, N106, rfl⟩
theorem ef_rm10_2 (m : MethodId) (a1 : Addr) (v1 : Addr) (k1 : ClassId) (b0 : Int32) (b1 : Int32) (cs1 : Int32) (fm : Value) : entryFrame m #[(.ref a1)] 2 = mkF m 0 #[.val (.ref a1), .unset] [] := by first | (simp [entryFrame, mkF, argsToLocals, Value.category]; done) | rfl
def Q10_2 (Z : State) (a1 : Addr) (v1 : Addr) (k1 : ClassId) (b0 : Int32) (b1 : Int32) (cs1 : Int32) (fm : Value) (h0 : Heap) (n0 : Nat) (v : Option Value) (h : Heap) (L : List Loc) : Prop := ∃ (hv : Int32), v = some (.int hv) ∧ Fr n0 L ∧ (Keep h0 h [a1]) ∧ (Exa Z h a1 "java/lang/String") ∧ (Fld Z h a1 "java/lang/String" "coder" "B" (.int (0 : Int32))) ∧ (Fld Z h a1 "java/lang/String" "value" "[B" (.ref v1))
set_option maxRecDepth 65536 in
set_option maxHeartbeats 40000000 in
theorem rm10_2 (l : Launch) (Z : State) (a0 : Array Value) (hw : ∀ d ∈ tables_1, d.before a0 Z = true) (ws : List Jvm.Cond) (a1 : Addr) (v1 : Addr) (k1 : ClassId) (b0 : Int32) (b1 : Int32) (cs1 : Int32) (fm : Value) (h0 : Heap) (n0 : Nat) (Z0 : n0 ≤ h0.size) (O1 : Old Z n0 h0) (G : own_G Z cs1 fm) (F1 : Fld Z h0 a1 "java/lang/String" "coder" "B" (.int (0 : Int32))) (F2 : Fld Z h0 a1 "java/lang/String" "value" "[B" (.ref v1)) (F3 : Fld Z h0 a1 "java/lang/String" "hash" "I" (.int (0 : Int32))) (F4 : Fld Z h0 a1 "java/lang/String" "hashIsZero" "Z" (.int (0 : Int32))) (E1 : Exa Z h0 a1 "java/lang/String") (g1 : n0 ≤ a1) (ne : a1 ≠ v1) (V1 : Arv Z h0 v1 k1 .byte (2 : Int32) [(.int b0), (.int b1)] (.int (0 : Int32))) (E2 : Exa Z h0 v1 "[B") :
    MetFree l (⟨"java/lang/String", "hashCode", "()I"⟩ : MethodName) (head1 (Jvm.Cond.code (⟨"java/lang/String", "hashCode", "()I"⟩ : MethodName) jdk_42_method_78_code 2 (some .int) :: ws) ({ frames := 3, cells := 0, slots := 0, locals := 45 } : Room)) (fun a U => a = #[(.ref a1)] ∧ Z.Warmed39 U.vm ∧ U.heap = h0) (fun _ _ _ _ _ => True) (fun _ U o U' => ∃ v L, o = .returned v ∧ Q10_2 Z a1 v1 k1 b0 b1 cs1 fm h0 n0 v U'.heap L ∧ FrameEnd U o U' L ({ frames := 3, cells := 0, slots := 0, locals := 45 } : Room).cells ({ frames := 3, cells := 0, slots := 0, locals := 45 } : Room).slots) := by
  refine MetFree.of_bodySF pn10 hisR ?_
  intro p e s m args below meth c s₁ Bd hml0 hP hK
  obtain ⟨rfl, hZ, hh⟩ := hP
  have hx := Bd.exec
  have hby := Bd.bytes
  have hml : c.maxLocals = 2 := hml0
  have hown : s.vm.findClass "java/lang/String" = some m.cls := findClass_of_methodNamed Bd.named
  have hnm := (name_of_methodNamed Bd.named Bd.method).1
  have X0 : Stand p l e ({ frames := 3, cells := 0, slots := 0, locals := 45 } : Room) s m #[(.ref a1)] below meth c s₁ [] 0 0 := Stand.of_body Bd
  have e0 : s₁.heap = h0 := by rw [← hh, Bd.state]; rfl
  have N0 := Fr.nil n0
  have p0 : Go p.tables e below (s₁.setTop (entryFrame m #[(.ref a1)] 2)) (s₁.setTop (mkF m 0 #[.val (.ref a1), .unset] [])) := fun t_ k_ => castTop (ef_rm10_2 m a1 v1 k1 b0 b1 cs1 fm) k_
  have p101 : Go p.tables e below _ (s₁.setTop (mkF m 1 #[.val (.ref a1), .unset] [(.ref a1)])) := fun t_ k_ => p0 t_ (by
    refine XS.aloadN X0.here hx rfl (hb hby d10_0) rfl rfl ?_
    exact k_)
  obtain ⟨T102, X102, e102, st102⟩ := getF X0 hx hZ hown (host := "") (Or.inl (own_w hw 56 rfl)) Via.refl e0 F3 (g := (mkF m 1 #[.val (.ref a1), .unset] [(.ref a1)])) rfl rfl (hb hby d10_1)
  have p103 : Go p.tables e below _ (T102.setTop (mkF m 10 #[.val (.ref a1), .val (.int (0 : Int32))] [(.ref a1)])) := fun t_ k_ => (gc p101 st102) t_ (by
    refine XS.istoreN X102.here hx rfl (hb hby d10_4) rfl (l' := #[.val (.ref a1), .val (.int (0 : Int32))]) rfl ?_
    refine XS.iloadN X102.here hx rfl (hb hby d10_5) rfl ?_
    refine XS.ifNo X102.here hx rfl (hb hby d10_6) rfl ((if0 _ _).trans (teq (by decide : ((0 : Int32) = (0 : Int32)))).2) ?_
    refine XS.aloadN X102.here hx rfl (hb hby d10_9) rfl rfl ?_
    exact k_)
  obtain ⟨T104, X104, e104, st104⟩ := getF X102 hx hZ hown (host := "") (Or.inl (own_w hw 58 rfl)) Via.refl e102 F4 (g := (mkF m 10 #[.val (.ref a1), .val (.int (0 : Int32))] [(.ref a1)])) rfl rfl (hb hby d10_10)
  have p105 : Go p.tables e below _ (T104.setTop (mkF m 17 #[.val (.ref a1), .val (.int (0 : Int32))] [(.ref a1)])) := fun t_ k_ => (gc p103 st104) t_ (by
    refine XS.ifNo X104.here hx rfl (hb hby d10_13) rfl ((if0 _ _).trans (teq (by decide : ((0 : Int32) = (0 : Int32)))).2) ?_
    refine XS.aloadN X104.here hx rfl (hb hby d10_16) rfl rfl ?_
    exact k_)
  obtain ⟨cq106, kq106, q106a, q106b, q106c⟩ := isOf hZ e104 E1
  obtain ⟨_, _, ⟨T106, L106, k106, n106⟩, -, X106, ⟨Lc106, hQ106, l106, y106, z106⟩, st106⟩ := X104.virtualBack hx (y := (⟨"java/lang/String", "isLatin1", "()Z"⟩ : MethodName)) (z := (⟨"java/lang/String", "isLatin1", "()Z"⟩ : MethodName)) hown (mvT hZ (own_w hw 60 rfl)) (mvT hZ (own_w hw 61 rfl)) (notFace_of_selects (args := #[]) (mvT hZ (own_w hw 63 rfl))) (mvT hZ (own_w hw 63 rfl)) (mvT hZ (own_w hw 62 rfl)) (by decide) (backOf (W := 0) (rm11_0 l Z a0 hw [] a1 cs1 fm h0 n0 (Nat.le_trans Z0 (Keep.refl h0 [a1]).1) O1 G F1) hZ (own_w hw 64 rfl) (own_w hw 7 rfl) (by decide) (by decide)) q106a q106c (g := (mkF m 17 #[.val (.ref a1), .val (.int (0 : Int32))] [(.ref a1)])) rfl (by rw [hml]; rfl) (Steps.refl _) (argsL := []) (rest := []) (lenOf pd5 rfl) rfl (by show 2 * 0 + _ ≤ _; exact Nat.le_of_eq rfl) (hb hby d10_17) (fun _ _ => ⟨rfl, e104, (by decide : 0 + 0 ≤ _), (by decide : 0 + 0 ≤ _)⟩)
  dsimp only [Pt.U, Pt.locs, Pt.cells, Pt.slots] at X106 l106 y106 z106 st106 hQ106
  subst l106 y106 z106
  obtain ⟨rfl, N106q, q106_hh⟩ := hQ106
  have N106 := Fr.app N0 N106q
  have p107 : Go p.tables e below _ (T106.setTop (mkF m 24 #[.val (.ref a1), .val (.int (0 : Int32))] [(.ref a1)])) := fun t_ k_ => (gcT p105 st106) t_ (by
    refine XS.ifNo X106.here hx rfl (hb hby d10_20) rfl ((if0 _ _).trans (feq (by decide : ¬ ((1 : Int32) = (0 : Int32)))).1) ?_
    refine XS.aloadN X106.here hx rfl (hb hby d10_23) rfl rfl ?_
    exact k_)
  obtain ⟨T108, X108, e108, st108⟩ := getF X106 hx hZ hown (host := "") (Or.inl (own_w hw 33 rfl)) Via.refl q106_hh F2 (g := (mkF m 24 #[.val (.ref a1), .val (.int (0 : Int32))] [(.ref a1)])) rfl rfl (hb hby d10_24)
  obtain ⟨_, _, ⟨T109, L109, k109, n109⟩, -, X109, ⟨Lc109, hQ109, l109, y109, z109⟩, st109⟩ := Jvm.LawKit.callS X108 hx (y := (⟨"java/lang/StringLatin1", "hashCode", "([B)I"⟩ : MethodName)) hown (mvT hZ (own_w hw 65 rfl)) (mvT hZ (own_w hw 66 rfl)) (mvT hZ (own_w hw 67 rfl)) (mvT hZ (own_w hw 68 rfl)) (by decide) (backOf (W := 0) (rm12_2 l Z a0 hw [] v1 k1 b0 b1 h0 n0 (Nat.le_trans Z0 (Keep.refl h0 [a1]).1) V1 E2) hZ (own_w hw 68 rfl) (own_w hw 67 rfl) (by decide) (by decide)) (g := (mkF m 27 #[.val (.ref a1), .val (.int (0 : Int32))] [(.ref v1)])) rfl (by rw [hml]; rfl) (argsL := [(.ref v1)]) (rest := []) (lenOf pd6 rfl) rfl (by show 2 * 0 + _ ≤ _; exact Nat.le_of_eq rfl) (hb hby d10_27) (fun _ _ => ⟨rfl, e108, (by decide : 0 + 0 ≤ _), (by decide : 0 + 0 ≤ _)⟩)
  dsimp only [Pt.U, Pt.locs, Pt.cells, Pt.slots] at X109 l109 y109 z109 st109 hQ109
  subst l109 y109 z109
  obtain ⟨x110, rfl, N109q, q109_hh⟩ := hQ109
  have N109 := Fr.app N106 N109q
  have p111 : Go p.tables e below _ (T109.setTop (mkF m 42 #[.val (.ref a1), .val (.int x110)] [(.int x110)])) := fun t_ k_ => (gc (gc p107 st108) st109) t_ (by
    refine XS.goto X109.here hx rfl (pc0 := 30) (pc' := 40) rfl (hb hby d10_30) (by decide) (by decide) ?_
    refine XS.istoreN X109.here hx rfl (hb hby d10_40) rfl (l' := #[.val (.ref a1), .val (.int x110)]) rfl ?_
    refine XS.iloadN X109.here hx rfl (hb hby d10_41) rfl ?_
    exact k_)
  by_cases c112 : x110 = (0 : Int32)
  · have p113 : Go p.tables e below _ (T109.setTop (mkF m 45 #[.val (.ref a1), .val (.int x110)] [])) := fun t_ k_ => p111 t_ (by
      refine XS.ifNo X109.here hx rfl (hb hby d10_42) rfl ((if0 _ _).trans (teq c112).2) ?_
      exact k_)
    have p114 : Go p.tables e below _ (T109.setTop (mkF m 47 #[.val (.ref a1), .val (.int x110)] [(.int (1 : Int32)), (.ref a1)])) := fun t_ k_ => p113 t_ (by
      refine XS.aloadN X109.here hx rfl (hb hby d10_45) rfl rfl ?_
      refine XS.iconst X109.here hx rfl (hb hby d10_46) ?_
      exact k_)
    obtain ⟨T115, h115, X115, e115, W115, st115⟩ := putFN X109 hx hZ hown (own_w hw 58 rfl) Via.refl q109_hh F4 E1 (Or.inl (own_w hw 59 rfl)) (own_w hw 6 rfl) (ty := .boolean) (v' := (.int (1 : Int32))) (by decide) rfl (by decide) (g := (mkF m 47 #[.val (.ref a1), .val (.int x110)] [(.int (1 : Int32)), (.ref a1)])) rfl rfl (hb hby d10_47)
    have K116 : Keep h0 h115 [a1] := (Keep.refl h0 [a1]).wr W115 (Or.inl (List.mem_of_getElem? (i := 0) rfl))
    have N115 := Fr.snoc X115 N109 g1
    have F115 : Fld Z h115 a1 "java/lang/String" "hashIsZero" "Z" (.int (1 : Int32)) := F4.same W115
    have p117 : Go p.tables e below _ (T115.setTop (mkF m 59 #[.val (.ref a1), .val (.int x110)] [(.int x110)])) := fun t_ k_ => (gc p114 st115) t_ (by
      refine XS.goto X115.here hx rfl (pc0 := 50) (pc' := 58) rfl (hb hby d10_50) (by decide) (by decide) ?_
      refine XS.iloadN X115.here hx rfl (hb hby d10_58) rfl ?_
      exact k_)
    have f118 := (E1.wr W115)
    have f119 := (F1.other W115 (Or.inr (slot_ne (Or.inr (own_w hw 32 rfl)) (Or.inl (own_w hw 59 rfl)) (by decide) (t := .byte) (t' := .boolean) (by decide) (by decide))))
    have f120 := (F2.other W115 (Or.inr (slot_ne (Or.inr (own_w hw 34 rfl)) (Or.inl (own_w hw 59 rfl)) (by decide) (t := (.array .byte)) (t' := .boolean) (by decide) (by decide))))
    obtain ⟨fs, hr, hrun, hended, hW, hsame⟩ := X115.leave (v := some (.int x110)) (fun h => by rw [Bd.returns] at h; cases h)
    refine ⟨_, _, p117 _ (retI X115 hx Bd.returns (hb hby d10_59) hr), hrun, hended, _, _, rfl, ?_, ⟨_, rfl⟩, hW, hsame.mono (by decide) (by decide)⟩
    show Q10_2 Z a1 v1 k1 b0 b1 cs1 fm h0 n0 _ T115.heap _
    rw [e115]
    exact ⟨_, rfl, N115, K116, f118, f119, f120⟩
  · have p121 : Go p.tables e below _ (T109.setTop (mkF m 53 #[.val (.ref a1), .val (.int x110)] [])) := fun t_ k_ => p111 t_ (by
      refine XS.ifYes X109.here hx rfl (pc0 := 42) (pc' := 53) rfl (hb hby d10_42) rfl ((if0 _ _).trans (feq c112).2) (by decide) (by decide) ?_
      exact k_)
    have p122 : Go p.tables e below _ (T109.setTop (mkF m 55 #[.val (.ref a1), .val (.int x110)] [(.int x110), (.ref a1)])) := fun t_ k_ => p121 t_ (by
      refine XS.aloadN X109.here hx rfl (hb hby d10_53) rfl rfl ?_
      refine XS.iloadN X109.here hx rfl (hb hby d10_54) rfl ?_
      exact k_)
    obtain ⟨T123, h123, X123, e123, W123, st123⟩ := putF X109 hx hZ hown (host := "") (Or.inl (own_w hw 56 rfl)) Via.refl q109_hh F3 E1 (Or.inl (own_w hw 57 rfl)) (own_w hw 6 rfl) (ty := .int) (by decide) rfl rfl (g := (mkF m 55 #[.val (.ref a1), .val (.int x110)] [(.int x110), (.ref a1)])) rfl rfl (hb hby d10_55)
    have K124 : Keep h0 h123 [a1] := (Keep.refl h0 [a1]).wr W123 (Or.inl (List.mem_of_getElem? (i := 0) rfl))
    have N123 := Fr.snoc X123 N109 g1
    have F123 : Fld Z h123 a1 "java/lang/String" "hash" "I" (.int x110) := F3.same W123
    have p125 : Go p.tables e below _ (T123.setTop (mkF m 59 #[.val (.ref a1), .val (.int x110)] [(.int x110)])) := fun t_ k_ => (gc p122 st123) t_ (by
      refine XS.iloadN X123.here hx rfl (hb hby d10_58) rfl ?_
      exact k_)
    have f126 := (E1.wr W123)
    have f127 := (F1.other W123 (Or.inr (slot_ne (Or.inr (own_w hw 32 rfl)) (Or.inl (own_w hw 57 rfl)) (by decide) (t := .byte) (t' := .int) (by decide) (by decide))))
    have f128 := (F2.other W123 (Or.inr (slot_ne (Or.inr (own_w hw 34 rfl)) (Or.inl (own_w hw 57 rfl)) (by decide) (t := (.array .byte)) (t' := .int) (by decide) (by decide))))
    obtain ⟨fs, hr, hrun, hended, hW, hsame⟩ := X123.leave (v := some (.int x110)) (fun h => by rw [Bd.returns] at h; cases h)
    refine ⟨_, _, p125 _ (retI X123 hx Bd.returns (hb hby d10_59) hr), hrun, hended, _, _, rfl, ?_, ⟨_, rfl⟩, hW, hsame.mono (by decide) (by decide)⟩
    show Q10_2 Z a1 v1 k1 b0 b1 cs1 fm h0 n0 _ T123.heap _
    rw [e123]
    exact ⟨_, rfl, N123, K124, f126, f127, f128⟩
theorem ef_rm9_2 (m : MethodId) (a1 : Addr) (bv : Addr) (kv : ClassId) (vs : List Value) : entryFrame m #[(.ref a1)] 1 = mkF m 0 #[.val (.ref a1)] [] := by first | (simp [entryFrame, mkF, argsToLocals, Value.category]; done) | rfl
def Q9_2 (Z : State) (a1 : Addr) (bv : Addr) (kv : ClassId) (vs : List Value) (h0 : Heap) (n0 : Nat) (v : Option Value) (h : Heap) (L : List Loc) : Prop := v = some (.int (0 : Int32)) ∧ Fr n0 L ∧ (h = h0)
set_option maxRecDepth 65536 in
set_option maxHeartbeats 40000000 in
theorem rm9_2 (l : Launch) (Z : State) (a0 : Array Value) (hw : ∀ d ∈ tables_1, d.before a0 Z = true) (ws : List Jvm.Cond) (a1 : Addr) (bv : Addr) (kv : ClassId) (vs : List Value) (h0 : Heap) (n0 : Nat) (Z0 : n0 ≤ h0.size) (F2 : Fld Z h0 a1 "java/lang/String" "value" "[B" (.ref bv)) (V1 : Arv Z h0 bv kv .byte (2 : Int32) vs (.int (0 : Int32))) :
    MetFree l (⟨"java/lang/String", "isEmpty", "()Z"⟩ : MethodName) (head1 (Jvm.Cond.code (⟨"java/lang/String", "isEmpty", "()Z"⟩ : MethodName) jdk_42_method_55_code 1 (some .boolean) :: ws) ({ frames := 0, cells := 0, slots := 0, locals := 0 } : Room)) (fun a U => a = #[(.ref a1)] ∧ Z.Warmed39 U.vm ∧ U.heap = h0) (fun _ _ _ _ _ => True) (fun _ U o U' => ∃ v L, o = .returned v ∧ Q9_2 Z a1 bv kv vs h0 n0 v U'.heap L ∧ FrameEnd U o U' L ({ frames := 0, cells := 0, slots := 0, locals := 0 } : Room).cells ({ frames := 0, cells := 0, slots := 0, locals := 0 } : Room).slots) := by
  refine MetFree.of_bodySF pn9 hisR ?_
  intro p e s m args below meth c s₁ Bd hml0 hP hK
  obtain ⟨rfl, hZ, hh⟩ := hP
  have hx := Bd.exec
  have hby := Bd.bytes
  have hml : c.maxLocals = 1 := hml0
  have hown : s.vm.findClass "java/lang/String" = some m.cls := findClass_of_methodNamed Bd.named
  have hnm := (name_of_methodNamed Bd.named Bd.method).1
  have X0 : Stand p l e ({ frames := 0, cells := 0, slots := 0, locals := 0 } : Room) s m #[(.ref a1)] below meth c s₁ [] 0 0 := Stand.of_body Bd
  have e0 : s₁.heap = h0 := by rw [← hh, Bd.state]; rfl
  have N0 := Fr.nil n0
  have p0 : Go p.tables e below (s₁.setTop (entryFrame m #[(.ref a1)] 1)) (s₁.setTop (mkF m 0 #[.val (.ref a1)] [])) := fun t_ k_ => castTop (ef_rm9_2 m a1 bv kv vs) k_
  have p101 : Go p.tables e below _ (s₁.setTop (mkF m 1 #[.val (.ref a1)] [(.ref a1)])) := fun t_ k_ => p0 t_ (by
    refine XS.aloadN X0.here hx rfl (hb hby d9_0) rfl rfl ?_
    exact k_)
  obtain ⟨T102, X102, e102, st102⟩ := getF X0 hx hZ hown (host := "") (Or.inl (own_w hw 33 rfl)) Via.refl e0 F2 (g := (mkF m 1 #[.val (.ref a1)] [(.ref a1)])) rfl rfl (hb hby d9_1)
  obtain ⟨cl103, Ar103, -, S103, Ng103, -, -⟩ := id V1
  have p104 : Go p.tables e below _ (T102.setTop (mkF m 13 #[.val (.ref a1)] [(.int (0 : Int32))])) := fun t_ k_ => (gc p101 st102) t_ (by
    refine X102.arraylength hx (by rw [e102]; exact Ar103.1) (State.isArrayOf_alike hZ.alike Ar103.2.1) (g := (mkF m 4 #[.val (.ref a1)] [(.ref bv)])) rfl rfl (hb hby d9_4) _ ?_
    rw [len_of S103 Ng103]
    show Steps p.tables e below (T102.setTop (mkF m 5 #[.val (.ref a1)] [(.int (2 : Int32))])) _
    refine XS.ifYes X102.here hx rfl (pc0 := 5) (pc' := 12) rfl (hb hby d9_5) rfl ((if0 _ _).trans (feq (by decide : ¬ ((2 : Int32) = (0 : Int32)))).2) (by decide) (by decide) ?_
    refine XS.iconst X102.here hx rfl (hb hby d9_12) ?_
    exact k_)
  obtain ⟨fs, hr, hrun, hended, hW, hsame⟩ := X102.leave (v := some (.int (0 : Int32))) (fun h => by rw [Bd.returns] at h; cases h)
  refine ⟨_, _, p104 _ (retN X102 hx (t := .boolean) Bd.returns (by simp) (hb hby d9_13) hr), hrun, hended, _, _, rfl, ?_, ⟨_, rfl⟩, hW, hsame.mono (by decide) (by decide)⟩
  show Q9_2 Z a1 bv kv vs h0 n0 _ T102.heap _
  rw [e102]
  exact ⟨rfl, N0, rfl⟩
theorem ef_rm8_2 (m : MethodId) (a1 : Addr) (a2 : Addr) (p3 : Int32) (v2 : Addr) (k2 : ClassId) (b0 : Int32) (b1 : Int32) (cs1 : Int32) (fm : Value) : entryFrame m #[(.ref a1), (.ref a2), (.int p3)] 3 = mkF m 0 #[.val (.ref a1), .val (.ref a2), .val (.int p3)] [] := by first | (simp [entryFrame, mkF, argsToLocals, Value.category]; done) | rfl
def Q8_2 (Z : State) (a1 : Addr) (a2 : Addr) (p3 : Int32) (v2 : Addr) (k2 : ClassId) (b0 : Int32) (b1 : Int32) (cs1 : Int32) (fm : Value) (h0 : Heap) (n0 : Nat) (v : Option Value) (h : Heap) (L : List Loc) : Prop := v = none ∧ Fr n0 L ∧ (Keep h0 h [a1, a2]) ∧ (Fld Z h a1 "com/example/kuusi/kuusi/core/Symbol" "name" "Ljava/lang/String;" (.ref a2)) ∧ (Fld Z h a1 "com/example/kuusi/kuusi/core/Symbol" "rank" "I" (.int p3)) ∧ (Exa Z h a1 "com/example/kuusi/kuusi/core/Symbol") ∧ (Exa Z h a2 "java/lang/String") ∧ (Fld Z h a2 "java/lang/String" "coder" "B" (.int (0 : Int32))) ∧ (Fld Z h a2 "java/lang/String" "value" "[B" (.ref v2))
set_option maxRecDepth 65536 in
set_option maxHeartbeats 40000000 in
theorem rm8_2 (l : Launch) (Z : State) (a0 : Array Value) (hw : ∀ d ∈ tables_1, d.before a0 Z = true) (ws : List Jvm.Cond) (a1 : Addr) (a2 : Addr) (p3 : Int32) (v2 : Addr) (k2 : ClassId) (b0 : Int32) (b1 : Int32) (cs1 : Int32) (fm : Value) (h0 : Heap) (n0 : Nat) (Z0 : n0 ≤ h0.size) (O1 : Old Z n0 h0) (G : own_G Z cs1 fm) (F1 : Fld Z h0 a1 "com/example/kuusi/kuusi/core/Symbol" "name" "Ljava/lang/String;" .null) (F2 : Fld Z h0 a1 "com/example/kuusi/kuusi/core/Symbol" "rank" "I" (.int (0 : Int32))) (F3 : Fld Z h0 a1 "com/example/kuusi/kuusi/core/Symbol" "hash" "I" (.int (0 : Int32))) (E1 : Exa Z h0 a1 "com/example/kuusi/kuusi/core/Symbol") (g1 : n0 ≤ a1) (hr : ¬ (p3 < (0 : Int32))) (E2 : Exa Z h0 a2 "java/lang/String") (G1 : Fld Z h0 a2 "java/lang/String" "coder" "B" (.int (0 : Int32))) (G2 : Fld Z h0 a2 "java/lang/String" "value" "[B" (.ref v2)) (G3 : Fld Z h0 a2 "java/lang/String" "hash" "I" (.int (0 : Int32))) (G4 : Fld Z h0 a2 "java/lang/String" "hashIsZero" "Z" (.int (0 : Int32))) (V2 : Arv Z h0 v2 k2 .byte (2 : Int32) [(.int b0), (.int b1)] (.int (0 : Int32))) (EB : Exa Z h0 v2 "[B") (g2 : n0 ≤ a2) (n1 : a1 ≠ a2) (n2 : a1 ≠ v2) (n3 : a2 ≠ v2) :
    MetFree l (⟨"com/example/kuusi/kuusi/core/Symbol", "<init>", "(Ljava/lang/String;I)V"⟩ : MethodName) (head1 (Jvm.Cond.code (⟨"com/example/kuusi/kuusi/core/Symbol", "<init>", "(Ljava/lang/String;I)V"⟩ : MethodName) prog_78_method_1_code 3 none :: ws) ({ frames := 4, cells := 0, slots := 0, locals := 60 } : Room)) (fun a U => a = #[(.ref a1), (.ref a2), (.int p3)] ∧ Z.Warmed39 U.vm ∧ U.heap = h0) (fun _ _ _ _ _ => True) (fun _ U o U' => ∃ v L, o = .returned v ∧ Q8_2 Z a1 a2 p3 v2 k2 b0 b1 cs1 fm h0 n0 v U'.heap L ∧ FrameEnd U o U' L ({ frames := 4, cells := 0, slots := 0, locals := 60 } : Room).cells ({ frames := 4, cells := 0, slots := 0, locals := 60 } : Room).slots) := by
  refine MetFree.of_bodySF pn8 hisR ?_
  intro p e s m args below meth c s₁ Bd hml0 hP hK
  obtain ⟨rfl, hZ, hh⟩ := hP
  have hx := Bd.exec
  have hby := Bd.bytes
  have hml : c.maxLocals = 3 := hml0
  have hown : s.vm.findClass "com/example/kuusi/kuusi/core/Symbol" = some m.cls := findClass_of_methodNamed Bd.named
  have hnm := (name_of_methodNamed Bd.named Bd.method).1
  have X0 : Stand p l e ({ frames := 4, cells := 0, slots := 0, locals := 60 } : Room) s m #[(.ref a1), (.ref a2), (.int p3)] below meth c s₁ [] 0 0 := Stand.of_body Bd
  have e0 : s₁.heap = h0 := by rw [← hh, Bd.state]; rfl
  have N0 := Fr.nil n0
  have p0 : Go p.tables e below (s₁.setTop (entryFrame m #[(.ref a1), (.ref a2), (.int p3)] 3)) (s₁.setTop (mkF m 0 #[.val (.ref a1), .val (.ref a2), .val (.int p3)] [])) := fun t_ k_ => castTop (ef_rm8_2 m a1 a2 p3 v2 k2 b0 b1 cs1 fm) k_
  have p101 : Go p.tables e below _ (s₁.setTop (mkF m 1 #[.val (.ref a1), .val (.ref a2), .val (.int p3)] [(.ref a1)])) := fun t_ k_ => p0 t_ (by
    refine XS.aloadN X0.here hx rfl (hb hby d8_0) rfl rfl ?_
    exact k_)
  obtain ⟨T102, X102, e102, st102⟩ := initO X0 hx hZ hown (own_w hw 41 rfl) (own_w hw 17 rfl) (own_w hw 18 rfl) e0 (g := (mkF m 1 #[.val (.ref a1), .val (.ref a2), .val (.int p3)] [(.ref a1)])) rfl (by rw [hml]; rfl) rfl (hb hby d8_1) (by decide) (W := 0) (by show 2 * 0 + _ ≤ _; exact Nat.le_of_eq rfl) (by decide)
  have p103 : Go p.tables e below _ (T102.setTop (mkF m 5 #[.val (.ref a1), .val (.ref a2), .val (.int p3)] [(.ref a2)])) := fun t_ k_ => (gc p101 st102) t_ (by
    refine XS.aloadN X102.here hx rfl (hb hby d8_4) rfl rfl ?_
    exact k_)
  obtain ⟨cq104, kq104, q104a, q104b, q104c⟩ := isOf hZ e102 E2
  obtain ⟨_, _, ⟨T104, L104, k104, n104⟩, -, X104, ⟨Lc104, hQ104, l104, y104, z104⟩, st104⟩ := X102.virtualBack hx (y := (⟨"java/lang/String", "isEmpty", "()Z"⟩ : MethodName)) (z := (⟨"java/lang/String", "isEmpty", "()Z"⟩ : MethodName)) hown (mvT hZ (own_w hw 42 rfl)) (mvT hZ (own_w hw 43 rfl)) (notFace_of_selects (args := #[]) (mvT hZ (own_w hw 45 rfl))) (mvT hZ (own_w hw 45 rfl)) (mvT hZ (own_w hw 44 rfl)) (by decide) (backOf (W := 0) (rm9_2 l Z a0 hw [] a2 v2 k2 [(.int b0), (.int b1)] h0 n0 (Nat.le_trans Z0 (Keep.refl h0 [a1, a2]).1) G2 V2) hZ (own_w hw 46 rfl) (own_w hw 7 rfl) (by decide) (by decide)) q104a q104c (g := (mkF m 5 #[.val (.ref a1), .val (.ref a2), .val (.int p3)] [(.ref a2)])) rfl (by rw [hml]; rfl) (Steps.refl _) (argsL := []) (rest := []) (lenOf pd5 rfl) rfl (by show 2 * 0 + _ ≤ _; exact Nat.le_of_eq rfl) (hb hby d8_5) (fun _ _ => ⟨rfl, e102, (by decide : 0 + 0 ≤ _), (by decide : 0 + 0 ≤ _)⟩)
  dsimp only [Pt.U, Pt.locs, Pt.cells, Pt.slots] at X104 l104 y104 z104 st104 hQ104
  subst l104 y104 z104
  obtain ⟨rfl, N104q, q104_hh⟩ := hQ104
  have N104 := Fr.app N0 N104q
  have p105 : Go p.tables e below _ (T104.setTop (mkF m 22 #[.val (.ref a1), .val (.ref a2), .val (.int p3)] [(.int p3)])) := fun t_ k_ => (gcT p103 st104) t_ (by
    refine XS.ifYes X104.here hx rfl (pc0 := 8) (pc' := 21) rfl (hb hby d8_8) rfl ((if0 _ _).trans (teq (by decide : ((0 : Int32) = (0 : Int32)))).1) (by decide) (by decide) ?_
    refine XS.iloadN X104.here hx rfl (hb hby d8_21) rfl ?_
    exact k_)
  have c106 : ¬ (p3 < (0 : Int32)) := hr
  have p107 : Go p.tables e below _ (T104.setTop (mkF m 42 #[.val (.ref a1), .val (.ref a2), .val (.int p3)] [(.ref a2), (.ref a1)])) := fun t_ k_ => p105 t_ (by
    refine XS.ifYes X104.here hx rfl (pc0 := 22) (pc' := 40) rfl (hb hby d8_22) rfl ((if0 _ _).trans (flt c106).2.1) (by decide) (by decide) ?_
    refine XS.aloadN X104.here hx rfl (hb hby d8_40) rfl rfl ?_
    refine XS.aloadN X104.here hx rfl (hb hby d8_41) rfl rfl ?_
    exact k_)
  obtain ⟨T108, h108, X108, e108, W108, st108⟩ := putF X104 hx hZ hown (host := "") (Or.inl (own_w hw 47 rfl)) Via.refl q104_hh F1 E1 (Or.inr ⟨(own_w hw 48 rfl), rfl, hnm⟩) (own_w hw 36 rfl) (ty := (.object "java/lang/String")) (by decide) rfl rfl (g := (mkF m 42 #[.val (.ref a1), .val (.ref a2), .val (.int p3)] [(.ref a2), (.ref a1)])) rfl rfl (hb hby d8_42)
  have K109 : Keep h0 h108 [a1, a2] := (Keep.refl h0 [a1, a2]).wr W108 (Or.inl (List.mem_of_getElem? (i := 0) rfl))
  have N108 := Fr.snoc X108 N104 g1
  have F108 : Fld Z h108 a1 "com/example/kuusi/kuusi/core/Symbol" "name" "Ljava/lang/String;" (.ref a2) := F1.same W108
  have p110 : Go p.tables e below _ (T108.setTop (mkF m 47 #[.val (.ref a1), .val (.ref a2), .val (.int p3)] [(.int p3), (.ref a1)])) := fun t_ k_ => (gc p107 st108) t_ (by
    refine XS.aloadN X108.here hx rfl (hb hby d8_45) rfl rfl ?_
    refine XS.iloadN X108.here hx rfl (hb hby d8_46) rfl ?_
    exact k_)
  have f111 := (F2.other W108 (Or.inr (slot_ne (Or.inr (own_w hw 50 rfl)) (Or.inr (own_w hw 48 rfl)) (by decide) (t := .int) (t' := (.object "java/lang/String")) (by decide) (by decide))))
  have f112 := (E1.wr W108)
  obtain ⟨T113, h113, X113, e113, W113, st113⟩ := putF X108 hx hZ hown (host := "") (Or.inl (own_w hw 49 rfl)) Via.refl e108 f111 f112 (Or.inr ⟨(own_w hw 50 rfl), rfl, hnm⟩) (own_w hw 36 rfl) (ty := .int) (by decide) rfl rfl (g := (mkF m 47 #[.val (.ref a1), .val (.ref a2), .val (.int p3)] [(.int p3), (.ref a1)])) rfl rfl (hb hby d8_47)
  have K114 : Keep h0 h113 [a1, a2] := K109.wr W113 (Or.inl (List.mem_of_getElem? (i := 0) rfl))
  have N113 := Fr.snoc X113 N108 g1
  have F113 : Fld Z h113 a1 "com/example/kuusi/kuusi/core/Symbol" "rank" "I" (.int p3) := f111.same W113
  have p115 : Go p.tables e below _ (T113.setTop (mkF m 54 #[.val (.ref a1), .val (.ref a2), .val (.int p3)] [(.ref a2), (.int (31 : Int32)), (.ref a1)])) := fun t_ k_ => (gc p110 st113) t_ (by
    refine XS.aloadN X113.here hx rfl (hb hby d8_50) rfl rfl ?_
    refine XS.bipush X113.here hx rfl (hb hby d8_51) ?_
    refine XS.aloadN X113.here hx rfl (hb hby d8_53) rfl rfl ?_
    exact k_)
  have f116 := ((O1.wr W108 g1).wr W113 g1)
  have f117 := ((G1.other W108 (Or.inl (Ne.symm n1))).other W113 (Or.inl (Ne.symm n1)))
  have f118 := ((G2.other W108 (Or.inl (Ne.symm n1))).other W113 (Or.inl (Ne.symm n1)))
  have f119 := ((G3.other W108 (Or.inl (Ne.symm n1))).other W113 (Or.inl (Ne.symm n1)))
  have f120 := ((G4.other W108 (Or.inl (Ne.symm n1))).other W113 (Or.inl (Ne.symm n1)))
  have f121 := ((E2.wr W108).wr W113)
  have f122 := ((V2.other W108 (Ne.symm n2)).other W113 (Ne.symm n2))
  have f123 := ((EB.wr W108).wr W113)
  obtain ⟨cq124, kq124, q124a, q124b, q124c⟩ := isOf hZ e113 f121
  obtain ⟨_, _, ⟨T124, L124, k124, n124⟩, -, X124, ⟨Lc124, hQ124, l124, y124, z124⟩, st124⟩ := X113.virtualBack hx (y := (⟨"java/lang/String", "hashCode", "()I"⟩ : MethodName)) (z := (⟨"java/lang/String", "hashCode", "()I"⟩ : MethodName)) hown (mvT hZ (own_w hw 51 rfl)) (mvT hZ (own_w hw 52 rfl)) (notFace_of_selects (args := #[]) (mvT hZ (own_w hw 54 rfl))) (mvT hZ (own_w hw 54 rfl)) (mvT hZ (own_w hw 53 rfl)) (by decide) (backOf (W := 2) (rm10_2 l Z a0 hw [] a2 v2 k2 b0 b1 cs1 fm h113 n0 (Nat.le_trans Z0 K114.1) f116 G f117 f118 f119 f120 f121 g2 n3 f122 f123) hZ (own_w hw 55 rfl) (own_w hw 7 rfl) (by decide) (by decide)) q124a q124c (g := (mkF m 54 #[.val (.ref a1), .val (.ref a2), .val (.int p3)] [(.ref a2), (.int (31 : Int32)), (.ref a1)])) rfl (by rw [hml]; rfl) (Steps.refl _) (argsL := []) (rest := [(.int (31 : Int32)), (.ref a1)]) (lenOf pd7 rfl) rfl (by show 2 * 0 + _ ≤ _; exact Nat.le_of_eq rfl) (hb hby d8_54) (fun _ _ => ⟨rfl, e113, (by decide : 0 + 0 ≤ _), (by decide : 0 + 0 ≤ _)⟩)
  dsimp only [Pt.U, Pt.locs, Pt.cells, Pt.slots] at X124 l124 y124 z124 st124 hQ124
  subst l124 y124 z124
  obtain ⟨x125, rfl, N124q, q124_K, q124_E, q124_c, q124_v⟩ := hQ124
  have N124 := Fr.app N113 N124q
  have K126 : Keep h0 T124.heap [a1, a2] := K114.trans q124_K (allS (Or.inl (List.mem_of_getElem? (i := 1) rfl)) all0)
  have p127 : Go p.tables e below _ (T124.setTop (mkF m 60 #[.val (.ref a1), .val (.ref a2), .val (.int p3)] [(.int (((31 : Int32) * x125) + p3)), (.ref a1)])) := fun t_ k_ => (gcT p115 st124) t_ (by
    refine XS.imul X124.here hx rfl (hb hby d8_57) rfl ?_
    refine XS.iloadN X124.here hx rfl (hb hby d8_58) rfl ?_
    refine XS.iadd X124.here hx rfl (hb hby d8_59) rfl ?_
    exact k_)
  have f128 := (((F3.other W108 (Or.inr (slot_ne (Or.inr (own_w hw 70 rfl)) (Or.inr (own_w hw 48 rfl)) (by decide) (t := .int) (t' := (.object "java/lang/String")) (by decide) (by decide)))).other W113 (Or.inr (slot_ne (Or.inr (own_w hw 70 rfl)) (Or.inr (own_w hw 50 rfl)) (by decide) (t := .int) (t' := .int) (by decide) (by decide)))).keep q124_K (ninS n1 nin0))
  have f129 := ((f112.wr W113).keep q124_K)
  obtain ⟨T130, h130, X130, e130, W130, st130⟩ := putF X124 hx hZ hown (host := "") (Or.inl (own_w hw 69 rfl)) Via.refl rfl f128 f129 (Or.inr ⟨(own_w hw 70 rfl), rfl, hnm⟩) (own_w hw 36 rfl) (ty := .int) (by decide) rfl rfl (g := (mkF m 60 #[.val (.ref a1), .val (.ref a2), .val (.int p3)] [(.int (((31 : Int32) * x125) + p3)), (.ref a1)])) rfl rfl (hb hby d8_60)
  have K131 : Keep h0 h130 [a1, a2] := K126.wr W130 (Or.inl (List.mem_of_getElem? (i := 0) rfl))
  have N130 := Fr.snoc X130 N124 g1
  have F130 : Fld Z h130 a1 "com/example/kuusi/kuusi/core/Symbol" "hash" "I" (.int (((31 : Int32) * x125) + p3)) := f128.same W130
  have f132 := (((F108.other W113 (Or.inr (slot_ne (Or.inr (own_w hw 48 rfl)) (Or.inr (own_w hw 50 rfl)) (by decide) (t := (.object "java/lang/String")) (t' := .int) (by decide) (by decide)))).keep q124_K (ninS n1 nin0)).other W130 (Or.inr (slot_ne (Or.inr (own_w hw 48 rfl)) (Or.inr (own_w hw 70 rfl)) (by decide) (t := (.object "java/lang/String")) (t' := .int) (by decide) (by decide))))
  have f133 := ((F113.keep q124_K (ninS n1 nin0)).other W130 (Or.inr (slot_ne (Or.inr (own_w hw 50 rfl)) (Or.inr (own_w hw 70 rfl)) (by decide) (t := .int) (t' := .int) (by decide) (by decide))))
  have f134 := (f129.wr W130)
  have f135 := (q124_E.wr W130)
  have f136 := (q124_c.other W130 (Or.inl (Ne.symm n1)))
  have f137 := (q124_v.other W130 (Or.inl (Ne.symm n1)))
  obtain ⟨fs, hr, hrun, hended, hW, hsame⟩ := X130.leave (v := none) (fun _ => rfl)
  refine ⟨_, _, (gc p127 st130) _ (X130.returnOut hx Bd.returns (hb hby d8_63) hr), hrun, hended, _, _, rfl, ?_, ⟨_, rfl⟩, hW, hsame.mono (by decide) (by decide)⟩
  show Q8_2 Z a1 a2 p3 v2 k2 b0 b1 cs1 fm h0 n0 _ T130.heap _
  rw [e130]
  exact ⟨rfl, N130, K131, f132, f133, f134, f135, f136, f137⟩
theorem d15_0 : decode jdk_43_method_13_code 0 = .ok (.aload_n 0, 1) := by decide +kernel
theorem d15_1 : decode jdk_43_method_13_code 1 = .ok (.arraylength, 1) := by decide +kernel
theorem d15_2 : decode jdk_43_method_13_code 2 = .ok (.aload_n 1, 1) := by decide +kernel
theorem d15_3 : decode jdk_43_method_13_code 3 = .ok (.arraylength, 1) := by decide +kernel
theorem d15_4 : decode jdk_43_method_13_code 4 = .ok (.if_icmp .ne 30, 3) := by decide +kernel
theorem d15_7 : decode jdk_43_method_13_code 7 = .ok (.iconst 0, 1) := by decide +kernel
theorem d15_8 : decode jdk_43_method_13_code 8 = .ok (.istore_n 2, 1) := by decide +kernel
theorem d15_9 : decode jdk_43_method_13_code 9 = .ok (.iload_n 2, 1) := by decide +kernel
theorem d15_10 : decode jdk_43_method_13_code 10 = .ok (.aload_n 0, 1) := by decide +kernel
theorem d15_11 : decode jdk_43_method_13_code 11 = .ok (.arraylength, 1) := by decide +kernel
theorem d15_12 : decode jdk_43_method_13_code 12 = .ok (.if_icmp .ge 20, 3) := by decide +kernel
theorem d15_15 : decode jdk_43_method_13_code 15 = .ok (.aload_n 0, 1) := by decide +kernel
theorem d15_16 : decode jdk_43_method_13_code 16 = .ok (.iload_n 2, 1) := by decide +kernel
theorem d15_17 : decode jdk_43_method_13_code 17 = .ok (.baload, 1) := by decide +kernel
theorem d15_18 : decode jdk_43_method_13_code 18 = .ok (.aload_n 1, 1) := by decide +kernel
theorem d15_19 : decode jdk_43_method_13_code 19 = .ok (.iload_n 2, 1) := by decide +kernel
theorem d15_20 : decode jdk_43_method_13_code 20 = .ok (.baload, 1) := by decide +kernel
theorem d15_21 : decode jdk_43_method_13_code 21 = .ok (.if_icmp .eq 5, 3) := by decide +kernel
theorem d15_24 : decode jdk_43_method_13_code 24 = .ok (.iconst 0, 1) := by decide +kernel
theorem d15_25 : decode jdk_43_method_13_code 25 = .ok (.ireturn, 1) := by decide +kernel
theorem d15_26 : decode jdk_43_method_13_code 26 = .ok (.iinc 2 1, 3) := by decide +kernel
theorem d15_29 : decode jdk_43_method_13_code 29 = .ok (.goto (-20), 3) := by decide +kernel
theorem d15_32 : decode jdk_43_method_13_code 32 = .ok (.iconst 1, 1) := by decide +kernel
theorem d15_33 : decode jdk_43_method_13_code 33 = .ok (.ireturn, 1) := by decide +kernel
theorem pn15 : plainFor (⟨"java/lang/StringLatin1", "equals", "([B[B)Z"⟩ : MethodName) = true := plainFor_of_name (by first | (simp [plainName, overriddenIn]; done) | decide +kernel)
theorem ef_rm15_11 (m : MethodId) (a1 : Addr) (a2 : Addr) (k1 : ClassId) (k2 : ClassId) (b0 : Int32) (d0 : Int32) : entryFrame m #[(.ref a1), (.ref a2)] 3 = mkF m 0 #[.val (.ref a1), .val (.ref a2), .unset] [] := by first | (simp [entryFrame, mkF, argsToLocals, Value.category]; done) | rfl
def Q15_11 (Z : State) (a1 : Addr) (a2 : Addr) (k1 : ClassId) (k2 : ClassId) (b0 : Int32) (d0 : Int32) (h0 : Heap) (n0 : Nat) (v : Option Value) (h : Heap) (L : List Loc) : Prop := v = some (.int (if b0 = d0 then (1 : Int32) else (0 : Int32))) ∧ Fr n0 L ∧ (h = h0)
set_option maxRecDepth 65536 in
set_option maxHeartbeats 40000000 in
theorem rm15_11 (l : Launch) (Z : State) (a0 : Array Value) (hw : ∀ d ∈ tables_1, d.before a0 Z = true) (ws : List Jvm.Cond) (a1 : Addr) (a2 : Addr) (k1 : ClassId) (k2 : ClassId) (b0 : Int32) (d0 : Int32) (h0 : Heap) (n0 : Nat) (Z0 : n0 ≤ h0.size) (V1 : Arv Z h0 a1 k1 .byte (1 : Int32) [(.int b0)] (.int (0 : Int32))) (V2 : Arv Z h0 a2 k2 .byte (1 : Int32) [(.int d0)] (.int (0 : Int32))) :
    MetFree l (⟨"java/lang/StringLatin1", "equals", "([B[B)Z"⟩ : MethodName) (head1 (Jvm.Cond.code (⟨"java/lang/StringLatin1", "equals", "([B[B)Z"⟩ : MethodName) jdk_43_method_13_code 3 (some .boolean) :: ws) ({ frames := 0, cells := 0, slots := 0, locals := 0 } : Room)) (fun a U => a = #[(.ref a1), (.ref a2)] ∧ Z.Warmed39 U.vm ∧ U.heap = h0) (fun _ _ _ _ _ => True) (fun _ U o U' => ∃ v L, o = .returned v ∧ Q15_11 Z a1 a2 k1 k2 b0 d0 h0 n0 v U'.heap L ∧ FrameEnd U o U' L ({ frames := 0, cells := 0, slots := 0, locals := 0 } : Room).cells ({ frames := 0, cells := 0, slots := 0, locals := 0 } : Room).slots) := by
  refine MetFree.of_bodySF pn15 hisR ?_
  intro p e s m args below meth c s₁ Bd hml0 hP hK
  obtain ⟨rfl, hZ, hh⟩ := hP
  have hx := Bd.exec
  have hby := Bd.bytes
  have hml : c.maxLocals = 3 := hml0
  have hown : s.vm.findClass "java/lang/StringLatin1" = some m.cls := findClass_of_methodNamed Bd.named
  have hnm := (name_of_methodNamed Bd.named Bd.method).1
  have X0 : Stand p l e ({ frames := 0, cells := 0, slots := 0, locals := 0 } : Room) s m #[(.ref a1), (.ref a2)] below meth c s₁ [] 0 0 := Stand.of_body Bd
  have e0 : s₁.heap = h0 := by rw [← hh, Bd.state]; rfl
  have N0 := Fr.nil n0
  have p0 : Go p.tables e below (s₁.setTop (entryFrame m #[(.ref a1), (.ref a2)] 3)) (s₁.setTop (mkF m 0 #[.val (.ref a1), .val (.ref a2), .unset] [])) := fun t_ k_ => castTop (ef_rm15_11 m a1 a2 k1 k2 b0 d0) k_
  have p101 : Go p.tables e below _ (s₁.setTop (mkF m 1 #[.val (.ref a1), .val (.ref a2), .unset] [(.ref a1)])) := fun t_ k_ => p0 t_ (by
    refine XS.aloadN X0.here hx rfl (hb hby d15_0) rfl rfl ?_
    exact k_)
  obtain ⟨cl102, Ar102, -, S102, Ng102, -, -⟩ := id V1
  have p103 : Go p.tables e below _ (s₁.setTop (mkF m 3 #[.val (.ref a1), .val (.ref a2), .unset] [(.ref a2), (.int (1 : Int32))])) := fun t_ k_ => p101 t_ (by
    refine X0.arraylength hx (by rw [e0]; exact Ar102.1) (State.isArrayOf_alike hZ.alike Ar102.2.1) (g := (mkF m 1 #[.val (.ref a1), .val (.ref a2), .unset] [(.ref a1)])) rfl rfl (hb hby d15_1) _ ?_
    rw [len_of S102 Ng102]
    show Steps p.tables e below (s₁.setTop (mkF m 2 #[.val (.ref a1), .val (.ref a2), .unset] [(.int (1 : Int32))])) _
    refine XS.aloadN X0.here hx rfl (hb hby d15_2) rfl rfl ?_
    exact k_)
  obtain ⟨cl104, Ar104, -, S104, Ng104, -, -⟩ := id V2
  have p105 : Go p.tables e below _ (s₁.setTop (mkF m 11 #[.val (.ref a1), .val (.ref a2), .val (.int (0 : Int32))] [(.ref a1), (.int (0 : Int32))])) := fun t_ k_ => p103 t_ (by
    refine X0.arraylength hx (by rw [e0]; exact Ar104.1) (State.isArrayOf_alike hZ.alike Ar104.2.1) (g := (mkF m 3 #[.val (.ref a1), .val (.ref a2), .unset] [(.ref a2), (.int (1 : Int32))])) rfl rfl (hb hby d15_3) _ ?_
    rw [len_of S104 Ng104]
    show Steps p.tables e below (s₁.setTop (mkF m 4 #[.val (.ref a1), .val (.ref a2), .unset] [(.int (1 : Int32)), (.int (1 : Int32))])) _
    refine XS.icmpNo X0.here hx rfl (hb hby d15_4) rfl (teq (by decide : ((1 : Int32) = (1 : Int32)))).2 ?_
    refine XS.iconst X0.here hx rfl (hb hby d15_7) ?_
    refine XS.istoreN X0.here hx rfl (hb hby d15_8) rfl (l' := #[.val (.ref a1), .val (.ref a2), .val (.int (0 : Int32))]) rfl ?_
    refine XS.iloadN X0.here hx rfl (hb hby d15_9) rfl ?_
    refine XS.aloadN X0.here hx rfl (hb hby d15_10) rfl rfl ?_
    exact k_)
  obtain ⟨cl106, Ar106, -, S106, Ng106, -, -⟩ := id V1
  have p107 : Go p.tables e below _ (s₁.setTop (mkF m 17 #[.val (.ref a1), .val (.ref a2), .val (.int (0 : Int32))] [(.int (0 : Int32)), (.ref a1)])) := fun t_ k_ => p105 t_ (by
    refine X0.arraylength hx (by rw [e0]; exact Ar106.1) (State.isArrayOf_alike hZ.alike Ar106.2.1) (g := (mkF m 11 #[.val (.ref a1), .val (.ref a2), .val (.int (0 : Int32))] [(.ref a1), (.int (0 : Int32))])) rfl rfl (hb hby d15_11) _ ?_
    rw [len_of S106 Ng106]
    show Steps p.tables e below (s₁.setTop (mkF m 12 #[.val (.ref a1), .val (.ref a2), .val (.int (0 : Int32))] [(.int (1 : Int32)), (.int (0 : Int32))])) _
    refine XS.icmpNo X0.here hx rfl (hb hby d15_12) rfl (tlt (by decide : ((0 : Int32) < (1 : Int32)))).2.1 ?_
    refine XS.aloadN X0.here hx rfl (hb hby d15_15) rfl rfl ?_
    refine XS.iloadN X0.here hx rfl (hb hby d15_16) rfl ?_
    exact k_)
  obtain ⟨cl108, Ar108, q108, S108, Ng108, H108, G108⟩ := id V1
  have hin108 := inb_of S108 (j := (0 : Int32)) ⟨by decide, by decide⟩
  have hat108 := H108.at (v := (.int b0)) hin108 rfl
  have p109 : Go p.tables e below _ (s₁.setTop (mkF m 20 #[.val (.ref a1), .val (.ref a2), .val (.int (0 : Int32))] [(.int (0 : Int32)), (.ref a2), (.int b0)])) := fun t_ k_ => p107 t_ (by
    refine X0.baloadBytes hx (j := (0 : Int32)) (v := (.int b0)) (by rw [e0]; exact Ar108.1) (State.isArrayOf_alike hZ.alike Ar108.2.1) Ar108.2.2 hin108 hat108 (g := (mkF m 17 #[.val (.ref a1), .val (.ref a2), .val (.int (0 : Int32))] [(.int (0 : Int32)), (.ref a1)])) rfl rfl (hb hby d15_17) _ ?_
    refine XS.aloadN X0.here hx rfl (hb hby d15_18) rfl rfl ?_
    refine XS.iloadN X0.here hx rfl (hb hby d15_19) rfl ?_
    exact k_)
  obtain ⟨cl110, Ar110, q110, S110, Ng110, H110, G110⟩ := id V2
  have hin110 := inb_of S110 (j := (0 : Int32)) ⟨by decide, by decide⟩
  have hat110 := H110.at (v := (.int d0)) hin110 rfl
  have p111 : Go p.tables e below _ (s₁.setTop (mkF m 21 #[.val (.ref a1), .val (.ref a2), .val (.int (0 : Int32))] [(.int d0), (.int b0)])) := fun t_ k_ => p109 t_ (by
    refine X0.baloadBytes hx (j := (0 : Int32)) (v := (.int d0)) (by rw [e0]; exact Ar110.1) (State.isArrayOf_alike hZ.alike Ar110.2.1) Ar110.2.2 hin110 hat110 (g := (mkF m 20 #[.val (.ref a1), .val (.ref a2), .val (.int (0 : Int32))] [(.int (0 : Int32)), (.ref a2), (.int b0)])) rfl rfl (hb hby d15_20) _ ?_
    exact k_)
  by_cases c112 : b0 = d0
  · have p113 : Go p.tables e below _ (s₁.setTop (mkF m 26 #[.val (.ref a1), .val (.ref a2), .val (.int (0 : Int32))] [])) := fun t_ k_ => p111 t_ (by
      refine XS.icmpYes X0.here hx rfl (pc0 := 21) (pc' := 26) rfl (hb hby d15_21) rfl (teq c112).1 (by decide) (by decide) ?_
      exact k_)
    have p114 : Go p.tables e below _ (s₁.setTop (mkF m 11 #[.val (.ref a1), .val (.ref a2), .val (.int (1 : Int32))] [(.ref a1), (.int (1 : Int32))])) := fun t_ k_ => p113 t_ (by
      refine XS.iinc X0.here hx rfl (hb hby d15_26) rfl (l' := #[.val (.ref a1), .val (.ref a2), .val (.int (1 : Int32))]) rfl ?_
      refine XS.goto X0.here hx rfl (pc0 := 29) (pc' := 9) rfl (hb hby d15_29) (by decide) (by decide) ?_
      refine XS.iloadN X0.here hx rfl (hb hby d15_9) rfl ?_
      refine XS.aloadN X0.here hx rfl (hb hby d15_10) rfl rfl ?_
      exact k_)
    obtain ⟨cl115, Ar115, -, S115, Ng115, -, -⟩ := id V1
    have p116 : Go p.tables e below _ (s₁.setTop (mkF m 33 #[.val (.ref a1), .val (.ref a2), .val (.int (1 : Int32))] [(.int (1 : Int32))])) := fun t_ k_ => p114 t_ (by
      refine X0.arraylength hx (by rw [e0]; exact Ar115.1) (State.isArrayOf_alike hZ.alike Ar115.2.1) (g := (mkF m 11 #[.val (.ref a1), .val (.ref a2), .val (.int (1 : Int32))] [(.ref a1), (.int (1 : Int32))])) rfl rfl (hb hby d15_11) _ ?_
      rw [len_of S115 Ng115]
      show Steps p.tables e below (s₁.setTop (mkF m 12 #[.val (.ref a1), .val (.ref a2), .val (.int (1 : Int32))] [(.int (1 : Int32)), (.int (1 : Int32))])) _
      refine XS.icmpYes X0.here hx rfl (pc0 := 12) (pc' := 32) rfl (hb hby d15_12) rfl (flt (by decide : ¬ ((1 : Int32) < (1 : Int32)))).2.1 (by decide) (by decide) ?_
      refine XS.iconst X0.here hx rfl (hb hby d15_32) ?_
      exact k_)
    obtain ⟨fs, hr, hrun, hended, hW, hsame⟩ := X0.leave (v := some (.int (1 : Int32))) (fun h => by rw [Bd.returns] at h; cases h)
    refine ⟨_, _, p116 _ (retN X0 hx (t := .boolean) Bd.returns (by simp) (hb hby d15_33) hr), hrun, hended, _, _, rfl, ?_, ⟨_, rfl⟩, hW, hsame.mono (by decide) (by decide)⟩
    show Q15_11 Z a1 a2 k1 k2 b0 d0 h0 n0 _ s₁.heap _
    rw [e0]
    exact ⟨by simp [c112], N0, rfl⟩
  · have p117 : Go p.tables e below _ (s₁.setTop (mkF m 24 #[.val (.ref a1), .val (.ref a2), .val (.int (0 : Int32))] [])) := fun t_ k_ => p111 t_ (by
      refine XS.icmpNo X0.here hx rfl (hb hby d15_21) rfl (feq c112).1 ?_
      exact k_)
    have p118 : Go p.tables e below _ (s₁.setTop (mkF m 25 #[.val (.ref a1), .val (.ref a2), .val (.int (0 : Int32))] [(.int (0 : Int32))])) := fun t_ k_ => p117 t_ (by
      refine XS.iconst X0.here hx rfl (hb hby d15_24) ?_
      exact k_)
    obtain ⟨fs, hr, hrun, hended, hW, hsame⟩ := X0.leave (v := some (.int (0 : Int32))) (fun h => by rw [Bd.returns] at h; cases h)
    refine ⟨_, _, p118 _ (retN X0 hx (t := .boolean) Bd.returns (by simp) (hb hby d15_25) hr), hrun, hended, _, _, rfl, ?_, ⟨_, rfl⟩, hW, hsame.mono (by decide) (by decide)⟩
    show Q15_11 Z a1 a2 k1 k2 b0 d0 h0 n0 _ s₁.heap _
    rw [e0]
    exact ⟨by simp [c112], N0, rfl⟩
theorem d14_0 : decode jdk_42_method_66_code 0 = .ok (.aload_n 0, 1) := by decide +kernel
theorem d14_1 : decode jdk_42_method_66_code 1 = .ok (.aload_n 1, 1) := by decide +kernel
theorem d14_2 : decode jdk_42_method_66_code 2 = .ok (.if_acmp .ne 5, 3) := by decide +kernel
theorem d14_7 : decode jdk_42_method_66_code 7 = .ok (.aload_n 1, 1) := by decide +kernel
theorem d14_8 : decode jdk_42_method_66_code 8 = .ok (.instanceof 10, 3) := by decide +kernel
theorem d14_11 : decode jdk_42_method_66_code 11 = .ok (.ifCond .eq 43, 3) := by decide +kernel
theorem d14_14 : decode jdk_42_method_66_code 14 = .ok (.aload_n 1, 1) := by decide +kernel
theorem d14_15 : decode jdk_42_method_66_code 15 = .ok (.checkcast 10, 3) := by decide +kernel
theorem d14_18 : decode jdk_42_method_66_code 18 = .ok (.astore_n 2, 1) := by decide +kernel
theorem d14_19 : decode jdk_42_method_66_code 19 = .ok (.getstatic 38, 3) := by decide +kernel
theorem d14_22 : decode jdk_42_method_66_code 22 = .ok (.ifCond .eq 14, 3) := by decide +kernel
theorem d14_25 : decode jdk_42_method_66_code 25 = .ok (.aload_n 0, 1) := by decide +kernel
theorem d14_26 : decode jdk_42_method_66_code 26 = .ok (.getfield 15, 3) := by decide +kernel
theorem d14_29 : decode jdk_42_method_66_code 29 = .ok (.aload_n 2, 1) := by decide +kernel
theorem d14_30 : decode jdk_42_method_66_code 30 = .ok (.getfield 15, 3) := by decide +kernel
theorem d14_33 : decode jdk_42_method_66_code 33 = .ok (.if_icmp .ne 21, 3) := by decide +kernel
theorem d14_36 : decode jdk_42_method_66_code 36 = .ok (.aload_n 0, 1) := by decide +kernel
theorem d14_37 : decode jdk_42_method_66_code 37 = .ok (.getfield 9, 3) := by decide +kernel
theorem d14_40 : decode jdk_42_method_66_code 40 = .ok (.aload_n 2, 1) := by decide +kernel
theorem d14_41 : decode jdk_42_method_66_code 41 = .ok (.getfield 9, 3) := by decide +kernel
theorem d14_44 : decode jdk_42_method_66_code 44 = .ok (.invokestatic 541, 3) := by decide +kernel
theorem d14_47 : decode jdk_42_method_66_code 47 = .ok (.ifCond .eq 7, 3) := by decide +kernel
theorem d14_50 : decode jdk_42_method_66_code 50 = .ok (.iconst 1, 1) := by decide +kernel
theorem d14_51 : decode jdk_42_method_66_code 51 = .ok (.goto 4, 3) := by decide +kernel
theorem d14_54 : decode jdk_42_method_66_code 54 = .ok (.iconst 0, 1) := by decide +kernel
theorem d14_55 : decode jdk_42_method_66_code 55 = .ok (.ireturn, 1) := by decide +kernel
theorem pd10 : parseMethodDescriptor "([B[B)Z" = some ⟨[(.array .byte), (.array .byte)], some .boolean⟩ := by decide +kernel
theorem pn14 : plainFor (⟨"java/lang/String", "equals", "(Ljava/lang/Object;)Z"⟩ : MethodName) = true := plainFor_of_name (by first | (simp [plainName, overriddenIn]; done) | decide +kernel)
theorem ef_rm14_11 (m : MethodId) (a1 : Addr) (a2 : Addr) (v1 : Addr) (v2 : Addr) (k1 : ClassId) (k2 : ClassId) (b0 : Int32) (d0 : Int32) (cs1 : Int32) (fm : Value) : entryFrame m #[(.ref a1), (.ref a2)] 3 = mkF m 0 #[.val (.ref a1), .val (.ref a2), .unset] [] := by first | (simp [entryFrame, mkF, argsToLocals, Value.category]; done) | rfl
def Q14_11 (Z : State) (a1 : Addr) (a2 : Addr) (v1 : Addr) (v2 : Addr) (k1 : ClassId) (k2 : ClassId) (b0 : Int32) (d0 : Int32) (cs1 : Int32) (fm : Value) (h0 : Heap) (n0 : Nat) (v : Option Value) (h : Heap) (L : List Loc) : Prop := v = some (.int (if b0 = d0 then (1 : Int32) else (0 : Int32))) ∧ Fr n0 L ∧ (h = h0)
set_option maxRecDepth 65536 in
set_option maxHeartbeats 40000000 in
theorem rm14_11 (l : Launch) (Z : State) (a0 : Array Value) (hw : ∀ d ∈ tables_1, d.before a0 Z = true) (ws : List Jvm.Cond) (a1 : Addr) (a2 : Addr) (v1 : Addr) (v2 : Addr) (k1 : ClassId) (k2 : ClassId) (b0 : Int32) (d0 : Int32) (cs1 : Int32) (fm : Value) (h0 : Heap) (n0 : Nat) (Z0 : n0 ≤ h0.size) (O1 : Old Z n0 h0) (G : own_G Z cs1 fm) (ne : a1 ≠ a2) (E2 : Exa Z h0 a2 "java/lang/String") (F1 : Fld Z h0 a1 "java/lang/String" "coder" "B" (.int (0 : Int32))) (F2 : Fld Z h0 a2 "java/lang/String" "coder" "B" (.int (0 : Int32))) (F3 : Fld Z h0 a1 "java/lang/String" "value" "[B" (.ref v1)) (F4 : Fld Z h0 a2 "java/lang/String" "value" "[B" (.ref v2)) (V1 : Arv Z h0 v1 k1 .byte (1 : Int32) [(.int b0)] (.int (0 : Int32))) (V2 : Arv Z h0 v2 k2 .byte (1 : Int32) [(.int d0)] (.int (0 : Int32))) :
    MetFree l (⟨"java/lang/String", "equals", "(Ljava/lang/Object;)Z"⟩ : MethodName) (head1 (Jvm.Cond.code (⟨"java/lang/String", "equals", "(Ljava/lang/Object;)Z"⟩ : MethodName) jdk_42_method_66_code 3 (some .boolean) :: ws) ({ frames := 1, cells := 0, slots := 0, locals := 14 } : Room)) (fun a U => a = #[(.ref a1), (.ref a2)] ∧ Z.Warmed39 U.vm ∧ U.heap = h0) (fun _ _ _ _ _ => True) (fun _ U o U' => ∃ v L, o = .returned v ∧ Q14_11 Z a1 a2 v1 v2 k1 k2 b0 d0 cs1 fm h0 n0 v U'.heap L ∧ FrameEnd U o U' L ({ frames := 1, cells := 0, slots := 0, locals := 14 } : Room).cells ({ frames := 1, cells := 0, slots := 0, locals := 14 } : Room).slots) := by
  refine MetFree.of_bodySF pn14 hisR ?_
  intro p e s m args below meth c s₁ Bd hml0 hP hK
  obtain ⟨rfl, hZ, hh⟩ := hP
  have hx := Bd.exec
  have hby := Bd.bytes
  have hml : c.maxLocals = 3 := hml0
  have hown : s.vm.findClass "java/lang/String" = some m.cls := findClass_of_methodNamed Bd.named
  have hnm := (name_of_methodNamed Bd.named Bd.method).1
  have X0 : Stand p l e ({ frames := 1, cells := 0, slots := 0, locals := 14 } : Room) s m #[(.ref a1), (.ref a2)] below meth c s₁ [] 0 0 := Stand.of_body Bd
  have e0 : s₁.heap = h0 := by rw [← hh, Bd.state]; rfl
  have N0 := Fr.nil n0
  have p0 : Go p.tables e below (s₁.setTop (entryFrame m #[(.ref a1), (.ref a2)] 3)) (s₁.setTop (mkF m 0 #[.val (.ref a1), .val (.ref a2), .unset] [])) := fun t_ k_ => castTop (ef_rm14_11 m a1 a2 v1 v2 k1 k2 b0 d0 cs1 fm) k_
  have p101 : Go p.tables e below _ (s₁.setTop (mkF m 8 #[.val (.ref a1), .val (.ref a2), .unset] [(.ref a2)])) := fun t_ k_ => p0 t_ (by
    refine XS.aloadN X0.here hx rfl (hb hby d14_0) rfl rfl ?_
    refine XS.aloadN X0.here hx rfl (hb hby d14_1) rfl rfl ?_
    refine Jvm.RoadKit.acmp (g := (mkF m 2 #[.val (.ref a1), .val (.ref a2), .unset] [(.ref a2), (.ref a1)])) X0 hx rfl rfl rfl (pc0 := 2) (pc' := 7) (same := false) rfl (hb hby d14_2) rfl (decide_eq_false fun q => ne (Value.ref.inj q)) (by decide) (by decide) ?_
    refine XS.aloadN X0.here hx rfl (hb hby d14_7) rfl rfl ?_
    exact k_)
  obtain ⟨T102, X102, e102, st102⟩ := instY X0 hx hZ hown (own_w hw 83 rfl) e0 (Ins.self E2) (g := (mkF m 8 #[.val (.ref a1), .val (.ref a2), .unset] [(.ref a2)])) rfl rfl (hb hby d14_8)
  have p103 : Go p.tables e below _ (T102.setTop (mkF m 15 #[.val (.ref a1), .val (.ref a2), .unset] [(.ref a2)])) := fun t_ k_ => (gc p101 st102) t_ (by
    refine XS.ifNo X102.here hx rfl (hb hby d14_11) rfl ((if0 _ _).trans (feq (by decide : ¬ ((1 : Int32) = (0 : Int32)))).1) ?_
    refine XS.aloadN X102.here hx rfl (hb hby d14_14) rfl rfl ?_
    exact k_)
  obtain ⟨T104, X104, e104, st104⟩ := castY X102 hx hZ hown (own_w hw 83 rfl) e102 (Ins.self E2) (g := (mkF m 15 #[.val (.ref a1), .val (.ref a2), .unset] [(.ref a2)])) rfl rfl (hb hby d14_15)
  have p105 : Go p.tables e below _ (T104.setTop (mkF m 19 #[.val (.ref a1), .val (.ref a2), .val (.ref a2)] [])) := fun t_ k_ => (gc p103 st104) t_ (by
    refine XS.astoreN X104.here hx rfl (hb hby d14_18) rfl rfl (l' := #[.val (.ref a1), .val (.ref a2), .val (.ref a2)]) rfl ?_
    exact k_)
  obtain ⟨T106, X106, e106, st106⟩ := getS2 X104 hx hZ hown (host := "") (Or.inl (own_w hw 19 rfl)) Via.refl e104 (G.1.ext O1.2) (g := (mkF m 19 #[.val (.ref a1), .val (.ref a2), .val (.ref a2)] [])) rfl (hb hby d14_19)
  have c107 : ¬ (cs1 = (0 : Int32)) := G.2.1
  have p108 : Go p.tables e below _ (T106.setTop (mkF m 26 #[.val (.ref a1), .val (.ref a2), .val (.ref a2)] [(.ref a1)])) := fun t_ k_ => (gc p105 st106) t_ (by
    refine XS.ifNo X106.here hx rfl (hb hby d14_22) rfl ((if0 _ _).trans (feq c107).1) ?_
    refine XS.aloadN X106.here hx rfl (hb hby d14_25) rfl rfl ?_
    exact k_)
  obtain ⟨T109, X109, e109, st109⟩ := getF X106 hx hZ hown (host := "") (Or.inl (own_w hw 31 rfl)) Via.refl e106 F1 (g := (mkF m 26 #[.val (.ref a1), .val (.ref a2), .val (.ref a2)] [(.ref a1)])) rfl rfl (hb hby d14_26)
  have p110 : Go p.tables e below _ (T109.setTop (mkF m 30 #[.val (.ref a1), .val (.ref a2), .val (.ref a2)] [(.ref a2), (.int (0 : Int32))])) := fun t_ k_ => (gc p108 st109) t_ (by
    refine XS.aloadN X109.here hx rfl (hb hby d14_29) rfl rfl ?_
    exact k_)
  obtain ⟨T111, X111, e111, st111⟩ := getF X109 hx hZ hown (host := "") (Or.inl (own_w hw 31 rfl)) Via.refl e109 F2 (g := (mkF m 30 #[.val (.ref a1), .val (.ref a2), .val (.ref a2)] [(.ref a2), (.int (0 : Int32))])) rfl rfl (hb hby d14_30)
  have p112 : Go p.tables e below _ (T111.setTop (mkF m 37 #[.val (.ref a1), .val (.ref a2), .val (.ref a2)] [(.ref a1)])) := fun t_ k_ => (gc p110 st111) t_ (by
    refine XS.icmpNo X111.here hx rfl (hb hby d14_33) rfl (teq (by decide : ((0 : Int32) = (0 : Int32)))).2 ?_
    refine XS.aloadN X111.here hx rfl (hb hby d14_36) rfl rfl ?_
    exact k_)
  obtain ⟨T113, X113, e113, st113⟩ := getF X111 hx hZ hown (host := "") (Or.inl (own_w hw 33 rfl)) Via.refl e111 F3 (g := (mkF m 37 #[.val (.ref a1), .val (.ref a2), .val (.ref a2)] [(.ref a1)])) rfl rfl (hb hby d14_37)
  have p114 : Go p.tables e below _ (T113.setTop (mkF m 41 #[.val (.ref a1), .val (.ref a2), .val (.ref a2)] [(.ref a2), (.ref v1)])) := fun t_ k_ => (gc p112 st113) t_ (by
    refine XS.aloadN X113.here hx rfl (hb hby d14_40) rfl rfl ?_
    exact k_)
  obtain ⟨T115, X115, e115, st115⟩ := getF X113 hx hZ hown (host := "") (Or.inl (own_w hw 33 rfl)) Via.refl e113 F4 (g := (mkF m 41 #[.val (.ref a1), .val (.ref a2), .val (.ref a2)] [(.ref a2), (.ref v1)])) rfl rfl (hb hby d14_41)
  obtain ⟨_, _, ⟨T116, L116, k116, n116⟩, -, X116, ⟨Lc116, hQ116, l116, y116, z116⟩, st116⟩ := Jvm.LawKit.callS X115 hx (y := (⟨"java/lang/StringLatin1", "equals", "([B[B)Z"⟩ : MethodName)) hown (mvT hZ (own_w hw 84 rfl)) (mvT hZ (own_w hw 85 rfl)) (mvT hZ (own_w hw 67 rfl)) (mvT hZ (own_w hw 86 rfl)) (by decide) (backOf (W := 0) (rm15_11 l Z a0 hw [] v1 v2 k1 k2 b0 d0 h0 n0 (Nat.le_trans Z0 (Keep.refl h0 []).1) V1 V2) hZ (own_w hw 86 rfl) (own_w hw 67 rfl) (by decide) (by decide)) (g := (mkF m 44 #[.val (.ref a1), .val (.ref a2), .val (.ref a2)] [(.ref v2), (.ref v1)])) rfl (by rw [hml]; rfl) (argsL := [(.ref v1), (.ref v2)]) (rest := []) (lenOf pd10 rfl) rfl (by show 2 * 0 + _ ≤ _; exact Nat.le_of_eq rfl) (hb hby d14_44) (fun _ _ => ⟨rfl, e115, (by decide : 0 + 0 ≤ _), (by decide : 0 + 0 ≤ _)⟩)
  dsimp only [Pt.U, Pt.locs, Pt.cells, Pt.slots] at X116 l116 y116 z116 st116 hQ116
  subst l116 y116 z116
  obtain ⟨rfl, N116q, q116_hh⟩ := hQ116
  have N116 := Fr.app N0 N116q
  by_cases c117 : (if b0 = d0 then (1 : Int32) else (0 : Int32)) = (0 : Int32)
  · have p118 : Go p.tables e below _ (T116.setTop (mkF m 54 #[.val (.ref a1), .val (.ref a2), .val (.ref a2)] [])) := fun t_ k_ => (gc (gc p114 st115) st116) t_ (by
      refine XS.ifYes X116.here hx rfl (pc0 := 47) (pc' := 54) rfl (hb hby d14_47) rfl ((if0 _ _).trans (teq c117).1) (by decide) (by decide) ?_
      exact k_)
    have p119 : Go p.tables e below _ (T116.setTop (mkF m 55 #[.val (.ref a1), .val (.ref a2), .val (.ref a2)] [(.int (0 : Int32))])) := fun t_ k_ => p118 t_ (by
      refine XS.iconst X116.here hx rfl (hb hby d14_54) ?_
      exact k_)
    obtain ⟨fs, hr, hrun, hended, hW, hsame⟩ := X116.leave (v := some (.int (0 : Int32))) (fun h => by rw [Bd.returns] at h; cases h)
    refine ⟨_, _, p119 _ (retN X116 hx (t := .boolean) Bd.returns (by simp) (hb hby d14_55) hr), hrun, hended, _, _, rfl, ?_, ⟨_, rfl⟩, hW, hsame.mono (by decide) (by decide)⟩
    show Q14_11 Z a1 a2 v1 v2 k1 k2 b0 d0 cs1 fm h0 n0 _ T116.heap _
    rw [q116_hh]
    exact ⟨by revert c117; (repeat' split) <;> simp, N116, rfl⟩
  · have p120 : Go p.tables e below _ (T116.setTop (mkF m 50 #[.val (.ref a1), .val (.ref a2), .val (.ref a2)] [])) := fun t_ k_ => (gc (gc p114 st115) st116) t_ (by
      refine XS.ifNo X116.here hx rfl (hb hby d14_47) rfl ((if0 _ _).trans (feq c117).1) ?_
      exact k_)
    have p121 : Go p.tables e below _ (T116.setTop (mkF m 55 #[.val (.ref a1), .val (.ref a2), .val (.ref a2)] [(.int (1 : Int32))])) := fun t_ k_ => p120 t_ (by
      refine XS.iconst X116.here hx rfl (hb hby d14_50) ?_
      refine XS.goto X116.here hx rfl (pc0 := 51) (pc' := 55) rfl (hb hby d14_51) (by decide) (by decide) ?_
      exact k_)
    obtain ⟨fs, hr, hrun, hended, hW, hsame⟩ := X116.leave (v := some (.int (1 : Int32))) (fun h => by rw [Bd.returns] at h; cases h)
    refine ⟨_, _, p121 _ (retN X116 hx (t := .boolean) Bd.returns (by simp) (hb hby d14_55) hr), hrun, hended, _, _, rfl, ?_, ⟨_, rfl⟩, hW, hsame.mono (by decide) (by decide)⟩
    show Q14_11 Z a1 a2 v1 v2 k1 k2 b0 d0 cs1 fm h0 n0 _ T116.heap _
    rw [q116_hh]
    exact ⟨by revert c117; (repeat' split) <;> simp, N116, rfl⟩
theorem d13_0 : decode prog_78_method_5_code 0 = .ok (.aload_n 1, 1) := by decide +kernel
theorem d13_1 : decode prog_78_method_5_code 1 = .ok (.aload_n 0, 1) := by decide +kernel
theorem d13_2 : decode prog_78_method_5_code 2 = .ok (.if_acmp .eq 40, 3) := by decide +kernel
theorem d13_5 : decode prog_78_method_5_code 5 = .ok (.aload_n 1, 1) := by decide +kernel
theorem d13_6 : decode prog_78_method_5_code 6 = .ok (.instanceof 25, 3) := by decide +kernel
theorem d13_9 : decode prog_78_method_5_code 9 = .ok (.ifCond .eq 37, 3) := by decide +kernel
theorem d13_12 : decode prog_78_method_5_code 12 = .ok (.aload_n 1, 1) := by decide +kernel
theorem d13_13 : decode prog_78_method_5_code 13 = .ok (.checkcast 25, 3) := by decide +kernel
theorem d13_16 : decode prog_78_method_5_code 16 = .ok (.astore_n 2, 1) := by decide +kernel
theorem d13_17 : decode prog_78_method_5_code 17 = .ok (.aload_n 0, 1) := by decide +kernel
theorem d13_18 : decode prog_78_method_5_code 18 = .ok (.getfield 24, 3) := by decide +kernel
theorem d13_21 : decode prog_78_method_5_code 21 = .ok (.aload_n 2, 1) := by decide +kernel
theorem d13_22 : decode prog_78_method_5_code 22 = .ok (.getfield 24, 3) := by decide +kernel
theorem d13_25 : decode prog_78_method_5_code 25 = .ok (.invokevirtual 44, 3) := by decide +kernel
theorem d13_28 : decode prog_78_method_5_code 28 = .ok (.ifCond .eq 18, 3) := by decide +kernel
theorem d13_31 : decode prog_78_method_5_code 31 = .ok (.aload_n 0, 1) := by decide +kernel
theorem d13_32 : decode prog_78_method_5_code 32 = .ok (.getfield 30, 3) := by decide +kernel
theorem d13_35 : decode prog_78_method_5_code 35 = .ok (.aload_n 2, 1) := by decide +kernel
theorem d13_36 : decode prog_78_method_5_code 36 = .ok (.getfield 30, 3) := by decide +kernel
theorem d13_39 : decode prog_78_method_5_code 39 = .ok (.if_icmp .ne 7, 3) := by decide +kernel
theorem d13_42 : decode prog_78_method_5_code 42 = .ok (.iconst 1, 1) := by decide +kernel
theorem d13_43 : decode prog_78_method_5_code 43 = .ok (.goto 4, 3) := by decide +kernel
theorem d13_46 : decode prog_78_method_5_code 46 = .ok (.iconst 0, 1) := by decide +kernel
theorem d13_47 : decode prog_78_method_5_code 47 = .ok (.ireturn, 1) := by decide +kernel
theorem pd11 : parseMethodDescriptor "(Ljava/lang/Object;)Z" = some ⟨[(.object "java/lang/Object")], some .boolean⟩ := by decide +kernel
theorem pn13 : plainFor (⟨"com/example/kuusi/kuusi/core/Symbol", "equals", "(Ljava/lang/Object;)Z"⟩ : MethodName) = true := plainFor_of_name (by first | (simp [plainName, overriddenIn]; done) | decide +kernel)
theorem ef_rm13_11 (m : MethodId) (a1 : Addr) (a2 : Addr) (s1 : Addr) (s2 : Addr) (r1 : Int32) (r2 : Int32) (v1 : Addr) (v2 : Addr) (k1 : ClassId) (k2 : ClassId) (b0 : Int32) (d0 : Int32) (cs1 : Int32) (fm : Value) : entryFrame m #[(.ref a1), (.ref a2)] 3 = mkF m 0 #[.val (.ref a1), .val (.ref a2), .unset] [] := by first | (simp [entryFrame, mkF, argsToLocals, Value.category]; done) | rfl
def Q13_11 (Z : State) (a1 : Addr) (a2 : Addr) (s1 : Addr) (s2 : Addr) (r1 : Int32) (r2 : Int32) (v1 : Addr) (v2 : Addr) (k1 : ClassId) (k2 : ClassId) (b0 : Int32) (d0 : Int32) (cs1 : Int32) (fm : Value) (h0 : Heap) (n0 : Nat) (v : Option Value) (h : Heap) (L : List Loc) : Prop := v = some (.int (own_se (if b0 = d0 then (1 : Int32) else (0 : Int32)) r1 r2)) ∧ Fr n0 L ∧ (h = h0)
set_option maxRecDepth 65536 in
set_option maxHeartbeats 40000000 in
theorem rm13_11 (l : Launch) (Z : State) (a0 : Array Value) (hw : ∀ d ∈ tables_1, d.before a0 Z = true) (ws : List Jvm.Cond) (a1 : Addr) (a2 : Addr) (s1 : Addr) (s2 : Addr) (r1 : Int32) (r2 : Int32) (v1 : Addr) (v2 : Addr) (k1 : ClassId) (k2 : ClassId) (b0 : Int32) (d0 : Int32) (cs1 : Int32) (fm : Value) (h0 : Heap) (n0 : Nat) (Z0 : n0 ≤ h0.size) (O1 : Old Z n0 h0) (G : own_G Z cs1 fm) (E1 : Exa Z h0 a2 "com/example/kuusi/kuusi/core/Symbol") (ne : a1 ≠ a2) (N1 : Fld Z h0 a1 "com/example/kuusi/kuusi/core/Symbol" "name" "Ljava/lang/String;" (.ref s1)) (N2 : Fld Z h0 a2 "com/example/kuusi/kuusi/core/Symbol" "name" "Ljava/lang/String;" (.ref s2)) (R1 : Fld Z h0 a1 "com/example/kuusi/kuusi/core/Symbol" "rank" "I" (.int r1)) (R2 : Fld Z h0 a2 "com/example/kuusi/kuusi/core/Symbol" "rank" "I" (.int r2)) (ns : s1 ≠ s2) (E3 : Exa Z h0 s1 "java/lang/String") (E2 : Exa Z h0 s2 "java/lang/String") (F1 : Fld Z h0 s1 "java/lang/String" "coder" "B" (.int (0 : Int32))) (F2 : Fld Z h0 s2 "java/lang/String" "coder" "B" (.int (0 : Int32))) (F3 : Fld Z h0 s1 "java/lang/String" "value" "[B" (.ref v1)) (F4 : Fld Z h0 s2 "java/lang/String" "value" "[B" (.ref v2)) (V1 : Arv Z h0 v1 k1 .byte (1 : Int32) [(.int b0)] (.int (0 : Int32))) (V2 : Arv Z h0 v2 k2 .byte (1 : Int32) [(.int d0)] (.int (0 : Int32))) :
    MetFree l (⟨"com/example/kuusi/kuusi/core/Symbol", "equals", "(Ljava/lang/Object;)Z"⟩ : MethodName) (head1 (Jvm.Cond.code (⟨"com/example/kuusi/kuusi/core/Symbol", "equals", "(Ljava/lang/Object;)Z"⟩ : MethodName) prog_78_method_5_code 3 (some .boolean) :: ws) ({ frames := 2, cells := 0, slots := 0, locals := 28 } : Room)) (fun a U => a = #[(.ref a1), (.ref a2)] ∧ Z.Warmed39 U.vm ∧ U.heap = h0) (fun _ _ _ _ _ => True) (fun _ U o U' => ∃ v L, o = .returned v ∧ Q13_11 Z a1 a2 s1 s2 r1 r2 v1 v2 k1 k2 b0 d0 cs1 fm h0 n0 v U'.heap L ∧ FrameEnd U o U' L ({ frames := 2, cells := 0, slots := 0, locals := 28 } : Room).cells ({ frames := 2, cells := 0, slots := 0, locals := 28 } : Room).slots) := by
  refine MetFree.of_bodySF pn13 hisR ?_
  intro p e s m args below meth c s₁ Bd hml0 hP hK
  obtain ⟨rfl, hZ, hh⟩ := hP
  have hx := Bd.exec
  have hby := Bd.bytes
  have hml : c.maxLocals = 3 := hml0
  have hown : s.vm.findClass "com/example/kuusi/kuusi/core/Symbol" = some m.cls := findClass_of_methodNamed Bd.named
  have hnm := (name_of_methodNamed Bd.named Bd.method).1
  have X0 : Stand p l e ({ frames := 2, cells := 0, slots := 0, locals := 28 } : Room) s m #[(.ref a1), (.ref a2)] below meth c s₁ [] 0 0 := Stand.of_body Bd
  have e0 : s₁.heap = h0 := by rw [← hh, Bd.state]; rfl
  have N0 := Fr.nil n0
  have p0 : Go p.tables e below (s₁.setTop (entryFrame m #[(.ref a1), (.ref a2)] 3)) (s₁.setTop (mkF m 0 #[.val (.ref a1), .val (.ref a2), .unset] [])) := fun t_ k_ => castTop (ef_rm13_11 m a1 a2 s1 s2 r1 r2 v1 v2 k1 k2 b0 d0 cs1 fm) k_
  have p101 : Go p.tables e below _ (s₁.setTop (mkF m 6 #[.val (.ref a1), .val (.ref a2), .unset] [(.ref a2)])) := fun t_ k_ => p0 t_ (by
    refine XS.aloadN X0.here hx rfl (hb hby d13_0) rfl rfl ?_
    refine XS.aloadN X0.here hx rfl (hb hby d13_1) rfl rfl ?_
    refine Jvm.RoadKit.acmp (g := (mkF m 2 #[.val (.ref a1), .val (.ref a2), .unset] [(.ref a1), (.ref a2)])) X0 hx rfl rfl rfl (pc0 := 2) (pc' := 5) (same := false) rfl (hb hby d13_2) rfl (decide_eq_false fun q => (Ne.symm ne) (Value.ref.inj q)) (by decide) (by decide) ?_
    refine XS.aloadN X0.here hx rfl (hb hby d13_5) rfl rfl ?_
    exact k_)
  obtain ⟨T102, X102, e102, st102⟩ := instY X0 hx hZ hown (own_w hw 76 rfl) e0 (Ins.self E1) (g := (mkF m 6 #[.val (.ref a1), .val (.ref a2), .unset] [(.ref a2)])) rfl rfl (hb hby d13_6)
  have p103 : Go p.tables e below _ (T102.setTop (mkF m 13 #[.val (.ref a1), .val (.ref a2), .unset] [(.ref a2)])) := fun t_ k_ => (gc p101 st102) t_ (by
    refine XS.ifNo X102.here hx rfl (hb hby d13_9) rfl ((if0 _ _).trans (feq (by decide : ¬ ((1 : Int32) = (0 : Int32)))).1) ?_
    refine XS.aloadN X102.here hx rfl (hb hby d13_12) rfl rfl ?_
    exact k_)
  obtain ⟨T104, X104, e104, st104⟩ := castY X102 hx hZ hown (own_w hw 76 rfl) e102 (Ins.self E1) (g := (mkF m 13 #[.val (.ref a1), .val (.ref a2), .unset] [(.ref a2)])) rfl rfl (hb hby d13_13)
  have p105 : Go p.tables e below _ (T104.setTop (mkF m 18 #[.val (.ref a1), .val (.ref a2), .val (.ref a2)] [(.ref a1)])) := fun t_ k_ => (gc p103 st104) t_ (by
    refine XS.astoreN X104.here hx rfl (hb hby d13_16) rfl rfl (l' := #[.val (.ref a1), .val (.ref a2), .val (.ref a2)]) rfl ?_
    refine XS.aloadN X104.here hx rfl (hb hby d13_17) rfl rfl ?_
    exact k_)
  obtain ⟨T106, X106, e106, st106⟩ := getF X104 hx hZ hown (host := "") (Or.inl (own_w hw 47 rfl)) Via.refl e104 N1 (g := (mkF m 18 #[.val (.ref a1), .val (.ref a2), .val (.ref a2)] [(.ref a1)])) rfl rfl (hb hby d13_18)
  have p107 : Go p.tables e below _ (T106.setTop (mkF m 22 #[.val (.ref a1), .val (.ref a2), .val (.ref a2)] [(.ref a2), (.ref s1)])) := fun t_ k_ => (gc p105 st106) t_ (by
    refine XS.aloadN X106.here hx rfl (hb hby d13_21) rfl rfl ?_
    exact k_)
  obtain ⟨T108, X108, e108, st108⟩ := getF X106 hx hZ hown (host := "") (Or.inl (own_w hw 47 rfl)) Via.refl e106 N2 (g := (mkF m 22 #[.val (.ref a1), .val (.ref a2), .val (.ref a2)] [(.ref a2), (.ref s1)])) rfl rfl (hb hby d13_22)
  obtain ⟨cq109, kq109, q109a, q109b, q109c⟩ := isOf hZ e108 E3
  obtain ⟨_, _, ⟨T109, L109, k109, n109⟩, -, X109, ⟨Lc109, hQ109, l109, y109, z109⟩, st109⟩ := X108.virtualBack hx (y := (⟨"java/lang/String", "equals", "(Ljava/lang/Object;)Z"⟩ : MethodName)) (z := (⟨"java/lang/String", "equals", "(Ljava/lang/Object;)Z"⟩ : MethodName)) hown (mvT hZ (own_w hw 78 rfl)) (mvT hZ (own_w hw 79 rfl)) (notFace_of_selects (args := #[]) (mvT hZ (own_w hw 81 rfl))) (mvT hZ (own_w hw 81 rfl)) (mvT hZ (own_w hw 80 rfl)) (by decide) (backOf (W := 0) (rm14_11 l Z a0 hw [] s1 s2 v1 v2 k1 k2 b0 d0 cs1 fm h0 n0 (Nat.le_trans Z0 (Keep.refl h0 []).1) O1 G ns E2 F1 F2 F3 F4 V1 V2) hZ (own_w hw 82 rfl) (own_w hw 7 rfl) (by decide) (by decide)) q109a q109c (g := (mkF m 25 #[.val (.ref a1), .val (.ref a2), .val (.ref a2)] [(.ref s2), (.ref s1)])) rfl (by rw [hml]; rfl) (Steps.refl _) (argsL := [(.ref s2)]) (rest := []) (lenOf pd11 rfl) rfl (by show 2 * 0 + _ ≤ _; exact Nat.le_of_eq rfl) (hb hby d13_25) (fun _ _ => ⟨rfl, e108, (by decide : 0 + 0 ≤ _), (by decide : 0 + 0 ≤ _)⟩)
  dsimp only [Pt.U, Pt.locs, Pt.cells, Pt.slots] at X109 l109 y109 z109 st109 hQ109
  subst l109 y109 z109
  obtain ⟨rfl, N109q, q109_hh⟩ := hQ109
  have N109 := Fr.app N0 N109q
  by_cases c110 : (if b0 = d0 then (1 : Int32) else (0 : Int32)) = (0 : Int32)
  · have p111 : Go p.tables e below _ (T109.setTop (mkF m 46 #[.val (.ref a1), .val (.ref a2), .val (.ref a2)] [])) := fun t_ k_ => (gcT (gc p107 st108) st109) t_ (by
      refine XS.ifYes X109.here hx rfl (pc0 := 28) (pc' := 46) rfl (hb hby d13_28) rfl ((if0 _ _).trans (teq c110).1) (by decide) (by decide) ?_
      exact k_)
    have p112 : Go p.tables e below _ (T109.setTop (mkF m 47 #[.val (.ref a1), .val (.ref a2), .val (.ref a2)] [(.int (0 : Int32))])) := fun t_ k_ => p111 t_ (by
      refine XS.iconst X109.here hx rfl (hb hby d13_46) ?_
      exact k_)
    obtain ⟨fs, hr, hrun, hended, hW, hsame⟩ := X109.leave (v := some (.int (0 : Int32))) (fun h => by rw [Bd.returns] at h; cases h)
    refine ⟨_, _, p112 _ (retN X109 hx (t := .boolean) Bd.returns (by simp) (hb hby d13_47) hr), hrun, hended, _, _, rfl, ?_, ⟨_, rfl⟩, hW, hsame.mono (by decide) (by decide)⟩
    show Q13_11 Z a1 a2 s1 s2 r1 r2 v1 v2 k1 k2 b0 d0 cs1 fm h0 n0 _ T109.heap _
    rw [q109_hh]
    exact ⟨by simp [own_se, c110], N109, rfl⟩
  · have p113 : Go p.tables e below _ (T109.setTop (mkF m 31 #[.val (.ref a1), .val (.ref a2), .val (.ref a2)] [])) := fun t_ k_ => (gcT (gc p107 st108) st109) t_ (by
      refine XS.ifNo X109.here hx rfl (hb hby d13_28) rfl ((if0 _ _).trans (feq c110).1) ?_
      exact k_)
    have p114 : Go p.tables e below _ (T109.setTop (mkF m 32 #[.val (.ref a1), .val (.ref a2), .val (.ref a2)] [(.ref a1)])) := fun t_ k_ => p113 t_ (by
      refine XS.aloadN X109.here hx rfl (hb hby d13_31) rfl rfl ?_
      exact k_)
    obtain ⟨T115, X115, e115, st115⟩ := getF X109 hx hZ hown (host := "") (Or.inl (own_w hw 49 rfl)) Via.refl q109_hh R1 (g := (mkF m 32 #[.val (.ref a1), .val (.ref a2), .val (.ref a2)] [(.ref a1)])) rfl rfl (hb hby d13_32)
    have p116 : Go p.tables e below _ (T115.setTop (mkF m 36 #[.val (.ref a1), .val (.ref a2), .val (.ref a2)] [(.ref a2), (.int r1)])) := fun t_ k_ => (gc p114 st115) t_ (by
      refine XS.aloadN X115.here hx rfl (hb hby d13_35) rfl rfl ?_
      exact k_)
    obtain ⟨T117, X117, e117, st117⟩ := getF X115 hx hZ hown (host := "") (Or.inl (own_w hw 49 rfl)) Via.refl e115 R2 (g := (mkF m 36 #[.val (.ref a1), .val (.ref a2), .val (.ref a2)] [(.ref a2), (.int r1)])) rfl rfl (hb hby d13_36)
    by_cases c118 : r1 = r2
    · have p119 : Go p.tables e below _ (T117.setTop (mkF m 42 #[.val (.ref a1), .val (.ref a2), .val (.ref a2)] [])) := fun t_ k_ => (gc p116 st117) t_ (by
        refine XS.icmpNo X117.here hx rfl (hb hby d13_39) rfl (teq c118).2 ?_
        exact k_)
      have p120 : Go p.tables e below _ (T117.setTop (mkF m 47 #[.val (.ref a1), .val (.ref a2), .val (.ref a2)] [(.int (1 : Int32))])) := fun t_ k_ => p119 t_ (by
        refine XS.iconst X117.here hx rfl (hb hby d13_42) ?_
        refine XS.goto X117.here hx rfl (pc0 := 43) (pc' := 47) rfl (hb hby d13_43) (by decide) (by decide) ?_
        exact k_)
      obtain ⟨fs, hr, hrun, hended, hW, hsame⟩ := X117.leave (v := some (.int (1 : Int32))) (fun h => by rw [Bd.returns] at h; cases h)
      refine ⟨_, _, p120 _ (retN X117 hx (t := .boolean) Bd.returns (by simp) (hb hby d13_47) hr), hrun, hended, _, _, rfl, ?_, ⟨_, rfl⟩, hW, hsame.mono (by decide) (by decide)⟩
      show Q13_11 Z a1 a2 s1 s2 r1 r2 v1 v2 k1 k2 b0 d0 cs1 fm h0 n0 _ T117.heap _
      rw [e117]
      exact ⟨by simp [own_se, c110, c118], N109, rfl⟩
    · have p121 : Go p.tables e below _ (T117.setTop (mkF m 46 #[.val (.ref a1), .val (.ref a2), .val (.ref a2)] [])) := fun t_ k_ => (gc p116 st117) t_ (by
        refine XS.icmpYes X117.here hx rfl (pc0 := 39) (pc' := 46) rfl (hb hby d13_39) rfl (feq c118).2 (by decide) (by decide) ?_
        exact k_)
      have p122 : Go p.tables e below _ (T117.setTop (mkF m 47 #[.val (.ref a1), .val (.ref a2), .val (.ref a2)] [(.int (0 : Int32))])) := fun t_ k_ => p121 t_ (by
        refine XS.iconst X117.here hx rfl (hb hby d13_46) ?_
        exact k_)
      obtain ⟨fs, hr, hrun, hended, hW, hsame⟩ := X117.leave (v := some (.int (0 : Int32))) (fun h => by rw [Bd.returns] at h; cases h)
      refine ⟨_, _, p122 _ (retN X117 hx (t := .boolean) Bd.returns (by simp) (hb hby d13_47) hr), hrun, hended, _, _, rfl, ?_, ⟨_, rfl⟩, hW, hsame.mono (by decide) (by decide)⟩
      show Q13_11 Z a1 a2 s1 s2 r1 r2 v1 v2 k1 k2 b0 d0 cs1 fm h0 n0 _ T117.heap _
      rw [e117]
      exact ⟨by simp [own_se, c110, c118], N109, rfl⟩
theorem d15_34 : decode jdk_43_method_13_code 34 = .ok (.iconst 0, 1) := by decide +kernel
theorem d15_35 : decode jdk_43_method_13_code 35 = .ok (.ireturn, 1) := by decide +kernel
theorem ef_rm15_12 (m : MethodId) (a1 : Addr) (a2 : Addr) (k1 : ClassId) (k2 : ClassId) (b0 : Int32) (d0 : Int32) (d1 : Int32) : entryFrame m #[(.ref a1), (.ref a2)] 3 = mkF m 0 #[.val (.ref a1), .val (.ref a2), .unset] [] := by first | (simp [entryFrame, mkF, argsToLocals, Value.category]; done) | rfl
def Q15_12 (Z : State) (a1 : Addr) (a2 : Addr) (k1 : ClassId) (k2 : ClassId) (b0 : Int32) (d0 : Int32) (d1 : Int32) (h0 : Heap) (n0 : Nat) (v : Option Value) (h : Heap) (L : List Loc) : Prop := v = some (.int (0 : Int32)) ∧ Fr n0 L ∧ (h = h0)
set_option maxRecDepth 65536 in
set_option maxHeartbeats 40000000 in
theorem rm15_12 (l : Launch) (Z : State) (a0 : Array Value) (hw : ∀ d ∈ tables_1, d.before a0 Z = true) (ws : List Jvm.Cond) (a1 : Addr) (a2 : Addr) (k1 : ClassId) (k2 : ClassId) (b0 : Int32) (d0 : Int32) (d1 : Int32) (h0 : Heap) (n0 : Nat) (Z0 : n0 ≤ h0.size) (V1 : Arv Z h0 a1 k1 .byte (1 : Int32) [(.int b0)] (.int (0 : Int32))) (V2 : Arv Z h0 a2 k2 .byte (2 : Int32) [(.int d0), (.int d1)] (.int (0 : Int32))) :
    MetFree l (⟨"java/lang/StringLatin1", "equals", "([B[B)Z"⟩ : MethodName) (head1 (Jvm.Cond.code (⟨"java/lang/StringLatin1", "equals", "([B[B)Z"⟩ : MethodName) jdk_43_method_13_code 3 (some .boolean) :: ws) ({ frames := 0, cells := 0, slots := 0, locals := 0 } : Room)) (fun a U => a = #[(.ref a1), (.ref a2)] ∧ Z.Warmed39 U.vm ∧ U.heap = h0) (fun _ _ _ _ _ => True) (fun _ U o U' => ∃ v L, o = .returned v ∧ Q15_12 Z a1 a2 k1 k2 b0 d0 d1 h0 n0 v U'.heap L ∧ FrameEnd U o U' L ({ frames := 0, cells := 0, slots := 0, locals := 0 } : Room).cells ({ frames := 0, cells := 0, slots := 0, locals := 0 } : Room).slots) := by
  refine MetFree.of_bodySF pn15 hisR ?_
  intro p e s m args below meth c s₁ Bd hml0 hP hK
  obtain ⟨rfl, hZ, hh⟩ := hP
  have hx := Bd.exec
  have hby := Bd.bytes
  have hml : c.maxLocals = 3 := hml0
  have hown : s.vm.findClass "java/lang/StringLatin1" = some m.cls := findClass_of_methodNamed Bd.named
  have hnm := (name_of_methodNamed Bd.named Bd.method).1
  have X0 : Stand p l e ({ frames := 0, cells := 0, slots := 0, locals := 0 } : Room) s m #[(.ref a1), (.ref a2)] below meth c s₁ [] 0 0 := Stand.of_body Bd
  have e0 : s₁.heap = h0 := by rw [← hh, Bd.state]; rfl
  have N0 := Fr.nil n0
  have p0 : Go p.tables e below (s₁.setTop (entryFrame m #[(.ref a1), (.ref a2)] 3)) (s₁.setTop (mkF m 0 #[.val (.ref a1), .val (.ref a2), .unset] [])) := fun t_ k_ => castTop (ef_rm15_12 m a1 a2 k1 k2 b0 d0 d1) k_
  have p101 : Go p.tables e below _ (s₁.setTop (mkF m 1 #[.val (.ref a1), .val (.ref a2), .unset] [(.ref a1)])) := fun t_ k_ => p0 t_ (by
    refine XS.aloadN X0.here hx rfl (hb hby d15_0) rfl rfl ?_
    exact k_)
  obtain ⟨cl102, Ar102, -, S102, Ng102, -, -⟩ := id V1
  have p103 : Go p.tables e below _ (s₁.setTop (mkF m 3 #[.val (.ref a1), .val (.ref a2), .unset] [(.ref a2), (.int (1 : Int32))])) := fun t_ k_ => p101 t_ (by
    refine X0.arraylength hx (by rw [e0]; exact Ar102.1) (State.isArrayOf_alike hZ.alike Ar102.2.1) (g := (mkF m 1 #[.val (.ref a1), .val (.ref a2), .unset] [(.ref a1)])) rfl rfl (hb hby d15_1) _ ?_
    rw [len_of S102 Ng102]
    show Steps p.tables e below (s₁.setTop (mkF m 2 #[.val (.ref a1), .val (.ref a2), .unset] [(.int (1 : Int32))])) _
    refine XS.aloadN X0.here hx rfl (hb hby d15_2) rfl rfl ?_
    exact k_)
  obtain ⟨cl104, Ar104, -, S104, Ng104, -, -⟩ := id V2
  have p105 : Go p.tables e below _ (s₁.setTop (mkF m 35 #[.val (.ref a1), .val (.ref a2), .unset] [(.int (0 : Int32))])) := fun t_ k_ => p103 t_ (by
    refine X0.arraylength hx (by rw [e0]; exact Ar104.1) (State.isArrayOf_alike hZ.alike Ar104.2.1) (g := (mkF m 3 #[.val (.ref a1), .val (.ref a2), .unset] [(.ref a2), (.int (1 : Int32))])) rfl rfl (hb hby d15_3) _ ?_
    rw [len_of S104 Ng104]
    show Steps p.tables e below (s₁.setTop (mkF m 4 #[.val (.ref a1), .val (.ref a2), .unset] [(.int (2 : Int32)), (.int (1 : Int32))])) _
    refine XS.icmpYes X0.here hx rfl (pc0 := 4) (pc' := 34) rfl (hb hby d15_4) rfl (feq (by decide : ¬ ((1 : Int32) = (2 : Int32)))).2 (by decide) (by decide) ?_
    refine XS.iconst X0.here hx rfl (hb hby d15_34) ?_
    exact k_)
  obtain ⟨fs, hr, hrun, hended, hW, hsame⟩ := X0.leave (v := some (.int (0 : Int32))) (fun h => by rw [Bd.returns] at h; cases h)
  refine ⟨_, _, p105 _ (retN X0 hx (t := .boolean) Bd.returns (by simp) (hb hby d15_35) hr), hrun, hended, _, _, rfl, ?_, ⟨_, rfl⟩, hW, hsame.mono (by decide) (by decide)⟩
  show Q15_12 Z a1 a2 k1 k2 b0 d0 d1 h0 n0 _ s₁.heap _
  rw [e0]
  exact ⟨rfl, N0, rfl⟩
theorem ef_rm14_12 (m : MethodId) (a1 : Addr) (a2 : Addr) (v1 : Addr) (v2 : Addr) (k1 : ClassId) (k2 : ClassId) (b0 : Int32) (d0 : Int32) (d1 : Int32) (cs1 : Int32) (fm : Value) : entryFrame m #[(.ref a1), (.ref a2)] 3 = mkF m 0 #[.val (.ref a1), .val (.ref a2), .unset] [] := by first | (simp [entryFrame, mkF, argsToLocals, Value.category]; done) | rfl
def Q14_12 (Z : State) (a1 : Addr) (a2 : Addr) (v1 : Addr) (v2 : Addr) (k1 : ClassId) (k2 : ClassId) (b0 : Int32) (d0 : Int32) (d1 : Int32) (cs1 : Int32) (fm : Value) (h0 : Heap) (n0 : Nat) (v : Option Value) (h : Heap) (L : List Loc) : Prop := v = some (.int (0 : Int32)) ∧ Fr n0 L ∧ (h = h0)
set_option maxRecDepth 65536 in
set_option maxHeartbeats 40000000 in
theorem rm14_12 (l : Launch) (Z : State) (a0 : Array Value) (hw : ∀ d ∈ tables_1, d.before a0 Z = true) (ws : List Jvm.Cond) (a1 : Addr) (a2 : Addr) (v1 : Addr) (v2 : Addr) (k1 : ClassId) (k2 : ClassId) (b0 : Int32) (d0 : Int32) (d1 : Int32) (cs1 : Int32) (fm : Value) (h0 : Heap) (n0 : Nat) (Z0 : n0 ≤ h0.size) (O1 : Old Z n0 h0) (G : own_G Z cs1 fm) (ne : a1 ≠ a2) (E2 : Exa Z h0 a2 "java/lang/String") (F1 : Fld Z h0 a1 "java/lang/String" "coder" "B" (.int (0 : Int32))) (F2 : Fld Z h0 a2 "java/lang/String" "coder" "B" (.int (0 : Int32))) (F3 : Fld Z h0 a1 "java/lang/String" "value" "[B" (.ref v1)) (F4 : Fld Z h0 a2 "java/lang/String" "value" "[B" (.ref v2)) (V1 : Arv Z h0 v1 k1 .byte (1 : Int32) [(.int b0)] (.int (0 : Int32))) (V2 : Arv Z h0 v2 k2 .byte (2 : Int32) [(.int d0), (.int d1)] (.int (0 : Int32))) :
    MetFree l (⟨"java/lang/String", "equals", "(Ljava/lang/Object;)Z"⟩ : MethodName) (head1 (Jvm.Cond.code (⟨"java/lang/String", "equals", "(Ljava/lang/Object;)Z"⟩ : MethodName) jdk_42_method_66_code 3 (some .boolean) :: ws) ({ frames := 1, cells := 0, slots := 0, locals := 14 } : Room)) (fun a U => a = #[(.ref a1), (.ref a2)] ∧ Z.Warmed39 U.vm ∧ U.heap = h0) (fun _ _ _ _ _ => True) (fun _ U o U' => ∃ v L, o = .returned v ∧ Q14_12 Z a1 a2 v1 v2 k1 k2 b0 d0 d1 cs1 fm h0 n0 v U'.heap L ∧ FrameEnd U o U' L ({ frames := 1, cells := 0, slots := 0, locals := 14 } : Room).cells ({ frames := 1, cells := 0, slots := 0, locals := 14 } : Room).slots) := by
  refine MetFree.of_bodySF pn14 hisR ?_
  intro p e s m args below meth c s₁ Bd hml0 hP hK
  obtain ⟨rfl, hZ, hh⟩ := hP
  have hx := Bd.exec
  have hby := Bd.bytes
  have hml : c.maxLocals = 3 := hml0
  have hown : s.vm.findClass "java/lang/String" = some m.cls := findClass_of_methodNamed Bd.named
  have hnm := (name_of_methodNamed Bd.named Bd.method).1
  have X0 : Stand p l e ({ frames := 1, cells := 0, slots := 0, locals := 14 } : Room) s m #[(.ref a1), (.ref a2)] below meth c s₁ [] 0 0 := Stand.of_body Bd
  have e0 : s₁.heap = h0 := by rw [← hh, Bd.state]; rfl
  have N0 := Fr.nil n0
  have p0 : Go p.tables e below (s₁.setTop (entryFrame m #[(.ref a1), (.ref a2)] 3)) (s₁.setTop (mkF m 0 #[.val (.ref a1), .val (.ref a2), .unset] [])) := fun t_ k_ => castTop (ef_rm14_12 m a1 a2 v1 v2 k1 k2 b0 d0 d1 cs1 fm) k_
  have p101 : Go p.tables e below _ (s₁.setTop (mkF m 8 #[.val (.ref a1), .val (.ref a2), .unset] [(.ref a2)])) := fun t_ k_ => p0 t_ (by
    refine XS.aloadN X0.here hx rfl (hb hby d14_0) rfl rfl ?_
    refine XS.aloadN X0.here hx rfl (hb hby d14_1) rfl rfl ?_
    refine Jvm.RoadKit.acmp (g := (mkF m 2 #[.val (.ref a1), .val (.ref a2), .unset] [(.ref a2), (.ref a1)])) X0 hx rfl rfl rfl (pc0 := 2) (pc' := 7) (same := false) rfl (hb hby d14_2) rfl (decide_eq_false fun q => ne (Value.ref.inj q)) (by decide) (by decide) ?_
    refine XS.aloadN X0.here hx rfl (hb hby d14_7) rfl rfl ?_
    exact k_)
  obtain ⟨T102, X102, e102, st102⟩ := instY X0 hx hZ hown (own_w hw 83 rfl) e0 (Ins.self E2) (g := (mkF m 8 #[.val (.ref a1), .val (.ref a2), .unset] [(.ref a2)])) rfl rfl (hb hby d14_8)
  have p103 : Go p.tables e below _ (T102.setTop (mkF m 15 #[.val (.ref a1), .val (.ref a2), .unset] [(.ref a2)])) := fun t_ k_ => (gc p101 st102) t_ (by
    refine XS.ifNo X102.here hx rfl (hb hby d14_11) rfl ((if0 _ _).trans (feq (by decide : ¬ ((1 : Int32) = (0 : Int32)))).1) ?_
    refine XS.aloadN X102.here hx rfl (hb hby d14_14) rfl rfl ?_
    exact k_)
  obtain ⟨T104, X104, e104, st104⟩ := castY X102 hx hZ hown (own_w hw 83 rfl) e102 (Ins.self E2) (g := (mkF m 15 #[.val (.ref a1), .val (.ref a2), .unset] [(.ref a2)])) rfl rfl (hb hby d14_15)
  have p105 : Go p.tables e below _ (T104.setTop (mkF m 19 #[.val (.ref a1), .val (.ref a2), .val (.ref a2)] [])) := fun t_ k_ => (gc p103 st104) t_ (by
    refine XS.astoreN X104.here hx rfl (hb hby d14_18) rfl rfl (l' := #[.val (.ref a1), .val (.ref a2), .val (.ref a2)]) rfl ?_
    exact k_)
  obtain ⟨T106, X106, e106, st106⟩ := getS2 X104 hx hZ hown (host := "") (Or.inl (own_w hw 19 rfl)) Via.refl e104 (G.1.ext O1.2) (g := (mkF m 19 #[.val (.ref a1), .val (.ref a2), .val (.ref a2)] [])) rfl (hb hby d14_19)
  have c107 : ¬ (cs1 = (0 : Int32)) := G.2.1
  have p108 : Go p.tables e below _ (T106.setTop (mkF m 26 #[.val (.ref a1), .val (.ref a2), .val (.ref a2)] [(.ref a1)])) := fun t_ k_ => (gc p105 st106) t_ (by
    refine XS.ifNo X106.here hx rfl (hb hby d14_22) rfl ((if0 _ _).trans (feq c107).1) ?_
    refine XS.aloadN X106.here hx rfl (hb hby d14_25) rfl rfl ?_
    exact k_)
  obtain ⟨T109, X109, e109, st109⟩ := getF X106 hx hZ hown (host := "") (Or.inl (own_w hw 31 rfl)) Via.refl e106 F1 (g := (mkF m 26 #[.val (.ref a1), .val (.ref a2), .val (.ref a2)] [(.ref a1)])) rfl rfl (hb hby d14_26)
  have p110 : Go p.tables e below _ (T109.setTop (mkF m 30 #[.val (.ref a1), .val (.ref a2), .val (.ref a2)] [(.ref a2), (.int (0 : Int32))])) := fun t_ k_ => (gc p108 st109) t_ (by
    refine XS.aloadN X109.here hx rfl (hb hby d14_29) rfl rfl ?_
    exact k_)
  obtain ⟨T111, X111, e111, st111⟩ := getF X109 hx hZ hown (host := "") (Or.inl (own_w hw 31 rfl)) Via.refl e109 F2 (g := (mkF m 30 #[.val (.ref a1), .val (.ref a2), .val (.ref a2)] [(.ref a2), (.int (0 : Int32))])) rfl rfl (hb hby d14_30)
  have p112 : Go p.tables e below _ (T111.setTop (mkF m 37 #[.val (.ref a1), .val (.ref a2), .val (.ref a2)] [(.ref a1)])) := fun t_ k_ => (gc p110 st111) t_ (by
    refine XS.icmpNo X111.here hx rfl (hb hby d14_33) rfl (teq (by decide : ((0 : Int32) = (0 : Int32)))).2 ?_
    refine XS.aloadN X111.here hx rfl (hb hby d14_36) rfl rfl ?_
    exact k_)
  obtain ⟨T113, X113, e113, st113⟩ := getF X111 hx hZ hown (host := "") (Or.inl (own_w hw 33 rfl)) Via.refl e111 F3 (g := (mkF m 37 #[.val (.ref a1), .val (.ref a2), .val (.ref a2)] [(.ref a1)])) rfl rfl (hb hby d14_37)
  have p114 : Go p.tables e below _ (T113.setTop (mkF m 41 #[.val (.ref a1), .val (.ref a2), .val (.ref a2)] [(.ref a2), (.ref v1)])) := fun t_ k_ => (gc p112 st113) t_ (by
    refine XS.aloadN X113.here hx rfl (hb hby d14_40) rfl rfl ?_
    exact k_)
  obtain ⟨T115, X115, e115, st115⟩ := getF X113 hx hZ hown (host := "") (Or.inl (own_w hw 33 rfl)) Via.refl e113 F4 (g := (mkF m 41 #[.val (.ref a1), .val (.ref a2), .val (.ref a2)] [(.ref a2), (.ref v1)])) rfl rfl (hb hby d14_41)
  obtain ⟨_, _, ⟨T116, L116, k116, n116⟩, -, X116, ⟨Lc116, hQ116, l116, y116, z116⟩, st116⟩ := Jvm.LawKit.callS X115 hx (y := (⟨"java/lang/StringLatin1", "equals", "([B[B)Z"⟩ : MethodName)) hown (mvT hZ (own_w hw 84 rfl)) (mvT hZ (own_w hw 85 rfl)) (mvT hZ (own_w hw 67 rfl)) (mvT hZ (own_w hw 86 rfl)) (by decide) (backOf (W := 0) (rm15_12 l Z a0 hw [] v1 v2 k1 k2 b0 d0 d1 h0 n0 (Nat.le_trans Z0 (Keep.refl h0 []).1) V1 V2) hZ (own_w hw 86 rfl) (own_w hw 67 rfl) (by decide) (by decide)) (g := (mkF m 44 #[.val (.ref a1), .val (.ref a2), .val (.ref a2)] [(.ref v2), (.ref v1)])) rfl (by rw [hml]; rfl) (argsL := [(.ref v1), (.ref v2)]) (rest := []) (lenOf pd10 rfl) rfl (by show 2 * 0 + _ ≤ _; exact Nat.le_of_eq rfl) (hb hby d14_44) (fun _ _ => ⟨rfl, e115, (by decide : 0 + 0 ≤ _), (by decide : 0 + 0 ≤ _)⟩)
  dsimp only [Pt.U, Pt.locs, Pt.cells, Pt.slots] at X116 l116 y116 z116 st116 hQ116
  subst l116 y116 z116
  obtain ⟨rfl, N116q, q116_hh⟩ := hQ116
  have N116 := Fr.app N0 N116q
  have p117 : Go p.tables e below _ (T116.setTop (mkF m 55 #[.val (.ref a1), .val (.ref a2), .val (.ref a2)] [(.int (0 : Int32))])) := fun t_ k_ => (gc (gc p114 st115) st116) t_ (by
    refine XS.ifYes X116.here hx rfl (pc0 := 47) (pc' := 54) rfl (hb hby d14_47) rfl ((if0 _ _).trans (teq (by decide : ((0 : Int32) = (0 : Int32)))).1) (by decide) (by decide) ?_
    refine XS.iconst X116.here hx rfl (hb hby d14_54) ?_
    exact k_)
  obtain ⟨fs, hr, hrun, hended, hW, hsame⟩ := X116.leave (v := some (.int (0 : Int32))) (fun h => by rw [Bd.returns] at h; cases h)
  refine ⟨_, _, p117 _ (retN X116 hx (t := .boolean) Bd.returns (by simp) (hb hby d14_55) hr), hrun, hended, _, _, rfl, ?_, ⟨_, rfl⟩, hW, hsame.mono (by decide) (by decide)⟩
  show Q14_12 Z a1 a2 v1 v2 k1 k2 b0 d0 d1 cs1 fm h0 n0 _ T116.heap _
  rw [q116_hh]
  exact ⟨by revert c107; (repeat' split) <;> simp, N116, rfl⟩
theorem ef_rm13_12 (m : MethodId) (a1 : Addr) (a2 : Addr) (s1 : Addr) (s2 : Addr) (r1 : Int32) (r2 : Int32) (v1 : Addr) (v2 : Addr) (k1 : ClassId) (k2 : ClassId) (b0 : Int32) (d0 : Int32) (d1 : Int32) (cs1 : Int32) (fm : Value) : entryFrame m #[(.ref a1), (.ref a2)] 3 = mkF m 0 #[.val (.ref a1), .val (.ref a2), .unset] [] := by first | (simp [entryFrame, mkF, argsToLocals, Value.category]; done) | rfl
def Q13_12 (Z : State) (a1 : Addr) (a2 : Addr) (s1 : Addr) (s2 : Addr) (r1 : Int32) (r2 : Int32) (v1 : Addr) (v2 : Addr) (k1 : ClassId) (k2 : ClassId) (b0 : Int32) (d0 : Int32) (d1 : Int32) (cs1 : Int32) (fm : Value) (h0 : Heap) (n0 : Nat) (v : Option Value) (h : Heap) (L : List Loc) : Prop := v = some (.int (own_se (0 : Int32) r1 r2)) ∧ Fr n0 L ∧ (h = h0)
set_option maxRecDepth 65536 in
set_option maxHeartbeats 40000000 in
theorem rm13_12 (l : Launch) (Z : State) (a0 : Array Value) (hw : ∀ d ∈ tables_1, d.before a0 Z = true) (ws : List Jvm.Cond) (a1 : Addr) (a2 : Addr) (s1 : Addr) (s2 : Addr) (r1 : Int32) (r2 : Int32) (v1 : Addr) (v2 : Addr) (k1 : ClassId) (k2 : ClassId) (b0 : Int32) (d0 : Int32) (d1 : Int32) (cs1 : Int32) (fm : Value) (h0 : Heap) (n0 : Nat) (Z0 : n0 ≤ h0.size) (O1 : Old Z n0 h0) (G : own_G Z cs1 fm) (E1 : Exa Z h0 a2 "com/example/kuusi/kuusi/core/Symbol") (ne : a1 ≠ a2) (N1 : Fld Z h0 a1 "com/example/kuusi/kuusi/core/Symbol" "name" "Ljava/lang/String;" (.ref s1)) (N2 : Fld Z h0 a2 "com/example/kuusi/kuusi/core/Symbol" "name" "Ljava/lang/String;" (.ref s2)) (R1 : Fld Z h0 a1 "com/example/kuusi/kuusi/core/Symbol" "rank" "I" (.int r1)) (R2 : Fld Z h0 a2 "com/example/kuusi/kuusi/core/Symbol" "rank" "I" (.int r2)) (ns : s1 ≠ s2) (E3 : Exa Z h0 s1 "java/lang/String") (E2 : Exa Z h0 s2 "java/lang/String") (F1 : Fld Z h0 s1 "java/lang/String" "coder" "B" (.int (0 : Int32))) (F2 : Fld Z h0 s2 "java/lang/String" "coder" "B" (.int (0 : Int32))) (F3 : Fld Z h0 s1 "java/lang/String" "value" "[B" (.ref v1)) (F4 : Fld Z h0 s2 "java/lang/String" "value" "[B" (.ref v2)) (V1 : Arv Z h0 v1 k1 .byte (1 : Int32) [(.int b0)] (.int (0 : Int32))) (V2 : Arv Z h0 v2 k2 .byte (2 : Int32) [(.int d0), (.int d1)] (.int (0 : Int32))) :
    MetFree l (⟨"com/example/kuusi/kuusi/core/Symbol", "equals", "(Ljava/lang/Object;)Z"⟩ : MethodName) (head1 (Jvm.Cond.code (⟨"com/example/kuusi/kuusi/core/Symbol", "equals", "(Ljava/lang/Object;)Z"⟩ : MethodName) prog_78_method_5_code 3 (some .boolean) :: ws) ({ frames := 2, cells := 0, slots := 0, locals := 28 } : Room)) (fun a U => a = #[(.ref a1), (.ref a2)] ∧ Z.Warmed39 U.vm ∧ U.heap = h0) (fun _ _ _ _ _ => True) (fun _ U o U' => ∃ v L, o = .returned v ∧ Q13_12 Z a1 a2 s1 s2 r1 r2 v1 v2 k1 k2 b0 d0 d1 cs1 fm h0 n0 v U'.heap L ∧ FrameEnd U o U' L ({ frames := 2, cells := 0, slots := 0, locals := 28 } : Room).cells ({ frames := 2, cells := 0, slots := 0, locals := 28 } : Room).slots) := by
  refine MetFree.of_bodySF pn13 hisR ?_
  intro p e s m args below meth c s₁ Bd hml0 hP hK
  obtain ⟨rfl, hZ, hh⟩ := hP
  have hx := Bd.exec
  have hby := Bd.bytes
  have hml : c.maxLocals = 3 := hml0
  have hown : s.vm.findClass "com/example/kuusi/kuusi/core/Symbol" = some m.cls := findClass_of_methodNamed Bd.named
  have hnm := (name_of_methodNamed Bd.named Bd.method).1
  have X0 : Stand p l e ({ frames := 2, cells := 0, slots := 0, locals := 28 } : Room) s m #[(.ref a1), (.ref a2)] below meth c s₁ [] 0 0 := Stand.of_body Bd
  have e0 : s₁.heap = h0 := by rw [← hh, Bd.state]; rfl
  have N0 := Fr.nil n0
  have p0 : Go p.tables e below (s₁.setTop (entryFrame m #[(.ref a1), (.ref a2)] 3)) (s₁.setTop (mkF m 0 #[.val (.ref a1), .val (.ref a2), .unset] [])) := fun t_ k_ => castTop (ef_rm13_12 m a1 a2 s1 s2 r1 r2 v1 v2 k1 k2 b0 d0 d1 cs1 fm) k_
  have p101 : Go p.tables e below _ (s₁.setTop (mkF m 6 #[.val (.ref a1), .val (.ref a2), .unset] [(.ref a2)])) := fun t_ k_ => p0 t_ (by
    refine XS.aloadN X0.here hx rfl (hb hby d13_0) rfl rfl ?_
    refine XS.aloadN X0.here hx rfl (hb hby d13_1) rfl rfl ?_
    refine Jvm.RoadKit.acmp (g := (mkF m 2 #[.val (.ref a1), .val (.ref a2), .unset] [(.ref a1), (.ref a2)])) X0 hx rfl rfl rfl (pc0 := 2) (pc' := 5) (same := false) rfl (hb hby d13_2) rfl (decide_eq_false fun q => (Ne.symm ne) (Value.ref.inj q)) (by decide) (by decide) ?_
    refine XS.aloadN X0.here hx rfl (hb hby d13_5) rfl rfl ?_
    exact k_)
  obtain ⟨T102, X102, e102, st102⟩ := instY X0 hx hZ hown (own_w hw 76 rfl) e0 (Ins.self E1) (g := (mkF m 6 #[.val (.ref a1), .val (.ref a2), .unset] [(.ref a2)])) rfl rfl (hb hby d13_6)
  have p103 : Go p.tables e below _ (T102.setTop (mkF m 13 #[.val (.ref a1), .val (.ref a2), .unset] [(.ref a2)])) := fun t_ k_ => (gc p101 st102) t_ (by
    refine XS.ifNo X102.here hx rfl (hb hby d13_9) rfl ((if0 _ _).trans (feq (by decide : ¬ ((1 : Int32) = (0 : Int32)))).1) ?_
    refine XS.aloadN X102.here hx rfl (hb hby d13_12) rfl rfl ?_
    exact k_)
  obtain ⟨T104, X104, e104, st104⟩ := castY X102 hx hZ hown (own_w hw 76 rfl) e102 (Ins.self E1) (g := (mkF m 13 #[.val (.ref a1), .val (.ref a2), .unset] [(.ref a2)])) rfl rfl (hb hby d13_13)
  have p105 : Go p.tables e below _ (T104.setTop (mkF m 18 #[.val (.ref a1), .val (.ref a2), .val (.ref a2)] [(.ref a1)])) := fun t_ k_ => (gc p103 st104) t_ (by
    refine XS.astoreN X104.here hx rfl (hb hby d13_16) rfl rfl (l' := #[.val (.ref a1), .val (.ref a2), .val (.ref a2)]) rfl ?_
    refine XS.aloadN X104.here hx rfl (hb hby d13_17) rfl rfl ?_
    exact k_)
  obtain ⟨T106, X106, e106, st106⟩ := getF X104 hx hZ hown (host := "") (Or.inl (own_w hw 47 rfl)) Via.refl e104 N1 (g := (mkF m 18 #[.val (.ref a1), .val (.ref a2), .val (.ref a2)] [(.ref a1)])) rfl rfl (hb hby d13_18)
  have p107 : Go p.tables e below _ (T106.setTop (mkF m 22 #[.val (.ref a1), .val (.ref a2), .val (.ref a2)] [(.ref a2), (.ref s1)])) := fun t_ k_ => (gc p105 st106) t_ (by
    refine XS.aloadN X106.here hx rfl (hb hby d13_21) rfl rfl ?_
    exact k_)
  obtain ⟨T108, X108, e108, st108⟩ := getF X106 hx hZ hown (host := "") (Or.inl (own_w hw 47 rfl)) Via.refl e106 N2 (g := (mkF m 22 #[.val (.ref a1), .val (.ref a2), .val (.ref a2)] [(.ref a2), (.ref s1)])) rfl rfl (hb hby d13_22)
  obtain ⟨cq109, kq109, q109a, q109b, q109c⟩ := isOf hZ e108 E3
  obtain ⟨_, _, ⟨T109, L109, k109, n109⟩, -, X109, ⟨Lc109, hQ109, l109, y109, z109⟩, st109⟩ := X108.virtualBack hx (y := (⟨"java/lang/String", "equals", "(Ljava/lang/Object;)Z"⟩ : MethodName)) (z := (⟨"java/lang/String", "equals", "(Ljava/lang/Object;)Z"⟩ : MethodName)) hown (mvT hZ (own_w hw 78 rfl)) (mvT hZ (own_w hw 79 rfl)) (notFace_of_selects (args := #[]) (mvT hZ (own_w hw 81 rfl))) (mvT hZ (own_w hw 81 rfl)) (mvT hZ (own_w hw 80 rfl)) (by decide) (backOf (W := 0) (rm14_12 l Z a0 hw [] s1 s2 v1 v2 k1 k2 b0 d0 d1 cs1 fm h0 n0 (Nat.le_trans Z0 (Keep.refl h0 []).1) O1 G ns E2 F1 F2 F3 F4 V1 V2) hZ (own_w hw 82 rfl) (own_w hw 7 rfl) (by decide) (by decide)) q109a q109c (g := (mkF m 25 #[.val (.ref a1), .val (.ref a2), .val (.ref a2)] [(.ref s2), (.ref s1)])) rfl (by rw [hml]; rfl) (Steps.refl _) (argsL := [(.ref s2)]) (rest := []) (lenOf pd11 rfl) rfl (by show 2 * 0 + _ ≤ _; exact Nat.le_of_eq rfl) (hb hby d13_25) (fun _ _ => ⟨rfl, e108, (by decide : 0 + 0 ≤ _), (by decide : 0 + 0 ≤ _)⟩)
  dsimp only [Pt.U, Pt.locs, Pt.cells, Pt.slots] at X109 l109 y109 z109 st109 hQ109
  subst l109 y109 z109
  obtain ⟨rfl, N109q, q109_hh⟩ := hQ109
  have N109 := Fr.app N0 N109q
  have p110 : Go p.tables e below _ (T109.setTop (mkF m 47 #[.val (.ref a1), .val (.ref a2), .val (.ref a2)] [(.int (0 : Int32))])) := fun t_ k_ => (gcT (gc p107 st108) st109) t_ (by
    refine XS.ifYes X109.here hx rfl (pc0 := 28) (pc' := 46) rfl (hb hby d13_28) rfl ((if0 _ _).trans (teq (by decide : ((0 : Int32) = (0 : Int32)))).1) (by decide) (by decide) ?_
    refine XS.iconst X109.here hx rfl (hb hby d13_46) ?_
    exact k_)
  obtain ⟨fs, hr, hrun, hended, hW, hsame⟩ := X109.leave (v := some (.int (0 : Int32))) (fun h => by rw [Bd.returns] at h; cases h)
  refine ⟨_, _, p110 _ (retN X109 hx (t := .boolean) Bd.returns (by simp) (hb hby d13_47) hr), hrun, hended, _, _, rfl, ?_, ⟨_, rfl⟩, hW, hsame.mono (by decide) (by decide)⟩
  show Q13_12 Z a1 a2 s1 s2 r1 r2 v1 v2 k1 k2 b0 d0 d1 cs1 fm h0 n0 _ T109.heap _
  rw [q109_hh]
  exact ⟨by simp [own_se, ], N109, rfl⟩
theorem ef_rm15_21 (m : MethodId) (a1 : Addr) (a2 : Addr) (k1 : ClassId) (k2 : ClassId) (b0 : Int32) (b1 : Int32) (d0 : Int32) : entryFrame m #[(.ref a1), (.ref a2)] 3 = mkF m 0 #[.val (.ref a1), .val (.ref a2), .unset] [] := by first | (simp [entryFrame, mkF, argsToLocals, Value.category]; done) | rfl
def Q15_21 (Z : State) (a1 : Addr) (a2 : Addr) (k1 : ClassId) (k2 : ClassId) (b0 : Int32) (b1 : Int32) (d0 : Int32) (h0 : Heap) (n0 : Nat) (v : Option Value) (h : Heap) (L : List Loc) : Prop := v = some (.int (0 : Int32)) ∧ Fr n0 L ∧ (h = h0)
set_option maxRecDepth 65536 in
set_option maxHeartbeats 40000000 in
theorem rm15_21 (l : Launch) (Z : State) (a0 : Array Value) (hw : ∀ d ∈ tables_1, d.before a0 Z = true) (ws : List Jvm.Cond) (a1 : Addr) (a2 : Addr) (k1 : ClassId) (k2 : ClassId) (b0 : Int32) (b1 : Int32) (d0 : Int32) (h0 : Heap) (n0 : Nat) (Z0 : n0 ≤ h0.size) (V1 : Arv Z h0 a1 k1 .byte (2 : Int32) [(.int b0), (.int b1)] (.int (0 : Int32))) (V2 : Arv Z h0 a2 k2 .byte (1 : Int32) [(.int d0)] (.int (0 : Int32))) :
    MetFree l (⟨"java/lang/StringLatin1", "equals", "([B[B)Z"⟩ : MethodName) (head1 (Jvm.Cond.code (⟨"java/lang/StringLatin1", "equals", "([B[B)Z"⟩ : MethodName) jdk_43_method_13_code 3 (some .boolean) :: ws) ({ frames := 0, cells := 0, slots := 0, locals := 0 } : Room)) (fun a U => a = #[(.ref a1), (.ref a2)] ∧ Z.Warmed39 U.vm ∧ U.heap = h0) (fun _ _ _ _ _ => True) (fun _ U o U' => ∃ v L, o = .returned v ∧ Q15_21 Z a1 a2 k1 k2 b0 b1 d0 h0 n0 v U'.heap L ∧ FrameEnd U o U' L ({ frames := 0, cells := 0, slots := 0, locals := 0 } : Room).cells ({ frames := 0, cells := 0, slots := 0, locals := 0 } : Room).slots) := by
  refine MetFree.of_bodySF pn15 hisR ?_
  intro p e s m args below meth c s₁ Bd hml0 hP hK
  obtain ⟨rfl, hZ, hh⟩ := hP
  have hx := Bd.exec
  have hby := Bd.bytes
  have hml : c.maxLocals = 3 := hml0
  have hown : s.vm.findClass "java/lang/StringLatin1" = some m.cls := findClass_of_methodNamed Bd.named
  have hnm := (name_of_methodNamed Bd.named Bd.method).1
  have X0 : Stand p l e ({ frames := 0, cells := 0, slots := 0, locals := 0 } : Room) s m #[(.ref a1), (.ref a2)] below meth c s₁ [] 0 0 := Stand.of_body Bd
  have e0 : s₁.heap = h0 := by rw [← hh, Bd.state]; rfl
  have N0 := Fr.nil n0
  have p0 : Go p.tables e below (s₁.setTop (entryFrame m #[(.ref a1), (.ref a2)] 3)) (s₁.setTop (mkF m 0 #[.val (.ref a1), .val (.ref a2), .unset] [])) := fun t_ k_ => castTop (ef_rm15_21 m a1 a2 k1 k2 b0 b1 d0) k_
  have p101 : Go p.tables e below _ (s₁.setTop (mkF m 1 #[.val (.ref a1), .val (.ref a2), .unset] [(.ref a1)])) := fun t_ k_ => p0 t_ (by
    refine XS.aloadN X0.here hx rfl (hb hby d15_0) rfl rfl ?_
    exact k_)
  obtain ⟨cl102, Ar102, -, S102, Ng102, -, -⟩ := id V1
  have p103 : Go p.tables e below _ (s₁.setTop (mkF m 3 #[.val (.ref a1), .val (.ref a2), .unset] [(.ref a2), (.int (2 : Int32))])) := fun t_ k_ => p101 t_ (by
    refine X0.arraylength hx (by rw [e0]; exact Ar102.1) (State.isArrayOf_alike hZ.alike Ar102.2.1) (g := (mkF m 1 #[.val (.ref a1), .val (.ref a2), .unset] [(.ref a1)])) rfl rfl (hb hby d15_1) _ ?_
    rw [len_of S102 Ng102]
    show Steps p.tables e below (s₁.setTop (mkF m 2 #[.val (.ref a1), .val (.ref a2), .unset] [(.int (2 : Int32))])) _
    refine XS.aloadN X0.here hx rfl (hb hby d15_2) rfl rfl ?_
    exact k_)
  obtain ⟨cl104, Ar104, -, S104, Ng104, -, -⟩ := id V2
  have p105 : Go p.tables e below _ (s₁.setTop (mkF m 35 #[.val (.ref a1), .val (.ref a2), .unset] [(.int (0 : Int32))])) := fun t_ k_ => p103 t_ (by
    refine X0.arraylength hx (by rw [e0]; exact Ar104.1) (State.isArrayOf_alike hZ.alike Ar104.2.1) (g := (mkF m 3 #[.val (.ref a1), .val (.ref a2), .unset] [(.ref a2), (.int (2 : Int32))])) rfl rfl (hb hby d15_3) _ ?_
    rw [len_of S104 Ng104]
    show Steps p.tables e below (s₁.setTop (mkF m 4 #[.val (.ref a1), .val (.ref a2), .unset] [(.int (1 : Int32)), (.int (2 : Int32))])) _
    refine XS.icmpYes X0.here hx rfl (pc0 := 4) (pc' := 34) rfl (hb hby d15_4) rfl (feq (by decide : ¬ ((2 : Int32) = (1 : Int32)))).2 (by decide) (by decide) ?_
    refine XS.iconst X0.here hx rfl (hb hby d15_34) ?_
    exact k_)
  obtain ⟨fs, hr, hrun, hended, hW, hsame⟩ := X0.leave (v := some (.int (0 : Int32))) (fun h => by rw [Bd.returns] at h; cases h)
  refine ⟨_, _, p105 _ (retN X0 hx (t := .boolean) Bd.returns (by simp) (hb hby d15_35) hr), hrun, hended, _, _, rfl, ?_, ⟨_, rfl⟩, hW, hsame.mono (by decide) (by decide)⟩
  show Q15_21 Z a1 a2 k1 k2 b0 b1 d0 h0 n0 _ s₁.heap _
  rw [e0]
  exact ⟨rfl, N0, rfl⟩
theorem ef_rm14_21 (m : MethodId) (a1 : Addr) (a2 : Addr) (v1 : Addr) (v2 : Addr) (k1 : ClassId) (k2 : ClassId) (b0 : Int32) (b1 : Int32) (d0 : Int32) (cs1 : Int32) (fm : Value) : entryFrame m #[(.ref a1), (.ref a2)] 3 = mkF m 0 #[.val (.ref a1), .val (.ref a2), .unset] [] := by first | (simp [entryFrame, mkF, argsToLocals, Value.category]; done) | rfl
def Q14_21 (Z : State) (a1 : Addr) (a2 : Addr) (v1 : Addr) (v2 : Addr) (k1 : ClassId) (k2 : ClassId) (b0 : Int32) (b1 : Int32) (d0 : Int32) (cs1 : Int32) (fm : Value) (h0 : Heap) (n0 : Nat) (v : Option Value) (h : Heap) (L : List Loc) : Prop := v = some (.int (0 : Int32)) ∧ Fr n0 L ∧ (h = h0)
set_option maxRecDepth 65536 in
set_option maxHeartbeats 40000000 in
theorem rm14_21 (l : Launch) (Z : State) (a0 : Array Value) (hw : ∀ d ∈ tables_1, d.before a0 Z = true) (ws : List Jvm.Cond) (a1 : Addr) (a2 : Addr) (v1 : Addr) (v2 : Addr) (k1 : ClassId) (k2 : ClassId) (b0 : Int32) (b1 : Int32) (d0 : Int32) (cs1 : Int32) (fm : Value) (h0 : Heap) (n0 : Nat) (Z0 : n0 ≤ h0.size) (O1 : Old Z n0 h0) (G : own_G Z cs1 fm) (ne : a1 ≠ a2) (E2 : Exa Z h0 a2 "java/lang/String") (F1 : Fld Z h0 a1 "java/lang/String" "coder" "B" (.int (0 : Int32))) (F2 : Fld Z h0 a2 "java/lang/String" "coder" "B" (.int (0 : Int32))) (F3 : Fld Z h0 a1 "java/lang/String" "value" "[B" (.ref v1)) (F4 : Fld Z h0 a2 "java/lang/String" "value" "[B" (.ref v2)) (V1 : Arv Z h0 v1 k1 .byte (2 : Int32) [(.int b0), (.int b1)] (.int (0 : Int32))) (V2 : Arv Z h0 v2 k2 .byte (1 : Int32) [(.int d0)] (.int (0 : Int32))) :
    MetFree l (⟨"java/lang/String", "equals", "(Ljava/lang/Object;)Z"⟩ : MethodName) (head1 (Jvm.Cond.code (⟨"java/lang/String", "equals", "(Ljava/lang/Object;)Z"⟩ : MethodName) jdk_42_method_66_code 3 (some .boolean) :: ws) ({ frames := 1, cells := 0, slots := 0, locals := 14 } : Room)) (fun a U => a = #[(.ref a1), (.ref a2)] ∧ Z.Warmed39 U.vm ∧ U.heap = h0) (fun _ _ _ _ _ => True) (fun _ U o U' => ∃ v L, o = .returned v ∧ Q14_21 Z a1 a2 v1 v2 k1 k2 b0 b1 d0 cs1 fm h0 n0 v U'.heap L ∧ FrameEnd U o U' L ({ frames := 1, cells := 0, slots := 0, locals := 14 } : Room).cells ({ frames := 1, cells := 0, slots := 0, locals := 14 } : Room).slots) := by
  refine MetFree.of_bodySF pn14 hisR ?_
  intro p e s m args below meth c s₁ Bd hml0 hP hK
  obtain ⟨rfl, hZ, hh⟩ := hP
  have hx := Bd.exec
  have hby := Bd.bytes
  have hml : c.maxLocals = 3 := hml0
  have hown : s.vm.findClass "java/lang/String" = some m.cls := findClass_of_methodNamed Bd.named
  have hnm := (name_of_methodNamed Bd.named Bd.method).1
  have X0 : Stand p l e ({ frames := 1, cells := 0, slots := 0, locals := 14 } : Room) s m #[(.ref a1), (.ref a2)] below meth c s₁ [] 0 0 := Stand.of_body Bd
  have e0 : s₁.heap = h0 := by rw [← hh, Bd.state]; rfl
  have N0 := Fr.nil n0
  have p0 : Go p.tables e below (s₁.setTop (entryFrame m #[(.ref a1), (.ref a2)] 3)) (s₁.setTop (mkF m 0 #[.val (.ref a1), .val (.ref a2), .unset] [])) := fun t_ k_ => castTop (ef_rm14_21 m a1 a2 v1 v2 k1 k2 b0 b1 d0 cs1 fm) k_
  have p101 : Go p.tables e below _ (s₁.setTop (mkF m 8 #[.val (.ref a1), .val (.ref a2), .unset] [(.ref a2)])) := fun t_ k_ => p0 t_ (by
    refine XS.aloadN X0.here hx rfl (hb hby d14_0) rfl rfl ?_
    refine XS.aloadN X0.here hx rfl (hb hby d14_1) rfl rfl ?_
    refine Jvm.RoadKit.acmp (g := (mkF m 2 #[.val (.ref a1), .val (.ref a2), .unset] [(.ref a2), (.ref a1)])) X0 hx rfl rfl rfl (pc0 := 2) (pc' := 7) (same := false) rfl (hb hby d14_2) rfl (decide_eq_false fun q => ne (Value.ref.inj q)) (by decide) (by decide) ?_
    refine XS.aloadN X0.here hx rfl (hb hby d14_7) rfl rfl ?_
    exact k_)
  obtain ⟨T102, X102, e102, st102⟩ := instY X0 hx hZ hown (own_w hw 83 rfl) e0 (Ins.self E2) (g := (mkF m 8 #[.val (.ref a1), .val (.ref a2), .unset] [(.ref a2)])) rfl rfl (hb hby d14_8)
  have p103 : Go p.tables e below _ (T102.setTop (mkF m 15 #[.val (.ref a1), .val (.ref a2), .unset] [(.ref a2)])) := fun t_ k_ => (gc p101 st102) t_ (by
    refine XS.ifNo X102.here hx rfl (hb hby d14_11) rfl ((if0 _ _).trans (feq (by decide : ¬ ((1 : Int32) = (0 : Int32)))).1) ?_
    refine XS.aloadN X102.here hx rfl (hb hby d14_14) rfl rfl ?_
    exact k_)
  obtain ⟨T104, X104, e104, st104⟩ := castY X102 hx hZ hown (own_w hw 83 rfl) e102 (Ins.self E2) (g := (mkF m 15 #[.val (.ref a1), .val (.ref a2), .unset] [(.ref a2)])) rfl rfl (hb hby d14_15)
  have p105 : Go p.tables e below _ (T104.setTop (mkF m 19 #[.val (.ref a1), .val (.ref a2), .val (.ref a2)] [])) := fun t_ k_ => (gc p103 st104) t_ (by
    refine XS.astoreN X104.here hx rfl (hb hby d14_18) rfl rfl (l' := #[.val (.ref a1), .val (.ref a2), .val (.ref a2)]) rfl ?_
    exact k_)
  obtain ⟨T106, X106, e106, st106⟩ := getS2 X104 hx hZ hown (host := "") (Or.inl (own_w hw 19 rfl)) Via.refl e104 (G.1.ext O1.2) (g := (mkF m 19 #[.val (.ref a1), .val (.ref a2), .val (.ref a2)] [])) rfl (hb hby d14_19)
  have c107 : ¬ (cs1 = (0 : Int32)) := G.2.1
  have p108 : Go p.tables e below _ (T106.setTop (mkF m 26 #[.val (.ref a1), .val (.ref a2), .val (.ref a2)] [(.ref a1)])) := fun t_ k_ => (gc p105 st106) t_ (by
    refine XS.ifNo X106.here hx rfl (hb hby d14_22) rfl ((if0 _ _).trans (feq c107).1) ?_
    refine XS.aloadN X106.here hx rfl (hb hby d14_25) rfl rfl ?_
    exact k_)
  obtain ⟨T109, X109, e109, st109⟩ := getF X106 hx hZ hown (host := "") (Or.inl (own_w hw 31 rfl)) Via.refl e106 F1 (g := (mkF m 26 #[.val (.ref a1), .val (.ref a2), .val (.ref a2)] [(.ref a1)])) rfl rfl (hb hby d14_26)
  have p110 : Go p.tables e below _ (T109.setTop (mkF m 30 #[.val (.ref a1), .val (.ref a2), .val (.ref a2)] [(.ref a2), (.int (0 : Int32))])) := fun t_ k_ => (gc p108 st109) t_ (by
    refine XS.aloadN X109.here hx rfl (hb hby d14_29) rfl rfl ?_
    exact k_)
  obtain ⟨T111, X111, e111, st111⟩ := getF X109 hx hZ hown (host := "") (Or.inl (own_w hw 31 rfl)) Via.refl e109 F2 (g := (mkF m 30 #[.val (.ref a1), .val (.ref a2), .val (.ref a2)] [(.ref a2), (.int (0 : Int32))])) rfl rfl (hb hby d14_30)
  have p112 : Go p.tables e below _ (T111.setTop (mkF m 37 #[.val (.ref a1), .val (.ref a2), .val (.ref a2)] [(.ref a1)])) := fun t_ k_ => (gc p110 st111) t_ (by
    refine XS.icmpNo X111.here hx rfl (hb hby d14_33) rfl (teq (by decide : ((0 : Int32) = (0 : Int32)))).2 ?_
    refine XS.aloadN X111.here hx rfl (hb hby d14_36) rfl rfl ?_
    exact k_)
  obtain ⟨T113, X113, e113, st113⟩ := getF X111 hx hZ hown (host := "") (Or.inl (own_w hw 33 rfl)) Via.refl e111 F3 (g := (mkF m 37 #[.val (.ref a1), .val (.ref a2), .val (.ref a2)] [(.ref a1)])) rfl rfl (hb hby d14_37)
  have p114 : Go p.tables e below _ (T113.setTop (mkF m 41 #[.val (.ref a1), .val (.ref a2), .val (.ref a2)] [(.ref a2), (.ref v1)])) := fun t_ k_ => (gc p112 st113) t_ (by
    refine XS.aloadN X113.here hx rfl (hb hby d14_40) rfl rfl ?_
    exact k_)
  obtain ⟨T115, X115, e115, st115⟩ := getF X113 hx hZ hown (host := "") (Or.inl (own_w hw 33 rfl)) Via.refl e113 F4 (g := (mkF m 41 #[.val (.ref a1), .val (.ref a2), .val (.ref a2)] [(.ref a2), (.ref v1)])) rfl rfl (hb hby d14_41)
  obtain ⟨_, _, ⟨T116, L116, k116, n116⟩, -, X116, ⟨Lc116, hQ116, l116, y116, z116⟩, st116⟩ := Jvm.LawKit.callS X115 hx (y := (⟨"java/lang/StringLatin1", "equals", "([B[B)Z"⟩ : MethodName)) hown (mvT hZ (own_w hw 84 rfl)) (mvT hZ (own_w hw 85 rfl)) (mvT hZ (own_w hw 67 rfl)) (mvT hZ (own_w hw 86 rfl)) (by decide) (backOf (W := 0) (rm15_21 l Z a0 hw [] v1 v2 k1 k2 b0 b1 d0 h0 n0 (Nat.le_trans Z0 (Keep.refl h0 []).1) V1 V2) hZ (own_w hw 86 rfl) (own_w hw 67 rfl) (by decide) (by decide)) (g := (mkF m 44 #[.val (.ref a1), .val (.ref a2), .val (.ref a2)] [(.ref v2), (.ref v1)])) rfl (by rw [hml]; rfl) (argsL := [(.ref v1), (.ref v2)]) (rest := []) (lenOf pd10 rfl) rfl (by show 2 * 0 + _ ≤ _; exact Nat.le_of_eq rfl) (hb hby d14_44) (fun _ _ => ⟨rfl, e115, (by decide : 0 + 0 ≤ _), (by decide : 0 + 0 ≤ _)⟩)
  dsimp only [Pt.U, Pt.locs, Pt.cells, Pt.slots] at X116 l116 y116 z116 st116 hQ116
  subst l116 y116 z116
  obtain ⟨rfl, N116q, q116_hh⟩ := hQ116
  have N116 := Fr.app N0 N116q
  have p117 : Go p.tables e below _ (T116.setTop (mkF m 55 #[.val (.ref a1), .val (.ref a2), .val (.ref a2)] [(.int (0 : Int32))])) := fun t_ k_ => (gc (gc p114 st115) st116) t_ (by
    refine XS.ifYes X116.here hx rfl (pc0 := 47) (pc' := 54) rfl (hb hby d14_47) rfl ((if0 _ _).trans (teq (by decide : ((0 : Int32) = (0 : Int32)))).1) (by decide) (by decide) ?_
    refine XS.iconst X116.here hx rfl (hb hby d14_54) ?_
    exact k_)
  obtain ⟨fs, hr, hrun, hended, hW, hsame⟩ := X116.leave (v := some (.int (0 : Int32))) (fun h => by rw [Bd.returns] at h; cases h)
  refine ⟨_, _, p117 _ (retN X116 hx (t := .boolean) Bd.returns (by simp) (hb hby d14_55) hr), hrun, hended, _, _, rfl, ?_, ⟨_, rfl⟩, hW, hsame.mono (by decide) (by decide)⟩
  show Q14_21 Z a1 a2 v1 v2 k1 k2 b0 b1 d0 cs1 fm h0 n0 _ T116.heap _
  rw [q116_hh]
  exact ⟨by revert c107; (repeat' split) <;> simp, N116, rfl⟩
theorem ef_rm13_21 (m : MethodId) (a1 : Addr) (a2 : Addr) (s1 : Addr) (s2 : Addr) (r1 : Int32) (r2 : Int32) (v1 : Addr) (v2 : Addr) (k1 : ClassId) (k2 : ClassId) (b0 : Int32) (b1 : Int32) (d0 : Int32) (cs1 : Int32) (fm : Value) : entryFrame m #[(.ref a1), (.ref a2)] 3 = mkF m 0 #[.val (.ref a1), .val (.ref a2), .unset] [] := by first | (simp [entryFrame, mkF, argsToLocals, Value.category]; done) | rfl
def Q13_21 (Z : State) (a1 : Addr) (a2 : Addr) (s1 : Addr) (s2 : Addr) (r1 : Int32) (r2 : Int32) (v1 : Addr) (v2 : Addr) (k1 : ClassId) (k2 : ClassId) (b0 : Int32) (b1 : Int32) (d0 : Int32) (cs1 : Int32) (fm : Value) (h0 : Heap) (n0 : Nat) (v : Option Value) (h : Heap) (L : List Loc) : Prop := v = some (.int (own_se (0 : Int32) r1 r2)) ∧ Fr n0 L ∧ (h = h0)
set_option maxRecDepth 65536 in
set_option maxHeartbeats 40000000 in
theorem rm13_21 (l : Launch) (Z : State) (a0 : Array Value) (hw : ∀ d ∈ tables_1, d.before a0 Z = true) (ws : List Jvm.Cond) (a1 : Addr) (a2 : Addr) (s1 : Addr) (s2 : Addr) (r1 : Int32) (r2 : Int32) (v1 : Addr) (v2 : Addr) (k1 : ClassId) (k2 : ClassId) (b0 : Int32) (b1 : Int32) (d0 : Int32) (cs1 : Int32) (fm : Value) (h0 : Heap) (n0 : Nat) (Z0 : n0 ≤ h0.size) (O1 : Old Z n0 h0) (G : own_G Z cs1 fm) (E1 : Exa Z h0 a2 "com/example/kuusi/kuusi/core/Symbol") (ne : a1 ≠ a2) (N1 : Fld Z h0 a1 "com/example/kuusi/kuusi/core/Symbol" "name" "Ljava/lang/String;" (.ref s1)) (N2 : Fld Z h0 a2 "com/example/kuusi/kuusi/core/Symbol" "name" "Ljava/lang/String;" (.ref s2)) (R1 : Fld Z h0 a1 "com/example/kuusi/kuusi/core/Symbol" "rank" "I" (.int r1)) (R2 : Fld Z h0 a2 "com/example/kuusi/kuusi/core/Symbol" "rank" "I" (.int r2)) (ns : s1 ≠ s2) (E3 : Exa Z h0 s1 "java/lang/String") (E2 : Exa Z h0 s2 "java/lang/String") (F1 : Fld Z h0 s1 "java/lang/String" "coder" "B" (.int (0 : Int32))) (F2 : Fld Z h0 s2 "java/lang/String" "coder" "B" (.int (0 : Int32))) (F3 : Fld Z h0 s1 "java/lang/String" "value" "[B" (.ref v1)) (F4 : Fld Z h0 s2 "java/lang/String" "value" "[B" (.ref v2)) (V1 : Arv Z h0 v1 k1 .byte (2 : Int32) [(.int b0), (.int b1)] (.int (0 : Int32))) (V2 : Arv Z h0 v2 k2 .byte (1 : Int32) [(.int d0)] (.int (0 : Int32))) :
    MetFree l (⟨"com/example/kuusi/kuusi/core/Symbol", "equals", "(Ljava/lang/Object;)Z"⟩ : MethodName) (head1 (Jvm.Cond.code (⟨"com/example/kuusi/kuusi/core/Symbol", "equals", "(Ljava/lang/Object;)Z"⟩ : MethodName) prog_78_method_5_code 3 (some .boolean) :: ws) ({ frames := 2, cells := 0, slots := 0, locals := 28 } : Room)) (fun a U => a = #[(.ref a1), (.ref a2)] ∧ Z.Warmed39 U.vm ∧ U.heap = h0) (fun _ _ _ _ _ => True) (fun _ U o U' => ∃ v L, o = .returned v ∧ Q13_21 Z a1 a2 s1 s2 r1 r2 v1 v2 k1 k2 b0 b1 d0 cs1 fm h0 n0 v U'.heap L ∧ FrameEnd U o U' L ({ frames := 2, cells := 0, slots := 0, locals := 28 } : Room).cells ({ frames := 2, cells := 0, slots := 0, locals := 28 } : Room).slots) := by
  refine MetFree.of_bodySF pn13 hisR ?_
  intro p e s m args below meth c s₁ Bd hml0 hP hK
  obtain ⟨rfl, hZ, hh⟩ := hP
  have hx := Bd.exec
  have hby := Bd.bytes
  have hml : c.maxLocals = 3 := hml0
  have hown : s.vm.findClass "com/example/kuusi/kuusi/core/Symbol" = some m.cls := findClass_of_methodNamed Bd.named
  have hnm := (name_of_methodNamed Bd.named Bd.method).1
  have X0 : Stand p l e ({ frames := 2, cells := 0, slots := 0, locals := 28 } : Room) s m #[(.ref a1), (.ref a2)] below meth c s₁ [] 0 0 := Stand.of_body Bd
  have e0 : s₁.heap = h0 := by rw [← hh, Bd.state]; rfl
  have N0 := Fr.nil n0
  have p0 : Go p.tables e below (s₁.setTop (entryFrame m #[(.ref a1), (.ref a2)] 3)) (s₁.setTop (mkF m 0 #[.val (.ref a1), .val (.ref a2), .unset] [])) := fun t_ k_ => castTop (ef_rm13_21 m a1 a2 s1 s2 r1 r2 v1 v2 k1 k2 b0 b1 d0 cs1 fm) k_
  have p101 : Go p.tables e below _ (s₁.setTop (mkF m 6 #[.val (.ref a1), .val (.ref a2), .unset] [(.ref a2)])) := fun t_ k_ => p0 t_ (by
    refine XS.aloadN X0.here hx rfl (hb hby d13_0) rfl rfl ?_
    refine XS.aloadN X0.here hx rfl (hb hby d13_1) rfl rfl ?_
    refine Jvm.RoadKit.acmp (g := (mkF m 2 #[.val (.ref a1), .val (.ref a2), .unset] [(.ref a1), (.ref a2)])) X0 hx rfl rfl rfl (pc0 := 2) (pc' := 5) (same := false) rfl (hb hby d13_2) rfl (decide_eq_false fun q => (Ne.symm ne) (Value.ref.inj q)) (by decide) (by decide) ?_
    refine XS.aloadN X0.here hx rfl (hb hby d13_5) rfl rfl ?_
    exact k_)
  obtain ⟨T102, X102, e102, st102⟩ := instY X0 hx hZ hown (own_w hw 76 rfl) e0 (Ins.self E1) (g := (mkF m 6 #[.val (.ref a1), .val (.ref a2), .unset] [(.ref a2)])) rfl rfl (hb hby d13_6)
  have p103 : Go p.tables e below _ (T102.setTop (mkF m 13 #[.val (.ref a1), .val (.ref a2), .unset] [(.ref a2)])) := fun t_ k_ => (gc p101 st102) t_ (by
    refine XS.ifNo X102.here hx rfl (hb hby d13_9) rfl ((if0 _ _).trans (feq (by decide : ¬ ((1 : Int32) = (0 : Int32)))).1) ?_
    refine XS.aloadN X102.here hx rfl (hb hby d13_12) rfl rfl ?_
    exact k_)
  obtain ⟨T104, X104, e104, st104⟩ := castY X102 hx hZ hown (own_w hw 76 rfl) e102 (Ins.self E1) (g := (mkF m 13 #[.val (.ref a1), .val (.ref a2), .unset] [(.ref a2)])) rfl rfl (hb hby d13_13)
  have p105 : Go p.tables e below _ (T104.setTop (mkF m 18 #[.val (.ref a1), .val (.ref a2), .val (.ref a2)] [(.ref a1)])) := fun t_ k_ => (gc p103 st104) t_ (by
    refine XS.astoreN X104.here hx rfl (hb hby d13_16) rfl rfl (l' := #[.val (.ref a1), .val (.ref a2), .val (.ref a2)]) rfl ?_
    refine XS.aloadN X104.here hx rfl (hb hby d13_17) rfl rfl ?_
    exact k_)
  obtain ⟨T106, X106, e106, st106⟩ := getF X104 hx hZ hown (host := "") (Or.inl (own_w hw 47 rfl)) Via.refl e104 N1 (g := (mkF m 18 #[.val (.ref a1), .val (.ref a2), .val (.ref a2)] [(.ref a1)])) rfl rfl (hb hby d13_18)
  have p107 : Go p.tables e below _ (T106.setTop (mkF m 22 #[.val (.ref a1), .val (.ref a2), .val (.ref a2)] [(.ref a2), (.ref s1)])) := fun t_ k_ => (gc p105 st106) t_ (by
    refine XS.aloadN X106.here hx rfl (hb hby d13_21) rfl rfl ?_
    exact k_)
  obtain ⟨T108, X108, e108, st108⟩ := getF X106 hx hZ hown (host := "") (Or.inl (own_w hw 47 rfl)) Via.refl e106 N2 (g := (mkF m 22 #[.val (.ref a1), .val (.ref a2), .val (.ref a2)] [(.ref a2), (.ref s1)])) rfl rfl (hb hby d13_22)
  obtain ⟨cq109, kq109, q109a, q109b, q109c⟩ := isOf hZ e108 E3
  obtain ⟨_, _, ⟨T109, L109, k109, n109⟩, -, X109, ⟨Lc109, hQ109, l109, y109, z109⟩, st109⟩ := X108.virtualBack hx (y := (⟨"java/lang/String", "equals", "(Ljava/lang/Object;)Z"⟩ : MethodName)) (z := (⟨"java/lang/String", "equals", "(Ljava/lang/Object;)Z"⟩ : MethodName)) hown (mvT hZ (own_w hw 78 rfl)) (mvT hZ (own_w hw 79 rfl)) (notFace_of_selects (args := #[]) (mvT hZ (own_w hw 81 rfl))) (mvT hZ (own_w hw 81 rfl)) (mvT hZ (own_w hw 80 rfl)) (by decide) (backOf (W := 0) (rm14_21 l Z a0 hw [] s1 s2 v1 v2 k1 k2 b0 b1 d0 cs1 fm h0 n0 (Nat.le_trans Z0 (Keep.refl h0 []).1) O1 G ns E2 F1 F2 F3 F4 V1 V2) hZ (own_w hw 82 rfl) (own_w hw 7 rfl) (by decide) (by decide)) q109a q109c (g := (mkF m 25 #[.val (.ref a1), .val (.ref a2), .val (.ref a2)] [(.ref s2), (.ref s1)])) rfl (by rw [hml]; rfl) (Steps.refl _) (argsL := [(.ref s2)]) (rest := []) (lenOf pd11 rfl) rfl (by show 2 * 0 + _ ≤ _; exact Nat.le_of_eq rfl) (hb hby d13_25) (fun _ _ => ⟨rfl, e108, (by decide : 0 + 0 ≤ _), (by decide : 0 + 0 ≤ _)⟩)
  dsimp only [Pt.U, Pt.locs, Pt.cells, Pt.slots] at X109 l109 y109 z109 st109 hQ109
  subst l109 y109 z109
  obtain ⟨rfl, N109q, q109_hh⟩ := hQ109
  have N109 := Fr.app N0 N109q
  have p110 : Go p.tables e below _ (T109.setTop (mkF m 47 #[.val (.ref a1), .val (.ref a2), .val (.ref a2)] [(.int (0 : Int32))])) := fun t_ k_ => (gcT (gc p107 st108) st109) t_ (by
    refine XS.ifYes X109.here hx rfl (pc0 := 28) (pc' := 46) rfl (hb hby d13_28) rfl ((if0 _ _).trans (teq (by decide : ((0 : Int32) = (0 : Int32)))).1) (by decide) (by decide) ?_
    refine XS.iconst X109.here hx rfl (hb hby d13_46) ?_
    exact k_)
  obtain ⟨fs, hr, hrun, hended, hW, hsame⟩ := X109.leave (v := some (.int (0 : Int32))) (fun h => by rw [Bd.returns] at h; cases h)
  refine ⟨_, _, p110 _ (retN X109 hx (t := .boolean) Bd.returns (by simp) (hb hby d13_47) hr), hrun, hended, _, _, rfl, ?_, ⟨_, rfl⟩, hW, hsame.mono (by decide) (by decide)⟩
  show Q13_21 Z a1 a2 s1 s2 r1 r2 v1 v2 k1 k2 b0 b1 d0 cs1 fm h0 n0 _ T109.heap _
  rw [q109_hh]
  exact ⟨by simp [own_se, ], N109, rfl⟩
theorem ef_rm15_22 (m : MethodId) (a1 : Addr) (a2 : Addr) (k1 : ClassId) (k2 : ClassId) (b0 : Int32) (b1 : Int32) (d0 : Int32) (d1 : Int32) : entryFrame m #[(.ref a1), (.ref a2)] 3 = mkF m 0 #[.val (.ref a1), .val (.ref a2), .unset] [] := by first | (simp [entryFrame, mkF, argsToLocals, Value.category]; done) | rfl
def Q15_22 (Z : State) (a1 : Addr) (a2 : Addr) (k1 : ClassId) (k2 : ClassId) (b0 : Int32) (b1 : Int32) (d0 : Int32) (d1 : Int32) (h0 : Heap) (n0 : Nat) (v : Option Value) (h : Heap) (L : List Loc) : Prop := v = some (.int (if b0 = d0 then (if b1 = d1 then (1 : Int32) else (0 : Int32)) else (0 : Int32))) ∧ Fr n0 L ∧ (h = h0)
set_option maxRecDepth 65536 in
set_option maxHeartbeats 40000000 in
theorem rm15_22 (l : Launch) (Z : State) (a0 : Array Value) (hw : ∀ d ∈ tables_1, d.before a0 Z = true) (ws : List Jvm.Cond) (a1 : Addr) (a2 : Addr) (k1 : ClassId) (k2 : ClassId) (b0 : Int32) (b1 : Int32) (d0 : Int32) (d1 : Int32) (h0 : Heap) (n0 : Nat) (Z0 : n0 ≤ h0.size) (V1 : Arv Z h0 a1 k1 .byte (2 : Int32) [(.int b0), (.int b1)] (.int (0 : Int32))) (V2 : Arv Z h0 a2 k2 .byte (2 : Int32) [(.int d0), (.int d1)] (.int (0 : Int32))) :
    MetFree l (⟨"java/lang/StringLatin1", "equals", "([B[B)Z"⟩ : MethodName) (head1 (Jvm.Cond.code (⟨"java/lang/StringLatin1", "equals", "([B[B)Z"⟩ : MethodName) jdk_43_method_13_code 3 (some .boolean) :: ws) ({ frames := 0, cells := 0, slots := 0, locals := 0 } : Room)) (fun a U => a = #[(.ref a1), (.ref a2)] ∧ Z.Warmed39 U.vm ∧ U.heap = h0) (fun _ _ _ _ _ => True) (fun _ U o U' => ∃ v L, o = .returned v ∧ Q15_22 Z a1 a2 k1 k2 b0 b1 d0 d1 h0 n0 v U'.heap L ∧ FrameEnd U o U' L ({ frames := 0, cells := 0, slots := 0, locals := 0 } : Room).cells ({ frames := 0, cells := 0, slots := 0, locals := 0 } : Room).slots) := by
  refine MetFree.of_bodySF pn15 hisR ?_
  intro p e s m args below meth c s₁ Bd hml0 hP hK
  obtain ⟨rfl, hZ, hh⟩ := hP
  have hx := Bd.exec
  have hby := Bd.bytes
  have hml : c.maxLocals = 3 := hml0
  have hown : s.vm.findClass "java/lang/StringLatin1" = some m.cls := findClass_of_methodNamed Bd.named
  have hnm := (name_of_methodNamed Bd.named Bd.method).1
  have X0 : Stand p l e ({ frames := 0, cells := 0, slots := 0, locals := 0 } : Room) s m #[(.ref a1), (.ref a2)] below meth c s₁ [] 0 0 := Stand.of_body Bd
  have e0 : s₁.heap = h0 := by rw [← hh, Bd.state]; rfl
  have N0 := Fr.nil n0
  have p0 : Go p.tables e below (s₁.setTop (entryFrame m #[(.ref a1), (.ref a2)] 3)) (s₁.setTop (mkF m 0 #[.val (.ref a1), .val (.ref a2), .unset] [])) := fun t_ k_ => castTop (ef_rm15_22 m a1 a2 k1 k2 b0 b1 d0 d1) k_
  have p101 : Go p.tables e below _ (s₁.setTop (mkF m 1 #[.val (.ref a1), .val (.ref a2), .unset] [(.ref a1)])) := fun t_ k_ => p0 t_ (by
    refine XS.aloadN X0.here hx rfl (hb hby d15_0) rfl rfl ?_
    exact k_)
  obtain ⟨cl102, Ar102, -, S102, Ng102, -, -⟩ := id V1
  have p103 : Go p.tables e below _ (s₁.setTop (mkF m 3 #[.val (.ref a1), .val (.ref a2), .unset] [(.ref a2), (.int (2 : Int32))])) := fun t_ k_ => p101 t_ (by
    refine X0.arraylength hx (by rw [e0]; exact Ar102.1) (State.isArrayOf_alike hZ.alike Ar102.2.1) (g := (mkF m 1 #[.val (.ref a1), .val (.ref a2), .unset] [(.ref a1)])) rfl rfl (hb hby d15_1) _ ?_
    rw [len_of S102 Ng102]
    show Steps p.tables e below (s₁.setTop (mkF m 2 #[.val (.ref a1), .val (.ref a2), .unset] [(.int (2 : Int32))])) _
    refine XS.aloadN X0.here hx rfl (hb hby d15_2) rfl rfl ?_
    exact k_)
  obtain ⟨cl104, Ar104, -, S104, Ng104, -, -⟩ := id V2
  have p105 : Go p.tables e below _ (s₁.setTop (mkF m 11 #[.val (.ref a1), .val (.ref a2), .val (.int (0 : Int32))] [(.ref a1), (.int (0 : Int32))])) := fun t_ k_ => p103 t_ (by
    refine X0.arraylength hx (by rw [e0]; exact Ar104.1) (State.isArrayOf_alike hZ.alike Ar104.2.1) (g := (mkF m 3 #[.val (.ref a1), .val (.ref a2), .unset] [(.ref a2), (.int (2 : Int32))])) rfl rfl (hb hby d15_3) _ ?_
    rw [len_of S104 Ng104]
    show Steps p.tables e below (s₁.setTop (mkF m 4 #[.val (.ref a1), .val (.ref a2), .unset] [(.int (2 : Int32)), (.int (2 : Int32))])) _
    refine XS.icmpNo X0.here hx rfl (hb hby d15_4) rfl (teq (by decide : ((2 : Int32) = (2 : Int32)))).2 ?_
    refine XS.iconst X0.here hx rfl (hb hby d15_7) ?_
    refine XS.istoreN X0.here hx rfl (hb hby d15_8) rfl (l' := #[.val (.ref a1), .val (.ref a2), .val (.int (0 : Int32))]) rfl ?_
    refine XS.iloadN X0.here hx rfl (hb hby d15_9) rfl ?_
    refine XS.aloadN X0.here hx rfl (hb hby d15_10) rfl rfl ?_
    exact k_)
  obtain ⟨cl106, Ar106, -, S106, Ng106, -, -⟩ := id V1
  have p107 : Go p.tables e below _ (s₁.setTop (mkF m 17 #[.val (.ref a1), .val (.ref a2), .val (.int (0 : Int32))] [(.int (0 : Int32)), (.ref a1)])) := fun t_ k_ => p105 t_ (by
    refine X0.arraylength hx (by rw [e0]; exact Ar106.1) (State.isArrayOf_alike hZ.alike Ar106.2.1) (g := (mkF m 11 #[.val (.ref a1), .val (.ref a2), .val (.int (0 : Int32))] [(.ref a1), (.int (0 : Int32))])) rfl rfl (hb hby d15_11) _ ?_
    rw [len_of S106 Ng106]
    show Steps p.tables e below (s₁.setTop (mkF m 12 #[.val (.ref a1), .val (.ref a2), .val (.int (0 : Int32))] [(.int (2 : Int32)), (.int (0 : Int32))])) _
    refine XS.icmpNo X0.here hx rfl (hb hby d15_12) rfl (tlt (by decide : ((0 : Int32) < (2 : Int32)))).2.1 ?_
    refine XS.aloadN X0.here hx rfl (hb hby d15_15) rfl rfl ?_
    refine XS.iloadN X0.here hx rfl (hb hby d15_16) rfl ?_
    exact k_)
  obtain ⟨cl108, Ar108, q108, S108, Ng108, H108, G108⟩ := id V1
  have hin108 := inb_of S108 (j := (0 : Int32)) ⟨by decide, by decide⟩
  have hat108 := H108.at (v := (.int b0)) hin108 rfl
  have p109 : Go p.tables e below _ (s₁.setTop (mkF m 20 #[.val (.ref a1), .val (.ref a2), .val (.int (0 : Int32))] [(.int (0 : Int32)), (.ref a2), (.int b0)])) := fun t_ k_ => p107 t_ (by
    refine X0.baloadBytes hx (j := (0 : Int32)) (v := (.int b0)) (by rw [e0]; exact Ar108.1) (State.isArrayOf_alike hZ.alike Ar108.2.1) Ar108.2.2 hin108 hat108 (g := (mkF m 17 #[.val (.ref a1), .val (.ref a2), .val (.int (0 : Int32))] [(.int (0 : Int32)), (.ref a1)])) rfl rfl (hb hby d15_17) _ ?_
    refine XS.aloadN X0.here hx rfl (hb hby d15_18) rfl rfl ?_
    refine XS.iloadN X0.here hx rfl (hb hby d15_19) rfl ?_
    exact k_)
  obtain ⟨cl110, Ar110, q110, S110, Ng110, H110, G110⟩ := id V2
  have hin110 := inb_of S110 (j := (0 : Int32)) ⟨by decide, by decide⟩
  have hat110 := H110.at (v := (.int d0)) hin110 rfl
  have p111 : Go p.tables e below _ (s₁.setTop (mkF m 21 #[.val (.ref a1), .val (.ref a2), .val (.int (0 : Int32))] [(.int d0), (.int b0)])) := fun t_ k_ => p109 t_ (by
    refine X0.baloadBytes hx (j := (0 : Int32)) (v := (.int d0)) (by rw [e0]; exact Ar110.1) (State.isArrayOf_alike hZ.alike Ar110.2.1) Ar110.2.2 hin110 hat110 (g := (mkF m 20 #[.val (.ref a1), .val (.ref a2), .val (.int (0 : Int32))] [(.int (0 : Int32)), (.ref a2), (.int b0)])) rfl rfl (hb hby d15_20) _ ?_
    exact k_)
  by_cases c112 : b0 = d0
  · have p113 : Go p.tables e below _ (s₁.setTop (mkF m 26 #[.val (.ref a1), .val (.ref a2), .val (.int (0 : Int32))] [])) := fun t_ k_ => p111 t_ (by
      refine XS.icmpYes X0.here hx rfl (pc0 := 21) (pc' := 26) rfl (hb hby d15_21) rfl (teq c112).1 (by decide) (by decide) ?_
      exact k_)
    have p114 : Go p.tables e below _ (s₁.setTop (mkF m 11 #[.val (.ref a1), .val (.ref a2), .val (.int (1 : Int32))] [(.ref a1), (.int (1 : Int32))])) := fun t_ k_ => p113 t_ (by
      refine XS.iinc X0.here hx rfl (hb hby d15_26) rfl (l' := #[.val (.ref a1), .val (.ref a2), .val (.int (1 : Int32))]) rfl ?_
      refine XS.goto X0.here hx rfl (pc0 := 29) (pc' := 9) rfl (hb hby d15_29) (by decide) (by decide) ?_
      refine XS.iloadN X0.here hx rfl (hb hby d15_9) rfl ?_
      refine XS.aloadN X0.here hx rfl (hb hby d15_10) rfl rfl ?_
      exact k_)
    obtain ⟨cl115, Ar115, -, S115, Ng115, -, -⟩ := id V1
    have p116 : Go p.tables e below _ (s₁.setTop (mkF m 17 #[.val (.ref a1), .val (.ref a2), .val (.int (1 : Int32))] [(.int (1 : Int32)), (.ref a1)])) := fun t_ k_ => p114 t_ (by
      refine X0.arraylength hx (by rw [e0]; exact Ar115.1) (State.isArrayOf_alike hZ.alike Ar115.2.1) (g := (mkF m 11 #[.val (.ref a1), .val (.ref a2), .val (.int (1 : Int32))] [(.ref a1), (.int (1 : Int32))])) rfl rfl (hb hby d15_11) _ ?_
      rw [len_of S115 Ng115]
      show Steps p.tables e below (s₁.setTop (mkF m 12 #[.val (.ref a1), .val (.ref a2), .val (.int (1 : Int32))] [(.int (2 : Int32)), (.int (1 : Int32))])) _
      refine XS.icmpNo X0.here hx rfl (hb hby d15_12) rfl (tlt (by decide : ((1 : Int32) < (2 : Int32)))).2.1 ?_
      refine XS.aloadN X0.here hx rfl (hb hby d15_15) rfl rfl ?_
      refine XS.iloadN X0.here hx rfl (hb hby d15_16) rfl ?_
      exact k_)
    obtain ⟨cl117, Ar117, q117, S117, Ng117, H117, G117⟩ := id V1
    have hin117 := inb_of S117 (j := (1 : Int32)) ⟨by decide, by decide⟩
    have hat117 := H117.at (v := (.int b1)) hin117 rfl
    have p118 : Go p.tables e below _ (s₁.setTop (mkF m 20 #[.val (.ref a1), .val (.ref a2), .val (.int (1 : Int32))] [(.int (1 : Int32)), (.ref a2), (.int b1)])) := fun t_ k_ => p116 t_ (by
      refine X0.baloadBytes hx (j := (1 : Int32)) (v := (.int b1)) (by rw [e0]; exact Ar117.1) (State.isArrayOf_alike hZ.alike Ar117.2.1) Ar117.2.2 hin117 hat117 (g := (mkF m 17 #[.val (.ref a1), .val (.ref a2), .val (.int (1 : Int32))] [(.int (1 : Int32)), (.ref a1)])) rfl rfl (hb hby d15_17) _ ?_
      refine XS.aloadN X0.here hx rfl (hb hby d15_18) rfl rfl ?_
      refine XS.iloadN X0.here hx rfl (hb hby d15_19) rfl ?_
      exact k_)
    obtain ⟨cl119, Ar119, q119, S119, Ng119, H119, G119⟩ := id V2
    have hin119 := inb_of S119 (j := (1 : Int32)) ⟨by decide, by decide⟩
    have hat119 := H119.at (v := (.int d1)) hin119 rfl
    have p120 : Go p.tables e below _ (s₁.setTop (mkF m 21 #[.val (.ref a1), .val (.ref a2), .val (.int (1 : Int32))] [(.int d1), (.int b1)])) := fun t_ k_ => p118 t_ (by
      refine X0.baloadBytes hx (j := (1 : Int32)) (v := (.int d1)) (by rw [e0]; exact Ar119.1) (State.isArrayOf_alike hZ.alike Ar119.2.1) Ar119.2.2 hin119 hat119 (g := (mkF m 20 #[.val (.ref a1), .val (.ref a2), .val (.int (1 : Int32))] [(.int (1 : Int32)), (.ref a2), (.int b1)])) rfl rfl (hb hby d15_20) _ ?_
      exact k_)
    by_cases c121 : b1 = d1
    · have p122 : Go p.tables e below _ (s₁.setTop (mkF m 26 #[.val (.ref a1), .val (.ref a2), .val (.int (1 : Int32))] [])) := fun t_ k_ => p120 t_ (by
        refine XS.icmpYes X0.here hx rfl (pc0 := 21) (pc' := 26) rfl (hb hby d15_21) rfl (teq c121).1 (by decide) (by decide) ?_
        exact k_)
      have p123 : Go p.tables e below _ (s₁.setTop (mkF m 11 #[.val (.ref a1), .val (.ref a2), .val (.int (2 : Int32))] [(.ref a1), (.int (2 : Int32))])) := fun t_ k_ => p122 t_ (by
        refine XS.iinc X0.here hx rfl (hb hby d15_26) rfl (l' := #[.val (.ref a1), .val (.ref a2), .val (.int (2 : Int32))]) rfl ?_
        refine XS.goto X0.here hx rfl (pc0 := 29) (pc' := 9) rfl (hb hby d15_29) (by decide) (by decide) ?_
        refine XS.iloadN X0.here hx rfl (hb hby d15_9) rfl ?_
        refine XS.aloadN X0.here hx rfl (hb hby d15_10) rfl rfl ?_
        exact k_)
      obtain ⟨cl124, Ar124, -, S124, Ng124, -, -⟩ := id V1
      have p125 : Go p.tables e below _ (s₁.setTop (mkF m 33 #[.val (.ref a1), .val (.ref a2), .val (.int (2 : Int32))] [(.int (1 : Int32))])) := fun t_ k_ => p123 t_ (by
        refine X0.arraylength hx (by rw [e0]; exact Ar124.1) (State.isArrayOf_alike hZ.alike Ar124.2.1) (g := (mkF m 11 #[.val (.ref a1), .val (.ref a2), .val (.int (2 : Int32))] [(.ref a1), (.int (2 : Int32))])) rfl rfl (hb hby d15_11) _ ?_
        rw [len_of S124 Ng124]
        show Steps p.tables e below (s₁.setTop (mkF m 12 #[.val (.ref a1), .val (.ref a2), .val (.int (2 : Int32))] [(.int (2 : Int32)), (.int (2 : Int32))])) _
        refine XS.icmpYes X0.here hx rfl (pc0 := 12) (pc' := 32) rfl (hb hby d15_12) rfl (flt (by decide : ¬ ((2 : Int32) < (2 : Int32)))).2.1 (by decide) (by decide) ?_
        refine XS.iconst X0.here hx rfl (hb hby d15_32) ?_
        exact k_)
      obtain ⟨fs, hr, hrun, hended, hW, hsame⟩ := X0.leave (v := some (.int (1 : Int32))) (fun h => by rw [Bd.returns] at h; cases h)
      refine ⟨_, _, p125 _ (retN X0 hx (t := .boolean) Bd.returns (by simp) (hb hby d15_33) hr), hrun, hended, _, _, rfl, ?_, ⟨_, rfl⟩, hW, hsame.mono (by decide) (by decide)⟩
      show Q15_22 Z a1 a2 k1 k2 b0 b1 d0 d1 h0 n0 _ s₁.heap _
      rw [e0]
      exact ⟨by simp [c112, c121], N0, rfl⟩
    · have p126 : Go p.tables e below _ (s₁.setTop (mkF m 24 #[.val (.ref a1), .val (.ref a2), .val (.int (1 : Int32))] [])) := fun t_ k_ => p120 t_ (by
        refine XS.icmpNo X0.here hx rfl (hb hby d15_21) rfl (feq c121).1 ?_
        exact k_)
      have p127 : Go p.tables e below _ (s₁.setTop (mkF m 25 #[.val (.ref a1), .val (.ref a2), .val (.int (1 : Int32))] [(.int (0 : Int32))])) := fun t_ k_ => p126 t_ (by
        refine XS.iconst X0.here hx rfl (hb hby d15_24) ?_
        exact k_)
      obtain ⟨fs, hr, hrun, hended, hW, hsame⟩ := X0.leave (v := some (.int (0 : Int32))) (fun h => by rw [Bd.returns] at h; cases h)
      refine ⟨_, _, p127 _ (retN X0 hx (t := .boolean) Bd.returns (by simp) (hb hby d15_25) hr), hrun, hended, _, _, rfl, ?_, ⟨_, rfl⟩, hW, hsame.mono (by decide) (by decide)⟩
      show Q15_22 Z a1 a2 k1 k2 b0 b1 d0 d1 h0 n0 _ s₁.heap _
      rw [e0]
      exact ⟨by simp [c112, c121], N0, rfl⟩
  · have p128 : Go p.tables e below _ (s₁.setTop (mkF m 24 #[.val (.ref a1), .val (.ref a2), .val (.int (0 : Int32))] [])) := fun t_ k_ => p111 t_ (by
      refine XS.icmpNo X0.here hx rfl (hb hby d15_21) rfl (feq c112).1 ?_
      exact k_)
    have p129 : Go p.tables e below _ (s₁.setTop (mkF m 25 #[.val (.ref a1), .val (.ref a2), .val (.int (0 : Int32))] [(.int (0 : Int32))])) := fun t_ k_ => p128 t_ (by
      refine XS.iconst X0.here hx rfl (hb hby d15_24) ?_
      exact k_)
    obtain ⟨fs, hr, hrun, hended, hW, hsame⟩ := X0.leave (v := some (.int (0 : Int32))) (fun h => by rw [Bd.returns] at h; cases h)
    refine ⟨_, _, p129 _ (retN X0 hx (t := .boolean) Bd.returns (by simp) (hb hby d15_25) hr), hrun, hended, _, _, rfl, ?_, ⟨_, rfl⟩, hW, hsame.mono (by decide) (by decide)⟩
    show Q15_22 Z a1 a2 k1 k2 b0 b1 d0 d1 h0 n0 _ s₁.heap _
    rw [e0]
    exact ⟨by simp [c112], N0, rfl⟩
theorem ef_rm14_22 (m : MethodId) (a1 : Addr) (a2 : Addr) (v1 : Addr) (v2 : Addr) (k1 : ClassId) (k2 : ClassId) (b0 : Int32) (b1 : Int32) (d0 : Int32) (d1 : Int32) (cs1 : Int32) (fm : Value) : entryFrame m #[(.ref a1), (.ref a2)] 3 = mkF m 0 #[.val (.ref a1), .val (.ref a2), .unset] [] := by first | (simp [entryFrame, mkF, argsToLocals, Value.category]; done) | rfl
def Q14_22 (Z : State) (a1 : Addr) (a2 : Addr) (v1 : Addr) (v2 : Addr) (k1 : ClassId) (k2 : ClassId) (b0 : Int32) (b1 : Int32) (d0 : Int32) (d1 : Int32) (cs1 : Int32) (fm : Value) (h0 : Heap) (n0 : Nat) (v : Option Value) (h : Heap) (L : List Loc) : Prop := v = some (.int (if b0 = d0 then (if b1 = d1 then (1 : Int32) else (0 : Int32)) else (0 : Int32))) ∧ Fr n0 L ∧ (h = h0)
set_option maxRecDepth 65536 in
set_option maxHeartbeats 40000000 in
theorem rm14_22 (l : Launch) (Z : State) (a0 : Array Value) (hw : ∀ d ∈ tables_1, d.before a0 Z = true) (ws : List Jvm.Cond) (a1 : Addr) (a2 : Addr) (v1 : Addr) (v2 : Addr) (k1 : ClassId) (k2 : ClassId) (b0 : Int32) (b1 : Int32) (d0 : Int32) (d1 : Int32) (cs1 : Int32) (fm : Value) (h0 : Heap) (n0 : Nat) (Z0 : n0 ≤ h0.size) (O1 : Old Z n0 h0) (G : own_G Z cs1 fm) (ne : a1 ≠ a2) (E2 : Exa Z h0 a2 "java/lang/String") (F1 : Fld Z h0 a1 "java/lang/String" "coder" "B" (.int (0 : Int32))) (F2 : Fld Z h0 a2 "java/lang/String" "coder" "B" (.int (0 : Int32))) (F3 : Fld Z h0 a1 "java/lang/String" "value" "[B" (.ref v1)) (F4 : Fld Z h0 a2 "java/lang/String" "value" "[B" (.ref v2)) (V1 : Arv Z h0 v1 k1 .byte (2 : Int32) [(.int b0), (.int b1)] (.int (0 : Int32))) (V2 : Arv Z h0 v2 k2 .byte (2 : Int32) [(.int d0), (.int d1)] (.int (0 : Int32))) :
    MetFree l (⟨"java/lang/String", "equals", "(Ljava/lang/Object;)Z"⟩ : MethodName) (head1 (Jvm.Cond.code (⟨"java/lang/String", "equals", "(Ljava/lang/Object;)Z"⟩ : MethodName) jdk_42_method_66_code 3 (some .boolean) :: ws) ({ frames := 1, cells := 0, slots := 0, locals := 14 } : Room)) (fun a U => a = #[(.ref a1), (.ref a2)] ∧ Z.Warmed39 U.vm ∧ U.heap = h0) (fun _ _ _ _ _ => True) (fun _ U o U' => ∃ v L, o = .returned v ∧ Q14_22 Z a1 a2 v1 v2 k1 k2 b0 b1 d0 d1 cs1 fm h0 n0 v U'.heap L ∧ FrameEnd U o U' L ({ frames := 1, cells := 0, slots := 0, locals := 14 } : Room).cells ({ frames := 1, cells := 0, slots := 0, locals := 14 } : Room).slots) := by
  refine MetFree.of_bodySF pn14 hisR ?_
  intro p e s m args below meth c s₁ Bd hml0 hP hK
  obtain ⟨rfl, hZ, hh⟩ := hP
  have hx := Bd.exec
  have hby := Bd.bytes
  have hml : c.maxLocals = 3 := hml0
  have hown : s.vm.findClass "java/lang/String" = some m.cls := findClass_of_methodNamed Bd.named
  have hnm := (name_of_methodNamed Bd.named Bd.method).1
  have X0 : Stand p l e ({ frames := 1, cells := 0, slots := 0, locals := 14 } : Room) s m #[(.ref a1), (.ref a2)] below meth c s₁ [] 0 0 := Stand.of_body Bd
  have e0 : s₁.heap = h0 := by rw [← hh, Bd.state]; rfl
  have N0 := Fr.nil n0
  have p0 : Go p.tables e below (s₁.setTop (entryFrame m #[(.ref a1), (.ref a2)] 3)) (s₁.setTop (mkF m 0 #[.val (.ref a1), .val (.ref a2), .unset] [])) := fun t_ k_ => castTop (ef_rm14_22 m a1 a2 v1 v2 k1 k2 b0 b1 d0 d1 cs1 fm) k_
  have p101 : Go p.tables e below _ (s₁.setTop (mkF m 8 #[.val (.ref a1), .val (.ref a2), .unset] [(.ref a2)])) := fun t_ k_ => p0 t_ (by
    refine XS.aloadN X0.here hx rfl (hb hby d14_0) rfl rfl ?_
    refine XS.aloadN X0.here hx rfl (hb hby d14_1) rfl rfl ?_
    refine Jvm.RoadKit.acmp (g := (mkF m 2 #[.val (.ref a1), .val (.ref a2), .unset] [(.ref a2), (.ref a1)])) X0 hx rfl rfl rfl (pc0 := 2) (pc' := 7) (same := false) rfl (hb hby d14_2) rfl (decide_eq_false fun q => ne (Value.ref.inj q)) (by decide) (by decide) ?_
    refine XS.aloadN X0.here hx rfl (hb hby d14_7) rfl rfl ?_
    exact k_)
  obtain ⟨T102, X102, e102, st102⟩ := instY X0 hx hZ hown (own_w hw 83 rfl) e0 (Ins.self E2) (g := (mkF m 8 #[.val (.ref a1), .val (.ref a2), .unset] [(.ref a2)])) rfl rfl (hb hby d14_8)
  have p103 : Go p.tables e below _ (T102.setTop (mkF m 15 #[.val (.ref a1), .val (.ref a2), .unset] [(.ref a2)])) := fun t_ k_ => (gc p101 st102) t_ (by
    refine XS.ifNo X102.here hx rfl (hb hby d14_11) rfl ((if0 _ _).trans (feq (by decide : ¬ ((1 : Int32) = (0 : Int32)))).1) ?_
    refine XS.aloadN X102.here hx rfl (hb hby d14_14) rfl rfl ?_
    exact k_)
  obtain ⟨T104, X104, e104, st104⟩ := castY X102 hx hZ hown (own_w hw 83 rfl) e102 (Ins.self E2) (g := (mkF m 15 #[.val (.ref a1), .val (.ref a2), .unset] [(.ref a2)])) rfl rfl (hb hby d14_15)
  have p105 : Go p.tables e below _ (T104.setTop (mkF m 19 #[.val (.ref a1), .val (.ref a2), .val (.ref a2)] [])) := fun t_ k_ => (gc p103 st104) t_ (by
    refine XS.astoreN X104.here hx rfl (hb hby d14_18) rfl rfl (l' := #[.val (.ref a1), .val (.ref a2), .val (.ref a2)]) rfl ?_
    exact k_)
  obtain ⟨T106, X106, e106, st106⟩ := getS2 X104 hx hZ hown (host := "") (Or.inl (own_w hw 19 rfl)) Via.refl e104 (G.1.ext O1.2) (g := (mkF m 19 #[.val (.ref a1), .val (.ref a2), .val (.ref a2)] [])) rfl (hb hby d14_19)
  have c107 : ¬ (cs1 = (0 : Int32)) := G.2.1
  have p108 : Go p.tables e below _ (T106.setTop (mkF m 26 #[.val (.ref a1), .val (.ref a2), .val (.ref a2)] [(.ref a1)])) := fun t_ k_ => (gc p105 st106) t_ (by
    refine XS.ifNo X106.here hx rfl (hb hby d14_22) rfl ((if0 _ _).trans (feq c107).1) ?_
    refine XS.aloadN X106.here hx rfl (hb hby d14_25) rfl rfl ?_
    exact k_)
  obtain ⟨T109, X109, e109, st109⟩ := getF X106 hx hZ hown (host := "") (Or.inl (own_w hw 31 rfl)) Via.refl e106 F1 (g := (mkF m 26 #[.val (.ref a1), .val (.ref a2), .val (.ref a2)] [(.ref a1)])) rfl rfl (hb hby d14_26)
  have p110 : Go p.tables e below _ (T109.setTop (mkF m 30 #[.val (.ref a1), .val (.ref a2), .val (.ref a2)] [(.ref a2), (.int (0 : Int32))])) := fun t_ k_ => (gc p108 st109) t_ (by
    refine XS.aloadN X109.here hx rfl (hb hby d14_29) rfl rfl ?_
    exact k_)
  obtain ⟨T111, X111, e111, st111⟩ := getF X109 hx hZ hown (host := "") (Or.inl (own_w hw 31 rfl)) Via.refl e109 F2 (g := (mkF m 30 #[.val (.ref a1), .val (.ref a2), .val (.ref a2)] [(.ref a2), (.int (0 : Int32))])) rfl rfl (hb hby d14_30)
  have p112 : Go p.tables e below _ (T111.setTop (mkF m 37 #[.val (.ref a1), .val (.ref a2), .val (.ref a2)] [(.ref a1)])) := fun t_ k_ => (gc p110 st111) t_ (by
    refine XS.icmpNo X111.here hx rfl (hb hby d14_33) rfl (teq (by decide : ((0 : Int32) = (0 : Int32)))).2 ?_
    refine XS.aloadN X111.here hx rfl (hb hby d14_36) rfl rfl ?_
    exact k_)
  obtain ⟨T113, X113, e113, st113⟩ := getF X111 hx hZ hown (host := "") (Or.inl (own_w hw 33 rfl)) Via.refl e111 F3 (g := (mkF m 37 #[.val (.ref a1), .val (.ref a2), .val (.ref a2)] [(.ref a1)])) rfl rfl (hb hby d14_37)
  have p114 : Go p.tables e below _ (T113.setTop (mkF m 41 #[.val (.ref a1), .val (.ref a2), .val (.ref a2)] [(.ref a2), (.ref v1)])) := fun t_ k_ => (gc p112 st113) t_ (by
    refine XS.aloadN X113.here hx rfl (hb hby d14_40) rfl rfl ?_
    exact k_)
  obtain ⟨T115, X115, e115, st115⟩ := getF X113 hx hZ hown (host := "") (Or.inl (own_w hw 33 rfl)) Via.refl e113 F4 (g := (mkF m 41 #[.val (.ref a1), .val (.ref a2), .val (.ref a2)] [(.ref a2), (.ref v1)])) rfl rfl (hb hby d14_41)
  obtain ⟨_, _, ⟨T116, L116, k116, n116⟩, -, X116, ⟨Lc116, hQ116, l116, y116, z116⟩, st116⟩ := Jvm.LawKit.callS X115 hx (y := (⟨"java/lang/StringLatin1", "equals", "([B[B)Z"⟩ : MethodName)) hown (mvT hZ (own_w hw 84 rfl)) (mvT hZ (own_w hw 85 rfl)) (mvT hZ (own_w hw 67 rfl)) (mvT hZ (own_w hw 86 rfl)) (by decide) (backOf (W := 0) (rm15_22 l Z a0 hw [] v1 v2 k1 k2 b0 b1 d0 d1 h0 n0 (Nat.le_trans Z0 (Keep.refl h0 []).1) V1 V2) hZ (own_w hw 86 rfl) (own_w hw 67 rfl) (by decide) (by decide)) (g := (mkF m 44 #[.val (.ref a1), .val (.ref a2), .val (.ref a2)] [(.ref v2), (.ref v1)])) rfl (by rw [hml]; rfl) (argsL := [(.ref v1), (.ref v2)]) (rest := []) (lenOf pd10 rfl) rfl (by show 2 * 0 + _ ≤ _; exact Nat.le_of_eq rfl) (hb hby d14_44) (fun _ _ => ⟨rfl, e115, (by decide : 0 + 0 ≤ _), (by decide : 0 + 0 ≤ _)⟩)
  dsimp only [Pt.U, Pt.locs, Pt.cells, Pt.slots] at X116 l116 y116 z116 st116 hQ116
  subst l116 y116 z116
  obtain ⟨rfl, N116q, q116_hh⟩ := hQ116
  have N116 := Fr.app N0 N116q
  by_cases c117 : (if b0 = d0 then (if b1 = d1 then (1 : Int32) else (0 : Int32)) else (0 : Int32)) = (0 : Int32)
  · have p118 : Go p.tables e below _ (T116.setTop (mkF m 54 #[.val (.ref a1), .val (.ref a2), .val (.ref a2)] [])) := fun t_ k_ => (gc (gc p114 st115) st116) t_ (by
      refine XS.ifYes X116.here hx rfl (pc0 := 47) (pc' := 54) rfl (hb hby d14_47) rfl ((if0 _ _).trans (teq c117).1) (by decide) (by decide) ?_
      exact k_)
    have p119 : Go p.tables e below _ (T116.setTop (mkF m 55 #[.val (.ref a1), .val (.ref a2), .val (.ref a2)] [(.int (0 : Int32))])) := fun t_ k_ => p118 t_ (by
      refine XS.iconst X116.here hx rfl (hb hby d14_54) ?_
      exact k_)
    obtain ⟨fs, hr, hrun, hended, hW, hsame⟩ := X116.leave (v := some (.int (0 : Int32))) (fun h => by rw [Bd.returns] at h; cases h)
    refine ⟨_, _, p119 _ (retN X116 hx (t := .boolean) Bd.returns (by simp) (hb hby d14_55) hr), hrun, hended, _, _, rfl, ?_, ⟨_, rfl⟩, hW, hsame.mono (by decide) (by decide)⟩
    show Q14_22 Z a1 a2 v1 v2 k1 k2 b0 b1 d0 d1 cs1 fm h0 n0 _ T116.heap _
    rw [q116_hh]
    exact ⟨by revert c117; (repeat' split) <;> simp, N116, rfl⟩
  · have p120 : Go p.tables e below _ (T116.setTop (mkF m 50 #[.val (.ref a1), .val (.ref a2), .val (.ref a2)] [])) := fun t_ k_ => (gc (gc p114 st115) st116) t_ (by
      refine XS.ifNo X116.here hx rfl (hb hby d14_47) rfl ((if0 _ _).trans (feq c117).1) ?_
      exact k_)
    have p121 : Go p.tables e below _ (T116.setTop (mkF m 55 #[.val (.ref a1), .val (.ref a2), .val (.ref a2)] [(.int (1 : Int32))])) := fun t_ k_ => p120 t_ (by
      refine XS.iconst X116.here hx rfl (hb hby d14_50) ?_
      refine XS.goto X116.here hx rfl (pc0 := 51) (pc' := 55) rfl (hb hby d14_51) (by decide) (by decide) ?_
      exact k_)
    obtain ⟨fs, hr, hrun, hended, hW, hsame⟩ := X116.leave (v := some (.int (1 : Int32))) (fun h => by rw [Bd.returns] at h; cases h)
    refine ⟨_, _, p121 _ (retN X116 hx (t := .boolean) Bd.returns (by simp) (hb hby d14_55) hr), hrun, hended, _, _, rfl, ?_, ⟨_, rfl⟩, hW, hsame.mono (by decide) (by decide)⟩
    show Q14_22 Z a1 a2 v1 v2 k1 k2 b0 b1 d0 d1 cs1 fm h0 n0 _ T116.heap _
    rw [q116_hh]
    exact ⟨by revert c117; (repeat' split) <;> simp, N116, rfl⟩
theorem ef_rm13_22 (m : MethodId) (a1 : Addr) (a2 : Addr) (s1 : Addr) (s2 : Addr) (r1 : Int32) (r2 : Int32) (v1 : Addr) (v2 : Addr) (k1 : ClassId) (k2 : ClassId) (b0 : Int32) (b1 : Int32) (d0 : Int32) (d1 : Int32) (cs1 : Int32) (fm : Value) : entryFrame m #[(.ref a1), (.ref a2)] 3 = mkF m 0 #[.val (.ref a1), .val (.ref a2), .unset] [] := by first | (simp [entryFrame, mkF, argsToLocals, Value.category]; done) | rfl
def Q13_22 (Z : State) (a1 : Addr) (a2 : Addr) (s1 : Addr) (s2 : Addr) (r1 : Int32) (r2 : Int32) (v1 : Addr) (v2 : Addr) (k1 : ClassId) (k2 : ClassId) (b0 : Int32) (b1 : Int32) (d0 : Int32) (d1 : Int32) (cs1 : Int32) (fm : Value) (h0 : Heap) (n0 : Nat) (v : Option Value) (h : Heap) (L : List Loc) : Prop := v = some (.int (own_se (if b0 = d0 then (if b1 = d1 then (1 : Int32) else (0 : Int32)) else (0 : Int32)) r1 r2)) ∧ Fr n0 L ∧ (h = h0)
set_option maxRecDepth 65536 in
set_option maxHeartbeats 40000000 in
theorem rm13_22 (l : Launch) (Z : State) (a0 : Array Value) (hw : ∀ d ∈ tables_1, d.before a0 Z = true) (ws : List Jvm.Cond) (a1 : Addr) (a2 : Addr) (s1 : Addr) (s2 : Addr) (r1 : Int32) (r2 : Int32) (v1 : Addr) (v2 : Addr) (k1 : ClassId) (k2 : ClassId) (b0 : Int32) (b1 : Int32) (d0 : Int32) (d1 : Int32) (cs1 : Int32) (fm : Value) (h0 : Heap) (n0 : Nat) (Z0 : n0 ≤ h0.size) (O1 : Old Z n0 h0) (G : own_G Z cs1 fm) (E1 : Exa Z h0 a2 "com/example/kuusi/kuusi/core/Symbol") (ne : a1 ≠ a2) (N1 : Fld Z h0 a1 "com/example/kuusi/kuusi/core/Symbol" "name" "Ljava/lang/String;" (.ref s1)) (N2 : Fld Z h0 a2 "com/example/kuusi/kuusi/core/Symbol" "name" "Ljava/lang/String;" (.ref s2)) (R1 : Fld Z h0 a1 "com/example/kuusi/kuusi/core/Symbol" "rank" "I" (.int r1)) (R2 : Fld Z h0 a2 "com/example/kuusi/kuusi/core/Symbol" "rank" "I" (.int r2)) (ns : s1 ≠ s2) (E3 : Exa Z h0 s1 "java/lang/String") (E2 : Exa Z h0 s2 "java/lang/String") (F1 : Fld Z h0 s1 "java/lang/String" "coder" "B" (.int (0 : Int32))) (F2 : Fld Z h0 s2 "java/lang/String" "coder" "B" (.int (0 : Int32))) (F3 : Fld Z h0 s1 "java/lang/String" "value" "[B" (.ref v1)) (F4 : Fld Z h0 s2 "java/lang/String" "value" "[B" (.ref v2)) (V1 : Arv Z h0 v1 k1 .byte (2 : Int32) [(.int b0), (.int b1)] (.int (0 : Int32))) (V2 : Arv Z h0 v2 k2 .byte (2 : Int32) [(.int d0), (.int d1)] (.int (0 : Int32))) :
    MetFree l (⟨"com/example/kuusi/kuusi/core/Symbol", "equals", "(Ljava/lang/Object;)Z"⟩ : MethodName) (head1 (Jvm.Cond.code (⟨"com/example/kuusi/kuusi/core/Symbol", "equals", "(Ljava/lang/Object;)Z"⟩ : MethodName) prog_78_method_5_code 3 (some .boolean) :: ws) ({ frames := 2, cells := 0, slots := 0, locals := 28 } : Room)) (fun a U => a = #[(.ref a1), (.ref a2)] ∧ Z.Warmed39 U.vm ∧ U.heap = h0) (fun _ _ _ _ _ => True) (fun _ U o U' => ∃ v L, o = .returned v ∧ Q13_22 Z a1 a2 s1 s2 r1 r2 v1 v2 k1 k2 b0 b1 d0 d1 cs1 fm h0 n0 v U'.heap L ∧ FrameEnd U o U' L ({ frames := 2, cells := 0, slots := 0, locals := 28 } : Room).cells ({ frames := 2, cells := 0, slots := 0, locals := 28 } : Room).slots) := by
  refine MetFree.of_bodySF pn13 hisR ?_
  intro p e s m args below meth c s₁ Bd hml0 hP hK
  obtain ⟨rfl, hZ, hh⟩ := hP
  have hx := Bd.exec
  have hby := Bd.bytes
  have hml : c.maxLocals = 3 := hml0
  have hown : s.vm.findClass "com/example/kuusi/kuusi/core/Symbol" = some m.cls := findClass_of_methodNamed Bd.named
  have hnm := (name_of_methodNamed Bd.named Bd.method).1
  have X0 : Stand p l e ({ frames := 2, cells := 0, slots := 0, locals := 28 } : Room) s m #[(.ref a1), (.ref a2)] below meth c s₁ [] 0 0 := Stand.of_body Bd
  have e0 : s₁.heap = h0 := by rw [← hh, Bd.state]; rfl
  have N0 := Fr.nil n0
  have p0 : Go p.tables e below (s₁.setTop (entryFrame m #[(.ref a1), (.ref a2)] 3)) (s₁.setTop (mkF m 0 #[.val (.ref a1), .val (.ref a2), .unset] [])) := fun t_ k_ => castTop (ef_rm13_22 m a1 a2 s1 s2 r1 r2 v1 v2 k1 k2 b0 b1 d0 d1 cs1 fm) k_
  have p101 : Go p.tables e below _ (s₁.setTop (mkF m 6 #[.val (.ref a1), .val (.ref a2), .unset] [(.ref a2)])) := fun t_ k_ => p0 t_ (by
    refine XS.aloadN X0.here hx rfl (hb hby d13_0) rfl rfl ?_
    refine XS.aloadN X0.here hx rfl (hb hby d13_1) rfl rfl ?_
    refine Jvm.RoadKit.acmp (g := (mkF m 2 #[.val (.ref a1), .val (.ref a2), .unset] [(.ref a1), (.ref a2)])) X0 hx rfl rfl rfl (pc0 := 2) (pc' := 5) (same := false) rfl (hb hby d13_2) rfl (decide_eq_false fun q => (Ne.symm ne) (Value.ref.inj q)) (by decide) (by decide) ?_
    refine XS.aloadN X0.here hx rfl (hb hby d13_5) rfl rfl ?_
    exact k_)
  obtain ⟨T102, X102, e102, st102⟩ := instY X0 hx hZ hown (own_w hw 76 rfl) e0 (Ins.self E1) (g := (mkF m 6 #[.val (.ref a1), .val (.ref a2), .unset] [(.ref a2)])) rfl rfl (hb hby d13_6)
  have p103 : Go p.tables e below _ (T102.setTop (mkF m 13 #[.val (.ref a1), .val (.ref a2), .unset] [(.ref a2)])) := fun t_ k_ => (gc p101 st102) t_ (by
    refine XS.ifNo X102.here hx rfl (hb hby d13_9) rfl ((if0 _ _).trans (feq (by decide : ¬ ((1 : Int32) = (0 : Int32)))).1) ?_
    refine XS.aloadN X102.here hx rfl (hb hby d13_12) rfl rfl ?_
    exact k_)
  obtain ⟨T104, X104, e104, st104⟩ := castY X102 hx hZ hown (own_w hw 76 rfl) e102 (Ins.self E1) (g := (mkF m 13 #[.val (.ref a1), .val (.ref a2), .unset] [(.ref a2)])) rfl rfl (hb hby d13_13)
  have p105 : Go p.tables e below _ (T104.setTop (mkF m 18 #[.val (.ref a1), .val (.ref a2), .val (.ref a2)] [(.ref a1)])) := fun t_ k_ => (gc p103 st104) t_ (by
    refine XS.astoreN X104.here hx rfl (hb hby d13_16) rfl rfl (l' := #[.val (.ref a1), .val (.ref a2), .val (.ref a2)]) rfl ?_
    refine XS.aloadN X104.here hx rfl (hb hby d13_17) rfl rfl ?_
    exact k_)
  obtain ⟨T106, X106, e106, st106⟩ := getF X104 hx hZ hown (host := "") (Or.inl (own_w hw 47 rfl)) Via.refl e104 N1 (g := (mkF m 18 #[.val (.ref a1), .val (.ref a2), .val (.ref a2)] [(.ref a1)])) rfl rfl (hb hby d13_18)
  have p107 : Go p.tables e below _ (T106.setTop (mkF m 22 #[.val (.ref a1), .val (.ref a2), .val (.ref a2)] [(.ref a2), (.ref s1)])) := fun t_ k_ => (gc p105 st106) t_ (by
    refine XS.aloadN X106.here hx rfl (hb hby d13_21) rfl rfl ?_
    exact k_)
  obtain ⟨T108, X108, e108, st108⟩ := getF X106 hx hZ hown (host := "") (Or.inl (own_w hw 47 rfl)) Via.refl e106 N2 (g := (mkF m 22 #[.val (.ref a1), .val (.ref a2), .val (.ref a2)] [(.ref a2), (.ref s1)])) rfl rfl (hb hby d13_22)
  obtain ⟨cq109, kq109, q109a, q109b, q109c⟩ := isOf hZ e108 E3
  obtain ⟨_, _, ⟨T109, L109, k109, n109⟩, -, X109, ⟨Lc109, hQ109, l109, y109, z109⟩, st109⟩ := X108.virtualBack hx (y := (⟨"java/lang/String", "equals", "(Ljava/lang/Object;)Z"⟩ : MethodName)) (z := (⟨"java/lang/String", "equals", "(Ljava/lang/Object;)Z"⟩ : MethodName)) hown (mvT hZ (own_w hw 78 rfl)) (mvT hZ (own_w hw 79 rfl)) (notFace_of_selects (args := #[]) (mvT hZ (own_w hw 81 rfl))) (mvT hZ (own_w hw 81 rfl)) (mvT hZ (own_w hw 80 rfl)) (by decide) (backOf (W := 0) (rm14_22 l Z a0 hw [] s1 s2 v1 v2 k1 k2 b0 b1 d0 d1 cs1 fm h0 n0 (Nat.le_trans Z0 (Keep.refl h0 []).1) O1 G ns E2 F1 F2 F3 F4 V1 V2) hZ (own_w hw 82 rfl) (own_w hw 7 rfl) (by decide) (by decide)) q109a q109c (g := (mkF m 25 #[.val (.ref a1), .val (.ref a2), .val (.ref a2)] [(.ref s2), (.ref s1)])) rfl (by rw [hml]; rfl) (Steps.refl _) (argsL := [(.ref s2)]) (rest := []) (lenOf pd11 rfl) rfl (by show 2 * 0 + _ ≤ _; exact Nat.le_of_eq rfl) (hb hby d13_25) (fun _ _ => ⟨rfl, e108, (by decide : 0 + 0 ≤ _), (by decide : 0 + 0 ≤ _)⟩)
  dsimp only [Pt.U, Pt.locs, Pt.cells, Pt.slots] at X109 l109 y109 z109 st109 hQ109
  subst l109 y109 z109
  obtain ⟨rfl, N109q, q109_hh⟩ := hQ109
  have N109 := Fr.app N0 N109q
  by_cases c110 : (if b0 = d0 then (if b1 = d1 then (1 : Int32) else (0 : Int32)) else (0 : Int32)) = (0 : Int32)
  · have p111 : Go p.tables e below _ (T109.setTop (mkF m 46 #[.val (.ref a1), .val (.ref a2), .val (.ref a2)] [])) := fun t_ k_ => (gcT (gc p107 st108) st109) t_ (by
      refine XS.ifYes X109.here hx rfl (pc0 := 28) (pc' := 46) rfl (hb hby d13_28) rfl ((if0 _ _).trans (teq c110).1) (by decide) (by decide) ?_
      exact k_)
    have p112 : Go p.tables e below _ (T109.setTop (mkF m 47 #[.val (.ref a1), .val (.ref a2), .val (.ref a2)] [(.int (0 : Int32))])) := fun t_ k_ => p111 t_ (by
      refine XS.iconst X109.here hx rfl (hb hby d13_46) ?_
      exact k_)
    obtain ⟨fs, hr, hrun, hended, hW, hsame⟩ := X109.leave (v := some (.int (0 : Int32))) (fun h => by rw [Bd.returns] at h; cases h)
    refine ⟨_, _, p112 _ (retN X109 hx (t := .boolean) Bd.returns (by simp) (hb hby d13_47) hr), hrun, hended, _, _, rfl, ?_, ⟨_, rfl⟩, hW, hsame.mono (by decide) (by decide)⟩
    show Q13_22 Z a1 a2 s1 s2 r1 r2 v1 v2 k1 k2 b0 b1 d0 d1 cs1 fm h0 n0 _ T109.heap _
    rw [q109_hh]
    exact ⟨by simp [own_se, c110], N109, rfl⟩
  · have p113 : Go p.tables e below _ (T109.setTop (mkF m 31 #[.val (.ref a1), .val (.ref a2), .val (.ref a2)] [])) := fun t_ k_ => (gcT (gc p107 st108) st109) t_ (by
      refine XS.ifNo X109.here hx rfl (hb hby d13_28) rfl ((if0 _ _).trans (feq c110).1) ?_
      exact k_)
    have p114 : Go p.tables e below _ (T109.setTop (mkF m 32 #[.val (.ref a1), .val (.ref a2), .val (.ref a2)] [(.ref a1)])) := fun t_ k_ => p113 t_ (by
      refine XS.aloadN X109.here hx rfl (hb hby d13_31) rfl rfl ?_
      exact k_)
    obtain ⟨T115, X115, e115, st115⟩ := getF X109 hx hZ hown (host := "") (Or.inl (own_w hw 49 rfl)) Via.refl q109_hh R1 (g := (mkF m 32 #[.val (.ref a1), .val (.ref a2), .val (.ref a2)] [(.ref a1)])) rfl rfl (hb hby d13_32)
    have p116 : Go p.tables e below _ (T115.setTop (mkF m 36 #[.val (.ref a1), .val (.ref a2), .val (.ref a2)] [(.ref a2), (.int r1)])) := fun t_ k_ => (gc p114 st115) t_ (by
      refine XS.aloadN X115.here hx rfl (hb hby d13_35) rfl rfl ?_
      exact k_)
    obtain ⟨T117, X117, e117, st117⟩ := getF X115 hx hZ hown (host := "") (Or.inl (own_w hw 49 rfl)) Via.refl e115 R2 (g := (mkF m 36 #[.val (.ref a1), .val (.ref a2), .val (.ref a2)] [(.ref a2), (.int r1)])) rfl rfl (hb hby d13_36)
    by_cases c118 : r1 = r2
    · have p119 : Go p.tables e below _ (T117.setTop (mkF m 42 #[.val (.ref a1), .val (.ref a2), .val (.ref a2)] [])) := fun t_ k_ => (gc p116 st117) t_ (by
        refine XS.icmpNo X117.here hx rfl (hb hby d13_39) rfl (teq c118).2 ?_
        exact k_)
      have p120 : Go p.tables e below _ (T117.setTop (mkF m 47 #[.val (.ref a1), .val (.ref a2), .val (.ref a2)] [(.int (1 : Int32))])) := fun t_ k_ => p119 t_ (by
        refine XS.iconst X117.here hx rfl (hb hby d13_42) ?_
        refine XS.goto X117.here hx rfl (pc0 := 43) (pc' := 47) rfl (hb hby d13_43) (by decide) (by decide) ?_
        exact k_)
      obtain ⟨fs, hr, hrun, hended, hW, hsame⟩ := X117.leave (v := some (.int (1 : Int32))) (fun h => by rw [Bd.returns] at h; cases h)
      refine ⟨_, _, p120 _ (retN X117 hx (t := .boolean) Bd.returns (by simp) (hb hby d13_47) hr), hrun, hended, _, _, rfl, ?_, ⟨_, rfl⟩, hW, hsame.mono (by decide) (by decide)⟩
      show Q13_22 Z a1 a2 s1 s2 r1 r2 v1 v2 k1 k2 b0 b1 d0 d1 cs1 fm h0 n0 _ T117.heap _
      rw [e117]
      exact ⟨by simp [own_se, c110, c118], N109, rfl⟩
    · have p121 : Go p.tables e below _ (T117.setTop (mkF m 46 #[.val (.ref a1), .val (.ref a2), .val (.ref a2)] [])) := fun t_ k_ => (gc p116 st117) t_ (by
        refine XS.icmpYes X117.here hx rfl (pc0 := 39) (pc' := 46) rfl (hb hby d13_39) rfl (feq c118).2 (by decide) (by decide) ?_
        exact k_)
      have p122 : Go p.tables e below _ (T117.setTop (mkF m 47 #[.val (.ref a1), .val (.ref a2), .val (.ref a2)] [(.int (0 : Int32))])) := fun t_ k_ => p121 t_ (by
        refine XS.iconst X117.here hx rfl (hb hby d13_46) ?_
        exact k_)
      obtain ⟨fs, hr, hrun, hended, hW, hsame⟩ := X117.leave (v := some (.int (0 : Int32))) (fun h => by rw [Bd.returns] at h; cases h)
      refine ⟨_, _, p122 _ (retN X117 hx (t := .boolean) Bd.returns (by simp) (hb hby d13_47) hr), hrun, hended, _, _, rfl, ?_, ⟨_, rfl⟩, hW, hsame.mono (by decide) (by decide)⟩
      show Q13_22 Z a1 a2 s1 s2 r1 r2 v1 v2 k1 k2 b0 b1 d0 d1 cs1 fm h0 n0 _ T117.heap _
      rw [e117]
      exact ⟨by simp [own_se, c110, c118], N109, rfl⟩
theorem ef_rm13_s (m : MethodId) (a1 : Addr) : entryFrame m #[(.ref a1), (.ref a1)] 3 = mkF m 0 #[.val (.ref a1), .val (.ref a1), .unset] [] := by first | (simp [entryFrame, mkF, argsToLocals, Value.category]; done) | rfl
def Q13_s (Z : State) (a1 : Addr) (h0 : Heap) (n0 : Nat) (v : Option Value) (h : Heap) (L : List Loc) : Prop := v = some (.int (1 : Int32)) ∧ Fr n0 L ∧ (h = h0)
set_option maxRecDepth 65536 in
set_option maxHeartbeats 40000000 in
theorem rm13_s (l : Launch) (Z : State) (a0 : Array Value) (hw : ∀ d ∈ tables_1, d.before a0 Z = true) (ws : List Jvm.Cond) (a1 : Addr) (h0 : Heap) (n0 : Nat) (Z0 : n0 ≤ h0.size) :
    MetFree l (⟨"com/example/kuusi/kuusi/core/Symbol", "equals", "(Ljava/lang/Object;)Z"⟩ : MethodName) (head1 (Jvm.Cond.code (⟨"com/example/kuusi/kuusi/core/Symbol", "equals", "(Ljava/lang/Object;)Z"⟩ : MethodName) prog_78_method_5_code 3 (some .boolean) :: ws) ({ frames := 0, cells := 0, slots := 0, locals := 0 } : Room)) (fun a U => a = #[(.ref a1), (.ref a1)] ∧ Z.Warmed39 U.vm ∧ U.heap = h0) (fun _ _ _ _ _ => True) (fun _ U o U' => ∃ v L, o = .returned v ∧ Q13_s Z a1 h0 n0 v U'.heap L ∧ FrameEnd U o U' L ({ frames := 0, cells := 0, slots := 0, locals := 0 } : Room).cells ({ frames := 0, cells := 0, slots := 0, locals := 0 } : Room).slots) := by
  refine MetFree.of_bodySF pn13 hisR ?_
  intro p e s m args below meth c s₁ Bd hml0 hP hK
  obtain ⟨rfl, hZ, hh⟩ := hP
  have hx := Bd.exec
  have hby := Bd.bytes
  have hml : c.maxLocals = 3 := hml0
  have hown : s.vm.findClass "com/example/kuusi/kuusi/core/Symbol" = some m.cls := findClass_of_methodNamed Bd.named
  have hnm := (name_of_methodNamed Bd.named Bd.method).1
  have X0 : Stand p l e ({ frames := 0, cells := 0, slots := 0, locals := 0 } : Room) s m #[(.ref a1), (.ref a1)] below meth c s₁ [] 0 0 := Stand.of_body Bd
  have e0 : s₁.heap = h0 := by rw [← hh, Bd.state]; rfl
  have N0 := Fr.nil n0
  have p0 : Go p.tables e below (s₁.setTop (entryFrame m #[(.ref a1), (.ref a1)] 3)) (s₁.setTop (mkF m 0 #[.val (.ref a1), .val (.ref a1), .unset] [])) := fun t_ k_ => castTop (ef_rm13_s m a1) k_
  have p101 : Go p.tables e below _ (s₁.setTop (mkF m 47 #[.val (.ref a1), .val (.ref a1), .unset] [(.int (1 : Int32))])) := fun t_ k_ => p0 t_ (by
    refine XS.aloadN X0.here hx rfl (hb hby d13_0) rfl rfl ?_
    refine XS.aloadN X0.here hx rfl (hb hby d13_1) rfl rfl ?_
    refine Jvm.RoadKit.acmp (g := (mkF m 2 #[.val (.ref a1), .val (.ref a1), .unset] [(.ref a1), (.ref a1)])) X0 hx rfl rfl rfl (pc0 := 2) (pc' := 42) (same := true) rfl (hb hby d13_2) rfl (decide_eq_true rfl) (by decide) (by decide) ?_
    refine XS.iconst X0.here hx rfl (hb hby d13_42) ?_
    refine XS.goto X0.here hx rfl (pc0 := 43) (pc' := 47) rfl (hb hby d13_43) (by decide) (by decide) ?_
    exact k_)
  obtain ⟨fs, hr, hrun, hended, hW, hsame⟩ := X0.leave (v := some (.int (1 : Int32))) (fun h => by rw [Bd.returns] at h; cases h)
  refine ⟨_, _, p101 _ (retN X0 hx (t := .boolean) Bd.returns (by simp) (hb hby d13_47) hr), hrun, hended, _, _, rfl, ?_, ⟨_, rfl⟩, hW, hsame.mono (by decide) (by decide)⟩
  show Q13_s Z a1 h0 n0 _ s₁.heap _
  rw [e0]
  exact ⟨rfl, N0, rfl⟩
theorem ef_rm13_n (m : MethodId) (a1 : Addr) : entryFrame m #[(.ref a1), .null] 3 = mkF m 0 #[.val (.ref a1), .val .null, .unset] [] := by first | (simp [entryFrame, mkF, argsToLocals, Value.category]; done) | rfl
def Q13_n (Z : State) (a1 : Addr) (h0 : Heap) (n0 : Nat) (v : Option Value) (h : Heap) (L : List Loc) : Prop := v = some (.int (0 : Int32)) ∧ Fr n0 L ∧ (h = h0)
set_option maxRecDepth 65536 in
set_option maxHeartbeats 40000000 in
theorem rm13_n (l : Launch) (Z : State) (a0 : Array Value) (hw : ∀ d ∈ tables_1, d.before a0 Z = true) (ws : List Jvm.Cond) (a1 : Addr) (h0 : Heap) (n0 : Nat) (Z0 : n0 ≤ h0.size) :
    MetFree l (⟨"com/example/kuusi/kuusi/core/Symbol", "equals", "(Ljava/lang/Object;)Z"⟩ : MethodName) (head1 (Jvm.Cond.code (⟨"com/example/kuusi/kuusi/core/Symbol", "equals", "(Ljava/lang/Object;)Z"⟩ : MethodName) prog_78_method_5_code 3 (some .boolean) :: ws) ({ frames := 0, cells := 0, slots := 0, locals := 0 } : Room)) (fun a U => a = #[(.ref a1), .null] ∧ Z.Warmed39 U.vm ∧ U.heap = h0) (fun _ _ _ _ _ => True) (fun _ U o U' => ∃ v L, o = .returned v ∧ Q13_n Z a1 h0 n0 v U'.heap L ∧ FrameEnd U o U' L ({ frames := 0, cells := 0, slots := 0, locals := 0 } : Room).cells ({ frames := 0, cells := 0, slots := 0, locals := 0 } : Room).slots) := by
  refine MetFree.of_bodySF pn13 hisR ?_
  intro p e s m args below meth c s₁ Bd hml0 hP hK
  obtain ⟨rfl, hZ, hh⟩ := hP
  have hx := Bd.exec
  have hby := Bd.bytes
  have hml : c.maxLocals = 3 := hml0
  have hown : s.vm.findClass "com/example/kuusi/kuusi/core/Symbol" = some m.cls := findClass_of_methodNamed Bd.named
  have hnm := (name_of_methodNamed Bd.named Bd.method).1
  have X0 : Stand p l e ({ frames := 0, cells := 0, slots := 0, locals := 0 } : Room) s m #[(.ref a1), .null] below meth c s₁ [] 0 0 := Stand.of_body Bd
  have e0 : s₁.heap = h0 := by rw [← hh, Bd.state]; rfl
  have N0 := Fr.nil n0
  have p0 : Go p.tables e below (s₁.setTop (entryFrame m #[(.ref a1), .null] 3)) (s₁.setTop (mkF m 0 #[.val (.ref a1), .val .null, .unset] [])) := fun t_ k_ => castTop (ef_rm13_n m a1) k_
  have p101 : Go p.tables e below _ (s₁.setTop (mkF m 47 #[.val (.ref a1), .val .null, .unset] [(.int (0 : Int32))])) := fun t_ k_ => p0 t_ (by
    refine XS.aloadN X0.here hx rfl (hb hby d13_0) rfl rfl ?_
    refine XS.aloadN X0.here hx rfl (hb hby d13_1) rfl rfl ?_
    refine Jvm.RoadKit.acmp (g := (mkF m 2 #[.val (.ref a1), .val .null, .unset] [(.ref a1), .null])) X0 hx rfl rfl rfl (pc0 := 2) (pc' := 5) (same := false) rfl (hb hby d13_2) rfl (decide_eq_false nofun) (by decide) (by decide) ?_
    refine XS.aloadN X0.here hx rfl (hb hby d13_5) rfl rfl ?_
    refine X0.instanceofNull hx (g := (mkF m 6 #[.val (.ref a1), .val .null, .unset] [.null])) rfl rfl (hb hby d13_6) _ ?_
    refine XS.ifYes X0.here hx rfl (pc0 := 9) (pc' := 46) rfl (hb hby d13_9) rfl ((if0 _ _).trans (teq (by decide : ((0 : Int32) = (0 : Int32)))).1) (by decide) (by decide) ?_
    refine XS.iconst X0.here hx rfl (hb hby d13_46) ?_
    exact k_)
  obtain ⟨fs, hr, hrun, hended, hW, hsame⟩ := X0.leave (v := some (.int (0 : Int32))) (fun h => by rw [Bd.returns] at h; cases h)
  refine ⟨_, _, p101 _ (retN X0 hx (t := .boolean) Bd.returns (by simp) (hb hby d13_47) hr), hrun, hended, _, _, rfl, ?_, ⟨_, rfl⟩, hW, hsame.mono (by decide) (by decide)⟩
  show Q13_n Z a1 h0 n0 _ s₁.heap _
  rw [e0]
  exact ⟨rfl, N0, rfl⟩
theorem ef_rm13_o (m : MethodId) (a1 : Addr) (a2 : Addr) : entryFrame m #[(.ref a1), (.ref a2)] 3 = mkF m 0 #[.val (.ref a1), .val (.ref a2), .unset] [] := by first | (simp [entryFrame, mkF, argsToLocals, Value.category]; done) | rfl
def Q13_o (Z : State) (a1 : Addr) (a2 : Addr) (h0 : Heap) (n0 : Nat) (v : Option Value) (h : Heap) (L : List Loc) : Prop := v = some (.int (0 : Int32)) ∧ Fr n0 L ∧ (h = h0)
set_option maxRecDepth 65536 in
set_option maxHeartbeats 40000000 in
theorem rm13_o (l : Launch) (Z : State) (a0 : Array Value) (hw : ∀ d ∈ tables_1, d.before a0 Z = true) (ws : List Jvm.Cond) (a1 : Addr) (a2 : Addr) (h0 : Heap) (n0 : Nat) (Z0 : n0 ≤ h0.size) (E2 : Exa Z h0 a2 "java/lang/String") (ne : a1 ≠ a2) :
    MetFree l (⟨"com/example/kuusi/kuusi/core/Symbol", "equals", "(Ljava/lang/Object;)Z"⟩ : MethodName) (head1 (Jvm.Cond.code (⟨"com/example/kuusi/kuusi/core/Symbol", "equals", "(Ljava/lang/Object;)Z"⟩ : MethodName) prog_78_method_5_code 3 (some .boolean) :: ws) ({ frames := 0, cells := 0, slots := 0, locals := 0 } : Room)) (fun a U => a = #[(.ref a1), (.ref a2)] ∧ Z.Warmed39 U.vm ∧ U.heap = h0) (fun _ _ _ _ _ => True) (fun _ U o U' => ∃ v L, o = .returned v ∧ Q13_o Z a1 a2 h0 n0 v U'.heap L ∧ FrameEnd U o U' L ({ frames := 0, cells := 0, slots := 0, locals := 0 } : Room).cells ({ frames := 0, cells := 0, slots := 0, locals := 0 } : Room).slots) := by
  refine MetFree.of_bodySF pn13 hisR ?_
  intro p e s m args below meth c s₁ Bd hml0 hP hK
  obtain ⟨rfl, hZ, hh⟩ := hP
  have hx := Bd.exec
  have hby := Bd.bytes
  have hml : c.maxLocals = 3 := hml0
  have hown : s.vm.findClass "com/example/kuusi/kuusi/core/Symbol" = some m.cls := findClass_of_methodNamed Bd.named
  have hnm := (name_of_methodNamed Bd.named Bd.method).1
  have X0 : Stand p l e ({ frames := 0, cells := 0, slots := 0, locals := 0 } : Room) s m #[(.ref a1), (.ref a2)] below meth c s₁ [] 0 0 := Stand.of_body Bd
  have e0 : s₁.heap = h0 := by rw [← hh, Bd.state]; rfl
  have N0 := Fr.nil n0
  have p0 : Go p.tables e below (s₁.setTop (entryFrame m #[(.ref a1), (.ref a2)] 3)) (s₁.setTop (mkF m 0 #[.val (.ref a1), .val (.ref a2), .unset] [])) := fun t_ k_ => castTop (ef_rm13_o m a1 a2) k_
  have p101 : Go p.tables e below _ (s₁.setTop (mkF m 6 #[.val (.ref a1), .val (.ref a2), .unset] [(.ref a2)])) := fun t_ k_ => p0 t_ (by
    refine XS.aloadN X0.here hx rfl (hb hby d13_0) rfl rfl ?_
    refine XS.aloadN X0.here hx rfl (hb hby d13_1) rfl rfl ?_
    refine Jvm.RoadKit.acmp (g := (mkF m 2 #[.val (.ref a1), .val (.ref a2), .unset] [(.ref a1), (.ref a2)])) X0 hx rfl rfl rfl (pc0 := 2) (pc' := 5) (same := false) rfl (hb hby d13_2) rfl (decide_eq_false fun q => (Ne.symm ne) (Value.ref.inj q)) (by decide) (by decide) ?_
    refine XS.aloadN X0.here hx rfl (hb hby d13_5) rfl rfl ?_
    exact k_)
  obtain ⟨T102, X102, e102, st102⟩ := instNo X0 hx hZ hown (own_w hw 76 rfl) e0 E2 (own_ns (own_w hw 87 rfl) (own_w hw 88 rfl) (own_w hw 36 rfl) (own_w hw 74 rfl) rfl (by decide) (by decide)) (g := (mkF m 6 #[.val (.ref a1), .val (.ref a2), .unset] [(.ref a2)])) rfl rfl (hb hby d13_6)
  have p103 : Go p.tables e below _ (T102.setTop (mkF m 47 #[.val (.ref a1), .val (.ref a2), .unset] [(.int (0 : Int32))])) := fun t_ k_ => (gc p101 st102) t_ (by
    refine XS.ifYes X102.here hx rfl (pc0 := 9) (pc' := 46) rfl (hb hby d13_9) rfl ((if0 _ _).trans (teq (by decide : ((0 : Int32) = (0 : Int32)))).1) (by decide) (by decide) ?_
    refine XS.iconst X102.here hx rfl (hb hby d13_46) ?_
    exact k_)
  obtain ⟨fs, hr, hrun, hended, hW, hsame⟩ := X102.leave (v := some (.int (0 : Int32))) (fun h => by rw [Bd.returns] at h; cases h)
  refine ⟨_, _, p103 _ (retN X102 hx (t := .boolean) Bd.returns (by simp) (hb hby d13_47) hr), hrun, hended, _, _, rfl, ?_, ⟨_, rfl⟩, hW, hsame.mono (by decide) (by decide)⟩
  show Q13_o Z a1 a2 h0 n0 _ T102.heap _
  rw [e102]
  exact ⟨rfl, N0, rfl⟩
theorem pd12 : parseMethodDescriptor "(ICC)Ljava/lang/String;" = some ⟨[.int, .char, .char], some (.object "java/lang/String")⟩ := by decide +kernel
theorem pd13 : parseMethodDescriptor "(Ljava/lang/String;I)V" = some ⟨[(.object "java/lang/String"), .int], none⟩ := by decide +kernel
theorem pn0 : plainFor (⟨"com/example/kuusi/kuusi/core/SymbolEqualsPinLaw", "law", "(IIIII)Z"⟩ : MethodName) = true := plainFor_of_name (by first | (simp [plainName, overriddenIn]; done) | decide +kernel)
theorem ef_rm0 (m : MethodId) (p1 : Int32) (p2 : Int32) (p3 : Int32) (p4 : Int32) (p5 : Int32) (cs1 : Int32) (fm : Value) : entryFrame m #[(.int p1), (.int p2), (.int p3), (.int p4), (.int p5)] maxLocals = mkF m 0 #[.val (.int p1), .val (.int p2), .val (.int p3), .val (.int p4), .val (.int p5), .unset, .unset, .unset, .unset, .unset, .unset, .unset, .unset, .unset, .unset, .unset, .unset, .unset, .unset] [] := by first | (simp [entryFrame, mkF, argsToLocals, Value.category, maxLocals]; done) | rfl
def Q0 (Z : State) (p1 : Int32) (p2 : Int32) (p3 : Int32) (p4 : Int32) (p5 : Int32) (cs1 : Int32) (fm : Value) (h0 : Heap) (n0 : Nat) (v : Option Value) (h : Heap) (L : List Loc) : Prop := v = some (.int (1 : Int32)) ∧ Fr n0 L
set_option maxRecDepth 65536 in
set_option maxHeartbeats 40000000 in
theorem rm0 (l : Launch) (Z : State) (a0 : Array Value) (hw : ∀ d ∈ tables_1, d.before a0 Z = true) (ws : List Jvm.Cond) (p1 : Int32) (p2 : Int32) (p3 : Int32) (p4 : Int32) (p5 : Int32) (cs1 : Int32) (fm : Value) (h0 : Heap) (n0 : Nat) (Z0 : n0 ≤ h0.size) (O1 : Old Z n0 h0) (G : own_G Z cs1 fm) :
    MetFree l x (head1 (Jvm.Cond.code x code maxLocals ret :: ws) room_1) (fun a U => a = #[(.int p1), (.int p2), (.int p3), (.int p4), (.int p5)] ∧ Z.Warmed39 U.vm ∧ U.heap = h0) (fun _ _ _ _ _ => True) (fun _ U o U' => ∃ v L, o = .returned v ∧ Q0 Z p1 p2 p3 p4 p5 cs1 fm h0 n0 v U'.heap L ∧ FrameEnd U o U' L room_1.cells room_1.slots) := by
  refine MetFree.of_bodySF pn0 hisR ?_
  intro p e s m args below meth c s₁ Bd hml0 hP hK
  obtain ⟨rfl, hZ, hh⟩ := hP
  have hx := Bd.exec
  have hby := Bd.bytes
  have hml : c.maxLocals = 19 := hml0
  have hown : s.vm.findClass "com/example/kuusi/kuusi/core/SymbolEqualsPinLaw" = some m.cls := findClass_of_methodNamed Bd.named
  have hnm := (name_of_methodNamed Bd.named Bd.method).1
  have X0 : Stand p l e room_1 s m #[(.int p1), (.int p2), (.int p3), (.int p4), (.int p5)] below meth c s₁ [] 0 0 := Stand.of_body Bd
  have e0 : s₁.heap = h0 := by rw [← hh, Bd.state]; rfl
  have N0 := Fr.nil n0
  have p0 : Go p.tables e below (s₁.setTop (entryFrame m #[(.int p1), (.int p2), (.int p3), (.int p4), (.int p5)] maxLocals)) (s₁.setTop (mkF m 0 #[.val (.int p1), .val (.int p2), .val (.int p3), .val (.int p4), .val (.int p5), .unset, .unset, .unset, .unset, .unset, .unset, .unset, .unset, .unset, .unset, .unset, .unset, .unset, .unset] [])) := fun t_ k_ => castTop (ef_rm0 m p1 p2 p3 p4 p5 cs1 fm) k_
  have p101 : Go p.tables e below _ (s₁.setTop (mkF m 26 #[.val (.int p1), .val (.int p2), .val (.int p3), .val (.int p4), .val (.int p5), .val (.int ((1 : Int32) + (p5 &&& (1 : Int32)))), .val (.int ((1 : Int32) + ((p5 >>> (1 : Int32)) &&& (1 : Int32)))), .val (.int ((p1 &&& (255 : Int32)).toUInt32.toUInt16.toUInt32.toInt32)), .unset, .unset, .unset, .unset, .unset, .unset, .unset, .unset, .unset, .unset, .unset] [])) := fun t_ k_ => p0 t_ (by
    refine XS.iconst X0.here hx rfl (hb hby at_0) ?_
    refine XS.iload X0.here hx rfl (hb hby at_1) rfl ?_
    refine XS.iconst X0.here hx rfl (hb hby at_3) ?_
    refine XS.iand X0.here hx rfl (hb hby at_4) rfl ?_
    refine XS.iadd X0.here hx rfl (hb hby at_5) rfl ?_
    refine XS.istore X0.here hx rfl (hb hby at_6) rfl (l' := #[.val (.int p1), .val (.int p2), .val (.int p3), .val (.int p4), .val (.int p5), .val (.int ((1 : Int32) + (p5 &&& (1 : Int32)))), .unset, .unset, .unset, .unset, .unset, .unset, .unset, .unset, .unset, .unset, .unset, .unset, .unset]) rfl ?_
    refine XS.iconst X0.here hx rfl (hb hby at_8) ?_
    refine XS.iload X0.here hx rfl (hb hby at_9) rfl ?_
    refine XS.iconst X0.here hx rfl (hb hby at_11) ?_
    refine XS.ishr X0.here hx rfl (hb hby at_12) rfl ?_
    refine XS.iconst X0.here hx rfl (hb hby at_13) ?_
    refine XS.iand X0.here hx rfl (hb hby at_14) rfl ?_
    refine XS.iadd X0.here hx rfl (hb hby at_15) rfl ?_
    refine XS.istore X0.here hx rfl (hb hby at_16) rfl (l' := #[.val (.int p1), .val (.int p2), .val (.int p3), .val (.int p4), .val (.int p5), .val (.int ((1 : Int32) + (p5 &&& (1 : Int32)))), .val (.int ((1 : Int32) + ((p5 >>> (1 : Int32)) &&& (1 : Int32)))), .unset, .unset, .unset, .unset, .unset, .unset, .unset, .unset, .unset, .unset, .unset, .unset]) rfl ?_
    refine XS.iloadN X0.here hx rfl (hb hby at_18) rfl ?_
    refine XS.sipush X0.here hx rfl (hb hby at_19) ?_
    refine XS.iand X0.here hx rfl (hb hby at_22) rfl ?_
    refine XS.i2c X0.here hx rfl (hb hby at_23) rfl ?_
    refine XS.istore X0.here hx rfl (hb hby at_24) rfl (l' := #[.val (.int p1), .val (.int p2), .val (.int p3), .val (.int p4), .val (.int p5), .val (.int ((1 : Int32) + (p5 &&& (1 : Int32)))), .val (.int ((1 : Int32) + ((p5 >>> (1 : Int32)) &&& (1 : Int32)))), .val (.int ((p1 &&& (255 : Int32)).toUInt32.toUInt16.toUInt32.toInt32)), .unset, .unset, .unset, .unset, .unset, .unset, .unset, .unset, .unset, .unset, .unset]) rfl ?_
    exact k_)
  obtain ⟨c10, hc10⟩ : ∃ z, z = ((p1 &&& (255 : Int32)).toUInt32.toUInt16.toUInt32.toInt32) := ⟨_, rfl⟩
  have p102 : Go p.tables e below (s₁.setTop (entryFrame m #[(.int p1), (.int p2), (.int p3), (.int p4), (.int p5)] maxLocals)) (s₁.setTop (mkF m 26 #[.val (.int p1), .val (.int p2), .val (.int p3), .val (.int p4), .val (.int p5), .val (.int ((1 : Int32) + (p5 &&& (1 : Int32)))), .val (.int ((1 : Int32) + ((p5 >>> (1 : Int32)) &&& (1 : Int32)))), .val (.int c10), .unset, .unset, .unset, .unset, .unset, .unset, .unset, .unset, .unset, .unset, .unset] [])) := by rw [hc10]; exact p101
  have q10 := own_c255 p1
  rw [← hc10] at q10
  have p103 : Go p.tables e below _ (s₁.setTop (mkF m 37 #[.val (.int p1), .val (.int p2), .val (.int p3), .val (.int p4), .val (.int p5), .val (.int ((1 : Int32) + (p5 &&& (1 : Int32)))), .val (.int ((1 : Int32) + ((p5 >>> (1 : Int32)) &&& (1 : Int32)))), .val (.int c10), .val (.int ((((p1.toUInt32 >>> (8 : UInt32)).toInt32) &&& (255 : Int32)).toUInt32.toUInt16.toUInt32.toInt32)), .unset, .unset, .unset, .unset, .unset, .unset, .unset, .unset, .unset, .unset] [])) := fun t_ k_ => p102 t_ (by
    refine XS.iloadN X0.here hx rfl (hb hby at_26) rfl ?_
    refine XS.bipush X0.here hx rfl (hb hby at_27) ?_
    refine XS.iushr X0.here hx rfl (hb hby at_29) rfl ?_
    refine XS.sipush X0.here hx rfl (hb hby at_30) ?_
    refine XS.iand X0.here hx rfl (hb hby at_33) rfl ?_
    refine XS.i2c X0.here hx rfl (hb hby at_34) rfl ?_
    refine XS.istore X0.here hx rfl (hb hby at_35) rfl (l' := #[.val (.int p1), .val (.int p2), .val (.int p3), .val (.int p4), .val (.int p5), .val (.int ((1 : Int32) + (p5 &&& (1 : Int32)))), .val (.int ((1 : Int32) + ((p5 >>> (1 : Int32)) &&& (1 : Int32)))), .val (.int c10), .val (.int ((((p1.toUInt32 >>> (8 : UInt32)).toInt32) &&& (255 : Int32)).toUInt32.toUInt16.toUInt32.toInt32)), .unset, .unset, .unset, .unset, .unset, .unset, .unset, .unset, .unset, .unset]) rfl ?_
    exact k_)
  obtain ⟨c11, hc11⟩ : ∃ z, z = ((((p1.toUInt32 >>> (8 : UInt32)).toInt32) &&& (255 : Int32)).toUInt32.toUInt16.toUInt32.toInt32) := ⟨_, rfl⟩
  have p104 : Go p.tables e below (s₁.setTop (entryFrame m #[(.int p1), (.int p2), (.int p3), (.int p4), (.int p5)] maxLocals)) (s₁.setTop (mkF m 37 #[.val (.int p1), .val (.int p2), .val (.int p3), .val (.int p4), .val (.int p5), .val (.int ((1 : Int32) + (p5 &&& (1 : Int32)))), .val (.int ((1 : Int32) + ((p5 >>> (1 : Int32)) &&& (1 : Int32)))), .val (.int c10), .val (.int c11), .unset, .unset, .unset, .unset, .unset, .unset, .unset, .unset, .unset, .unset] [])) := by rw [hc11]; exact p103
  have q11 := own_c255 ((p1.toUInt32 >>> (8 : UInt32)).toInt32)
  rw [← hc11] at q11
  have p105 : Go p.tables e below _ (s₁.setTop (mkF m 41 #[.val (.int p1), .val (.int p2), .val (.int p3), .val (.int p4), .val (.int p5), .val (.int ((1 : Int32) + (p5 &&& (1 : Int32)))), .val (.int ((1 : Int32) + ((p5 >>> (1 : Int32)) &&& (1 : Int32)))), .val (.int c10), .val (.int c11), .unset, .unset, .unset, .unset, .unset, .unset, .unset, .unset, .unset, .unset] [(.int (p5 &&& (4 : Int32)))])) := fun t_ k_ => p104 t_ (by
    refine XS.iload X0.here hx rfl (hb hby at_37) rfl ?_
    refine XS.iconst X0.here hx rfl (hb hby at_39) ?_
    refine XS.iand X0.here hx rfl (hb hby at_40) rfl ?_
    exact k_)
  have p111 : Go p.tables e below (s₁.setTop (entryFrame m #[(.int p1), (.int p2), (.int p3), (.int p4), (.int p5)] maxLocals)) (s₁.setTop (mkF m 55 #[.val (.int p1), .val (.int p2), .val (.int p3), .val (.int p4), .val (.int p5), .val (.int ((1 : Int32) + (p5 &&& (1 : Int32)))), .val (.int ((1 : Int32) + ((p5 >>> (1 : Int32)) &&& (1 : Int32)))), .val (.int c10), .val (.int c11), .unset, .unset, .unset, .unset, .unset, .unset, .unset, .unset, .unset, .unset] [(.int (if (p5 &&& (4 : Int32)) = (0 : Int32) then ((p2 &&& (255 : Int32)).toUInt32.toUInt16.toUInt32.toInt32) else c10))])) := by
    by_cases c106 : (p5 &&& (4 : Int32)) = (0 : Int32)
    · have p107 : Go p.tables e below _ (s₁.setTop (mkF m 49 #[.val (.int p1), .val (.int p2), .val (.int p3), .val (.int p4), .val (.int p5), .val (.int ((1 : Int32) + (p5 &&& (1 : Int32)))), .val (.int ((1 : Int32) + ((p5 >>> (1 : Int32)) &&& (1 : Int32)))), .val (.int c10), .val (.int c11), .unset, .unset, .unset, .unset, .unset, .unset, .unset, .unset, .unset, .unset] [])) := fun t_ k_ => p105 t_ (by
        refine XS.ifYes X0.here hx rfl (pc0 := 41) (pc' := 49) rfl (hb hby at_41) rfl ((if0 _ _).trans (teq c106).1) (by decide) (by decide) ?_
        exact k_)
      have p108 : Go p.tables e below _ (s₁.setTop (mkF m 55 #[.val (.int p1), .val (.int p2), .val (.int p3), .val (.int p4), .val (.int p5), .val (.int ((1 : Int32) + (p5 &&& (1 : Int32)))), .val (.int ((1 : Int32) + ((p5 >>> (1 : Int32)) &&& (1 : Int32)))), .val (.int c10), .val (.int c11), .unset, .unset, .unset, .unset, .unset, .unset, .unset, .unset, .unset, .unset] [(.int ((p2 &&& (255 : Int32)).toUInt32.toUInt16.toUInt32.toInt32))])) := fun t_ k_ => p107 t_ (by
        refine XS.iloadN X0.here hx rfl (hb hby at_49) rfl ?_
        refine XS.sipush X0.here hx rfl (hb hby at_50) ?_
        refine XS.iand X0.here hx rfl (hb hby at_53) rfl ?_
        refine XS.i2c X0.here hx rfl (hb hby at_54) rfl ?_
        exact k_)
      simp only [if_pos c106]; exact p108
    · have p109 : Go p.tables e below _ (s₁.setTop (mkF m 44 #[.val (.int p1), .val (.int p2), .val (.int p3), .val (.int p4), .val (.int p5), .val (.int ((1 : Int32) + (p5 &&& (1 : Int32)))), .val (.int ((1 : Int32) + ((p5 >>> (1 : Int32)) &&& (1 : Int32)))), .val (.int c10), .val (.int c11), .unset, .unset, .unset, .unset, .unset, .unset, .unset, .unset, .unset, .unset] [])) := fun t_ k_ => p105 t_ (by
        refine XS.ifNo X0.here hx rfl (hb hby at_41) rfl ((if0 _ _).trans (feq c106).1) ?_
        exact k_)
      have p110 : Go p.tables e below _ (s₁.setTop (mkF m 55 #[.val (.int p1), .val (.int p2), .val (.int p3), .val (.int p4), .val (.int p5), .val (.int ((1 : Int32) + (p5 &&& (1 : Int32)))), .val (.int ((1 : Int32) + ((p5 >>> (1 : Int32)) &&& (1 : Int32)))), .val (.int c10), .val (.int c11), .unset, .unset, .unset, .unset, .unset, .unset, .unset, .unset, .unset, .unset] [(.int c10)])) := fun t_ k_ => p109 t_ (by
        refine XS.iload X0.here hx rfl (hb hby at_44) rfl ?_
        refine XS.goto X0.here hx rfl (pc0 := 46) (pc' := 55) rfl (hb hby at_46) (by decide) (by decide) ?_
        exact k_)
      simp only [if_neg c106]; exact p110
  obtain ⟨c20, hc20⟩ : ∃ z, z = (if (p5 &&& (4 : Int32)) = (0 : Int32) then ((p2 &&& (255 : Int32)).toUInt32.toUInt16.toUInt32.toInt32) else c10) := ⟨_, rfl⟩
  have p112 : Go p.tables e below (s₁.setTop (entryFrame m #[(.int p1), (.int p2), (.int p3), (.int p4), (.int p5)] maxLocals)) (s₁.setTop (mkF m 55 #[.val (.int p1), .val (.int p2), .val (.int p3), .val (.int p4), .val (.int p5), .val (.int ((1 : Int32) + (p5 &&& (1 : Int32)))), .val (.int ((1 : Int32) + ((p5 >>> (1 : Int32)) &&& (1 : Int32)))), .val (.int c10), .val (.int c11), .unset, .unset, .unset, .unset, .unset, .unset, .unset, .unset, .unset, .unset] [(.int c20)])) := by rw [hc20]; exact p111
  have q20 : ¬ c20 < 0 ∧ ¬ (255 : Int32) < c20 := by rw [hc20]; split <;> first | exact own_c255 _ | exact q10
  have p113 : Go p.tables e below _ (s₁.setTop (mkF m 62 #[.val (.int p1), .val (.int p2), .val (.int p3), .val (.int p4), .val (.int p5), .val (.int ((1 : Int32) + (p5 &&& (1 : Int32)))), .val (.int ((1 : Int32) + ((p5 >>> (1 : Int32)) &&& (1 : Int32)))), .val (.int c10), .val (.int c11), .val (.int c20), .unset, .unset, .unset, .unset, .unset, .unset, .unset, .unset, .unset] [(.int (p5 &&& (8 : Int32)))])) := fun t_ k_ => p112 t_ (by
    refine XS.istore X0.here hx rfl (hb hby at_55) rfl (l' := #[.val (.int p1), .val (.int p2), .val (.int p3), .val (.int p4), .val (.int p5), .val (.int ((1 : Int32) + (p5 &&& (1 : Int32)))), .val (.int ((1 : Int32) + ((p5 >>> (1 : Int32)) &&& (1 : Int32)))), .val (.int c10), .val (.int c11), .val (.int c20), .unset, .unset, .unset, .unset, .unset, .unset, .unset, .unset, .unset]) rfl ?_
    refine XS.iload X0.here hx rfl (hb hby at_57) rfl ?_
    refine XS.bipush X0.here hx rfl (hb hby at_59) ?_
    refine XS.iand X0.here hx rfl (hb hby at_61) rfl ?_
    exact k_)
  have p119 : Go p.tables e below (s₁.setTop (entryFrame m #[(.int p1), (.int p2), (.int p3), (.int p4), (.int p5)] maxLocals)) (s₁.setTop (mkF m 79 #[.val (.int p1), .val (.int p2), .val (.int p3), .val (.int p4), .val (.int p5), .val (.int ((1 : Int32) + (p5 &&& (1 : Int32)))), .val (.int ((1 : Int32) + ((p5 >>> (1 : Int32)) &&& (1 : Int32)))), .val (.int c10), .val (.int c11), .val (.int c20), .unset, .unset, .unset, .unset, .unset, .unset, .unset, .unset, .unset] [(.int (if (p5 &&& (8 : Int32)) = (0 : Int32) then ((((p2.toUInt32 >>> (8 : UInt32)).toInt32) &&& (255 : Int32)).toUInt32.toUInt16.toUInt32.toInt32) else c11))])) := by
    by_cases c114 : (p5 &&& (8 : Int32)) = (0 : Int32)
    · have p115 : Go p.tables e below _ (s₁.setTop (mkF m 70 #[.val (.int p1), .val (.int p2), .val (.int p3), .val (.int p4), .val (.int p5), .val (.int ((1 : Int32) + (p5 &&& (1 : Int32)))), .val (.int ((1 : Int32) + ((p5 >>> (1 : Int32)) &&& (1 : Int32)))), .val (.int c10), .val (.int c11), .val (.int c20), .unset, .unset, .unset, .unset, .unset, .unset, .unset, .unset, .unset] [])) := fun t_ k_ => p113 t_ (by
        refine XS.ifYes X0.here hx rfl (pc0 := 62) (pc' := 70) rfl (hb hby at_62) rfl ((if0 _ _).trans (teq c114).1) (by decide) (by decide) ?_
        exact k_)
      have p116 : Go p.tables e below _ (s₁.setTop (mkF m 79 #[.val (.int p1), .val (.int p2), .val (.int p3), .val (.int p4), .val (.int p5), .val (.int ((1 : Int32) + (p5 &&& (1 : Int32)))), .val (.int ((1 : Int32) + ((p5 >>> (1 : Int32)) &&& (1 : Int32)))), .val (.int c10), .val (.int c11), .val (.int c20), .unset, .unset, .unset, .unset, .unset, .unset, .unset, .unset, .unset] [(.int ((((p2.toUInt32 >>> (8 : UInt32)).toInt32) &&& (255 : Int32)).toUInt32.toUInt16.toUInt32.toInt32))])) := fun t_ k_ => p115 t_ (by
        refine XS.iloadN X0.here hx rfl (hb hby at_70) rfl ?_
        refine XS.bipush X0.here hx rfl (hb hby at_71) ?_
        refine XS.iushr X0.here hx rfl (hb hby at_73) rfl ?_
        refine XS.sipush X0.here hx rfl (hb hby at_74) ?_
        refine XS.iand X0.here hx rfl (hb hby at_77) rfl ?_
        refine XS.i2c X0.here hx rfl (hb hby at_78) rfl ?_
        exact k_)
      simp only [if_pos c114]; exact p116
    · have p117 : Go p.tables e below _ (s₁.setTop (mkF m 65 #[.val (.int p1), .val (.int p2), .val (.int p3), .val (.int p4), .val (.int p5), .val (.int ((1 : Int32) + (p5 &&& (1 : Int32)))), .val (.int ((1 : Int32) + ((p5 >>> (1 : Int32)) &&& (1 : Int32)))), .val (.int c10), .val (.int c11), .val (.int c20), .unset, .unset, .unset, .unset, .unset, .unset, .unset, .unset, .unset] [])) := fun t_ k_ => p113 t_ (by
        refine XS.ifNo X0.here hx rfl (hb hby at_62) rfl ((if0 _ _).trans (feq c114).1) ?_
        exact k_)
      have p118 : Go p.tables e below _ (s₁.setTop (mkF m 79 #[.val (.int p1), .val (.int p2), .val (.int p3), .val (.int p4), .val (.int p5), .val (.int ((1 : Int32) + (p5 &&& (1 : Int32)))), .val (.int ((1 : Int32) + ((p5 >>> (1 : Int32)) &&& (1 : Int32)))), .val (.int c10), .val (.int c11), .val (.int c20), .unset, .unset, .unset, .unset, .unset, .unset, .unset, .unset, .unset] [(.int c11)])) := fun t_ k_ => p117 t_ (by
        refine XS.iload X0.here hx rfl (hb hby at_65) rfl ?_
        refine XS.goto X0.here hx rfl (pc0 := 67) (pc' := 79) rfl (hb hby at_67) (by decide) (by decide) ?_
        exact k_)
      simp only [if_neg c114]; exact p118
  obtain ⟨c21, hc21⟩ : ∃ z, z = (if (p5 &&& (8 : Int32)) = (0 : Int32) then ((((p2.toUInt32 >>> (8 : UInt32)).toInt32) &&& (255 : Int32)).toUInt32.toUInt16.toUInt32.toInt32) else c11) := ⟨_, rfl⟩
  have p120 : Go p.tables e below (s₁.setTop (entryFrame m #[(.int p1), (.int p2), (.int p3), (.int p4), (.int p5)] maxLocals)) (s₁.setTop (mkF m 79 #[.val (.int p1), .val (.int p2), .val (.int p3), .val (.int p4), .val (.int p5), .val (.int ((1 : Int32) + (p5 &&& (1 : Int32)))), .val (.int ((1 : Int32) + ((p5 >>> (1 : Int32)) &&& (1 : Int32)))), .val (.int c10), .val (.int c11), .val (.int c20), .unset, .unset, .unset, .unset, .unset, .unset, .unset, .unset, .unset] [(.int c21)])) := by rw [hc21]; exact p119
  have q21 : ¬ c21 < 0 ∧ ¬ (255 : Int32) < c21 := by rw [hc21]; split <;> first | exact own_c255 _ | exact q11
  have p121 : Go p.tables e below _ (s₁.setTop (mkF m 87 #[.val (.int p1), .val (.int p2), .val (.int p3), .val (.int p4), .val (.int p5), .val (.int ((1 : Int32) + (p5 &&& (1 : Int32)))), .val (.int ((1 : Int32) + ((p5 >>> (1 : Int32)) &&& (1 : Int32)))), .val (.int c10), .val (.int c11), .val (.int c20), .val (.int c21), .val (.int (p3 &&& (2147483647 : Int32))), .unset, .unset, .unset, .unset, .unset, .unset, .unset] [])) := fun t_ k_ => p120 t_ (by
    refine XS.istore X0.here hx rfl (hb hby at_79) rfl (l' := #[.val (.int p1), .val (.int p2), .val (.int p3), .val (.int p4), .val (.int p5), .val (.int ((1 : Int32) + (p5 &&& (1 : Int32)))), .val (.int ((1 : Int32) + ((p5 >>> (1 : Int32)) &&& (1 : Int32)))), .val (.int c10), .val (.int c11), .val (.int c20), .val (.int c21), .unset, .unset, .unset, .unset, .unset, .unset, .unset, .unset]) rfl ?_
    refine XS.iloadN X0.here hx rfl (hb hby at_81) rfl ?_
    refine X0.ldcInt hx hown (mvT hZ (own_w hw 0 rfl)) (g := (mkF m 82 #[.val (.int p1), .val (.int p2), .val (.int p3), .val (.int p4), .val (.int p5), .val (.int ((1 : Int32) + (p5 &&& (1 : Int32)))), .val (.int ((1 : Int32) + ((p5 >>> (1 : Int32)) &&& (1 : Int32)))), .val (.int c10), .val (.int c11), .val (.int c20), .val (.int c21), .unset, .unset, .unset, .unset, .unset, .unset, .unset, .unset] [(.int p3)])) rfl (hb hby at_82) _ ?_
    refine XS.iand X0.here hx rfl (hb hby at_84) rfl ?_
    refine XS.istore X0.here hx rfl (hb hby at_85) rfl (l' := #[.val (.int p1), .val (.int p2), .val (.int p3), .val (.int p4), .val (.int p5), .val (.int ((1 : Int32) + (p5 &&& (1 : Int32)))), .val (.int ((1 : Int32) + ((p5 >>> (1 : Int32)) &&& (1 : Int32)))), .val (.int c10), .val (.int c11), .val (.int c20), .val (.int c21), .val (.int (p3 &&& (2147483647 : Int32))), .unset, .unset, .unset, .unset, .unset, .unset, .unset]) rfl ?_
    exact k_)
  obtain ⟨rk1, hrk1⟩ : ∃ z, z = (p3 &&& (2147483647 : Int32)) := ⟨_, rfl⟩
  have p122 : Go p.tables e below (s₁.setTop (entryFrame m #[(.int p1), (.int p2), (.int p3), (.int p4), (.int p5)] maxLocals)) (s₁.setTop (mkF m 87 #[.val (.int p1), .val (.int p2), .val (.int p3), .val (.int p4), .val (.int p5), .val (.int ((1 : Int32) + (p5 &&& (1 : Int32)))), .val (.int ((1 : Int32) + ((p5 >>> (1 : Int32)) &&& (1 : Int32)))), .val (.int c10), .val (.int c11), .val (.int c20), .val (.int c21), .val (.int rk1), .unset, .unset, .unset, .unset, .unset, .unset, .unset] [])) := by rw [hrk1]; exact p121
  have qr1 : ¬ rk1 < (0 : Int32) := by rw [hrk1]; exact own_nnr _
  have p123 : Go p.tables e below _ (s₁.setTop (mkF m 92 #[.val (.int p1), .val (.int p2), .val (.int p3), .val (.int p4), .val (.int p5), .val (.int ((1 : Int32) + (p5 &&& (1 : Int32)))), .val (.int ((1 : Int32) + ((p5 >>> (1 : Int32)) &&& (1 : Int32)))), .val (.int c10), .val (.int c11), .val (.int c20), .val (.int c21), .val (.int rk1), .unset, .unset, .unset, .unset, .unset, .unset, .unset] [(.int (p5 &&& (16 : Int32)))])) := fun t_ k_ => p122 t_ (by
    refine XS.iload X0.here hx rfl (hb hby at_87) rfl ?_
    refine XS.bipush X0.here hx rfl (hb hby at_89) ?_
    refine XS.iand X0.here hx rfl (hb hby at_91) rfl ?_
    exact k_)
  have p129 : Go p.tables e below (s₁.setTop (entryFrame m #[(.int p1), (.int p2), (.int p3), (.int p4), (.int p5)] maxLocals)) (s₁.setTop (mkF m 104 #[.val (.int p1), .val (.int p2), .val (.int p3), .val (.int p4), .val (.int p5), .val (.int ((1 : Int32) + (p5 &&& (1 : Int32)))), .val (.int ((1 : Int32) + ((p5 >>> (1 : Int32)) &&& (1 : Int32)))), .val (.int c10), .val (.int c11), .val (.int c20), .val (.int c21), .val (.int rk1), .unset, .unset, .unset, .unset, .unset, .unset, .unset] [(.int (if (p5 &&& (16 : Int32)) = (0 : Int32) then (p4 &&& (2147483647 : Int32)) else rk1))])) := by
    by_cases c124 : (p5 &&& (16 : Int32)) = (0 : Int32)
    · have p125 : Go p.tables e below _ (s₁.setTop (mkF m 100 #[.val (.int p1), .val (.int p2), .val (.int p3), .val (.int p4), .val (.int p5), .val (.int ((1 : Int32) + (p5 &&& (1 : Int32)))), .val (.int ((1 : Int32) + ((p5 >>> (1 : Int32)) &&& (1 : Int32)))), .val (.int c10), .val (.int c11), .val (.int c20), .val (.int c21), .val (.int rk1), .unset, .unset, .unset, .unset, .unset, .unset, .unset] [])) := fun t_ k_ => p123 t_ (by
        refine XS.ifYes X0.here hx rfl (pc0 := 92) (pc' := 100) rfl (hb hby at_92) rfl ((if0 _ _).trans (teq c124).1) (by decide) (by decide) ?_
        exact k_)
      have p126 : Go p.tables e below _ (s₁.setTop (mkF m 104 #[.val (.int p1), .val (.int p2), .val (.int p3), .val (.int p4), .val (.int p5), .val (.int ((1 : Int32) + (p5 &&& (1 : Int32)))), .val (.int ((1 : Int32) + ((p5 >>> (1 : Int32)) &&& (1 : Int32)))), .val (.int c10), .val (.int c11), .val (.int c20), .val (.int c21), .val (.int rk1), .unset, .unset, .unset, .unset, .unset, .unset, .unset] [(.int (p4 &&& (2147483647 : Int32)))])) := fun t_ k_ => p125 t_ (by
        refine XS.iloadN X0.here hx rfl (hb hby at_100) rfl ?_
        refine X0.ldcInt hx hown (mvT hZ (own_w hw 0 rfl)) (g := (mkF m 101 #[.val (.int p1), .val (.int p2), .val (.int p3), .val (.int p4), .val (.int p5), .val (.int ((1 : Int32) + (p5 &&& (1 : Int32)))), .val (.int ((1 : Int32) + ((p5 >>> (1 : Int32)) &&& (1 : Int32)))), .val (.int c10), .val (.int c11), .val (.int c20), .val (.int c21), .val (.int rk1), .unset, .unset, .unset, .unset, .unset, .unset, .unset] [(.int p4)])) rfl (hb hby at_101) _ ?_
        refine XS.iand X0.here hx rfl (hb hby at_103) rfl ?_
        exact k_)
      simp only [if_pos c124]; exact p126
    · have p127 : Go p.tables e below _ (s₁.setTop (mkF m 95 #[.val (.int p1), .val (.int p2), .val (.int p3), .val (.int p4), .val (.int p5), .val (.int ((1 : Int32) + (p5 &&& (1 : Int32)))), .val (.int ((1 : Int32) + ((p5 >>> (1 : Int32)) &&& (1 : Int32)))), .val (.int c10), .val (.int c11), .val (.int c20), .val (.int c21), .val (.int rk1), .unset, .unset, .unset, .unset, .unset, .unset, .unset] [])) := fun t_ k_ => p123 t_ (by
        refine XS.ifNo X0.here hx rfl (hb hby at_92) rfl ((if0 _ _).trans (feq c124).1) ?_
        exact k_)
      have p128 : Go p.tables e below _ (s₁.setTop (mkF m 104 #[.val (.int p1), .val (.int p2), .val (.int p3), .val (.int p4), .val (.int p5), .val (.int ((1 : Int32) + (p5 &&& (1 : Int32)))), .val (.int ((1 : Int32) + ((p5 >>> (1 : Int32)) &&& (1 : Int32)))), .val (.int c10), .val (.int c11), .val (.int c20), .val (.int c21), .val (.int rk1), .unset, .unset, .unset, .unset, .unset, .unset, .unset] [(.int rk1)])) := fun t_ k_ => p127 t_ (by
        refine XS.iload X0.here hx rfl (hb hby at_95) rfl ?_
        refine XS.goto X0.here hx rfl (pc0 := 97) (pc' := 104) rfl (hb hby at_97) (by decide) (by decide) ?_
        exact k_)
      simp only [if_neg c124]; exact p128
  obtain ⟨rk2, hrk2⟩ : ∃ z, z = (if (p5 &&& (16 : Int32)) = (0 : Int32) then (p4 &&& (2147483647 : Int32)) else rk1) := ⟨_, rfl⟩
  have p130 : Go p.tables e below (s₁.setTop (entryFrame m #[(.int p1), (.int p2), (.int p3), (.int p4), (.int p5)] maxLocals)) (s₁.setTop (mkF m 104 #[.val (.int p1), .val (.int p2), .val (.int p3), .val (.int p4), .val (.int p5), .val (.int ((1 : Int32) + (p5 &&& (1 : Int32)))), .val (.int ((1 : Int32) + ((p5 >>> (1 : Int32)) &&& (1 : Int32)))), .val (.int c10), .val (.int c11), .val (.int c20), .val (.int c21), .val (.int rk1), .unset, .unset, .unset, .unset, .unset, .unset, .unset] [(.int rk2)])) := by rw [hrk2]; exact p129
  have qr2 : ¬ rk2 < (0 : Int32) := by rw [hrk2]; split <;> first | exact own_nnr _ | exact qr1
  have p131 : Go p.tables e below _ (s₁.setTop (mkF m 106 #[.val (.int p1), .val (.int p2), .val (.int p3), .val (.int p4), .val (.int p5), .val (.int ((1 : Int32) + (p5 &&& (1 : Int32)))), .val (.int ((1 : Int32) + ((p5 >>> (1 : Int32)) &&& (1 : Int32)))), .val (.int c10), .val (.int c11), .val (.int c20), .val (.int c21), .val (.int rk1), .val (.int rk2), .unset, .unset, .unset, .unset, .unset, .unset] [])) := fun t_ k_ => p130 t_ (by
    refine XS.istore X0.here hx rfl (hb hby at_104) rfl (l' := #[.val (.int p1), .val (.int p2), .val (.int p3), .val (.int p4), .val (.int p5), .val (.int ((1 : Int32) + (p5 &&& (1 : Int32)))), .val (.int ((1 : Int32) + ((p5 >>> (1 : Int32)) &&& (1 : Int32)))), .val (.int c10), .val (.int c11), .val (.int c20), .val (.int c21), .val (.int rk1), .val (.int rk2), .unset, .unset, .unset, .unset, .unset, .unset]) rfl ?_
    exact k_)
  obtain ⟨ln1, hln1⟩ : ∃ z, z = ((1 : Int32) + (p5 &&& (1 : Int32))) := ⟨_, rfl⟩
  have p132 : Go p.tables e below (s₁.setTop (entryFrame m #[(.int p1), (.int p2), (.int p3), (.int p4), (.int p5)] maxLocals)) (s₁.setTop (mkF m 106 #[.val (.int p1), .val (.int p2), .val (.int p3), .val (.int p4), .val (.int p5), .val (.int ln1), .val (.int ((1 : Int32) + ((p5 >>> (1 : Int32)) &&& (1 : Int32)))), .val (.int c10), .val (.int c11), .val (.int c20), .val (.int c21), .val (.int rk1), .val (.int rk2), .unset, .unset, .unset, .unset, .unset, .unset] [])) := by rw [hln1]; exact p131
  obtain ⟨ln2, hln2⟩ : ∃ z, z = ((1 : Int32) + ((p5 >>> (1 : Int32)) &&& (1 : Int32))) := ⟨_, rfl⟩
  have p133 : Go p.tables e below (s₁.setTop (entryFrame m #[(.int p1), (.int p2), (.int p3), (.int p4), (.int p5)] maxLocals)) (s₁.setTop (mkF m 106 #[.val (.int p1), .val (.int p2), .val (.int p3), .val (.int p4), .val (.int p5), .val (.int ln1), .val (.int ln2), .val (.int c10), .val (.int c11), .val (.int c20), .val (.int c21), .val (.int rk1), .val (.int rk2), .unset, .unset, .unset, .unset, .unset, .unset] [])) := by rw [hln2]; exact p132
  have z1 : ln1 = 1 ∨ ln1 = 2 := by rw [hln1]; rcases and_one p5 with q | q <;> rw [q] <;> decide
  have z2 : ln2 = 1 ∨ ln2 = 2 := by rw [hln2]; rcases and_one (p5 >>> (1 : Int32)) with q | q <;> rw [q] <;> decide
  rcases z1 with r1 | r1 <;> rcases z2 with r2 | r2
  · have p134 : Go p.tables e below (s₁.setTop (entryFrame m #[(.int p1), (.int p2), (.int p3), (.int p4), (.int p5)] maxLocals)) (s₁.setTop (mkF m 106 #[.val (.int p1), .val (.int p2), .val (.int p3), .val (.int p4), .val (.int p5), .val (.int (1 : Int32)), .val (.int (1 : Int32)), .val (.int c10), .val (.int c11), .val (.int c20), .val (.int c21), .val (.int rk1), .val (.int rk2), .unset, .unset, .unset, .unset, .unset, .unset] [])) := by have z := p133; rw [r1, r2] at z; exact z
    have p135 : Go p.tables e below _ (s₁.setTop (mkF m 112 #[.val (.int p1), .val (.int p2), .val (.int p3), .val (.int p4), .val (.int p5), .val (.int (1 : Int32)), .val (.int (1 : Int32)), .val (.int c10), .val (.int c11), .val (.int c20), .val (.int c21), .val (.int rk1), .val (.int rk2), .unset, .unset, .unset, .unset, .unset, .unset] [(.int c11), (.int c10), (.int (1 : Int32))])) := fun t_ k_ => p134 t_ (by
      refine XS.iload X0.here hx rfl (hb hby at_106) rfl ?_
      refine XS.iload X0.here hx rfl (hb hby at_108) rfl ?_
      refine XS.iload X0.here hx rfl (hb hby at_110) rfl ?_
      exact k_)
    obtain ⟨_, _, ⟨T136, L136, k136, n136⟩, -, X136, ⟨Lc136, hQ136, l136, y136, z136⟩, st136⟩ := Jvm.LawKit.callS X0 hx (y := (⟨"com/example/kuusi/kuusi/core/SymbolEqualsPinLaw", "mk", "(ICC)Ljava/lang/String;"⟩ : MethodName)) hown (mvT hZ (own_w hw 1 rfl)) (mvT hZ (own_w hw 2 rfl)) (mvT hZ (own_w hw 3 rfl)) (mvT hZ (own_w hw 4 rfl)) (by decide) (backOf (W := 0) (rm1_1 l Z a0 hw [] c10 c11 cs1 fm h0 n0 (Nat.le_trans Z0 (Keep.refl h0 []).1) O1 G (by rw [own_narc _ q10.1 (own_le255 q10.2)]; exact q10.2)) hZ (own_w hw 4 rfl) (own_w hw 3 rfl) (by decide) (by decide)) (g := (mkF m 112 #[.val (.int p1), .val (.int p2), .val (.int p3), .val (.int p4), .val (.int p5), .val (.int (1 : Int32)), .val (.int (1 : Int32)), .val (.int c10), .val (.int c11), .val (.int c20), .val (.int c21), .val (.int rk1), .val (.int rk2), .unset, .unset, .unset, .unset, .unset, .unset] [(.int c11), (.int c10), (.int (1 : Int32))])) rfl (by rw [hml]; rfl) (argsL := [(.int (1 : Int32)), (.int c10), (.int c11)]) (rest := []) (lenOf pd12 rfl) rfl (by show 2 * 0 + _ ≤ _; exact Nat.le_of_eq rfl) (hb hby at_112) (fun _ _ => ⟨rfl, e0, (by decide : 0 + 3 ≤ _), (by decide : 0 + 6 ≤ _)⟩)
    dsimp only [Pt.U, Pt.locs, Pt.cells, Pt.slots] at X136 l136 y136 z136 st136 hQ136
    subst l136 y136 z136
    obtain ⟨x137, x138, x139, rfl, N136q, q136_K, q136_E, q136_c, q136_v, q136_xhash, q136_xhashIsZero, q136_g, q136_z, q136_g2, q136_z2, q136_V, q136_xb, q136_n⟩ := hQ136
    have N136 := Fr.app N0 N136q
    have K140 : Keep h0 T136.heap [] := (Keep.refl h0 []).trans q136_K all0
    have p141 : Go p.tables e below _ (T136.setTop (mkF m 123 #[.val (.int p1), .val (.int p2), .val (.int p3), .val (.int p4), .val (.int p5), .val (.int (1 : Int32)), .val (.int (1 : Int32)), .val (.int c10), .val (.int c11), .val (.int c20), .val (.int c21), .val (.int rk1), .val (.int rk2), .val (.ref x137), .unset, .unset, .unset, .unset, .unset] [(.int c21), (.int c20), (.int (1 : Int32))])) := fun t_ k_ => (gc p135 st136) t_ (by
      refine XS.astore X136.here hx rfl (hb hby at_115) rfl rfl (l' := #[.val (.int p1), .val (.int p2), .val (.int p3), .val (.int p4), .val (.int p5), .val (.int (1 : Int32)), .val (.int (1 : Int32)), .val (.int c10), .val (.int c11), .val (.int c20), .val (.int c21), .val (.int rk1), .val (.int rk2), .val (.ref x137), .unset, .unset, .unset, .unset, .unset]) rfl ?_
      refine XS.iload X136.here hx rfl (hb hby at_117) rfl ?_
      refine XS.iload X136.here hx rfl (hb hby at_119) rfl ?_
      refine XS.iload X136.here hx rfl (hb hby at_121) rfl ?_
      exact k_)
    have f142 := (O1.keep q136_K all0)
    obtain ⟨_, _, ⟨T143, L143, k143, n143⟩, -, X143, ⟨Lc143, hQ143, l143, y143, z143⟩, st143⟩ := Jvm.LawKit.callS X136 hx (y := (⟨"com/example/kuusi/kuusi/core/SymbolEqualsPinLaw", "mk", "(ICC)Ljava/lang/String;"⟩ : MethodName)) hown (mvT hZ (own_w hw 1 rfl)) (mvT hZ (own_w hw 2 rfl)) (mvT hZ (own_w hw 3 rfl)) (mvT hZ (own_w hw 4 rfl)) (by decide) (backOf (W := 0) (rm1_1 l Z a0 hw [] c20 c21 cs1 fm T136.heap n0 (Nat.le_trans Z0 K140.1) f142 G (by rw [own_narc _ q20.1 (own_le255 q20.2)]; exact q20.2)) hZ (own_w hw 4 rfl) (own_w hw 3 rfl) (by decide) (by decide)) (g := (mkF m 123 #[.val (.int p1), .val (.int p2), .val (.int p3), .val (.int p4), .val (.int p5), .val (.int (1 : Int32)), .val (.int (1 : Int32)), .val (.int c10), .val (.int c11), .val (.int c20), .val (.int c21), .val (.int rk1), .val (.int rk2), .val (.ref x137), .unset, .unset, .unset, .unset, .unset] [(.int c21), (.int c20), (.int (1 : Int32))])) rfl (by rw [hml]; rfl) (argsL := [(.int (1 : Int32)), (.int c20), (.int c21)]) (rest := []) (lenOf pd12 rfl) rfl (by show 2 * 0 + _ ≤ _; exact Nat.le_of_eq rfl) (hb hby at_123) (fun _ _ => ⟨rfl, rfl, (by decide : 3 + 3 ≤ _), (by decide : 6 + 6 ≤ _)⟩)
    dsimp only [Pt.U, Pt.locs, Pt.cells, Pt.slots] at X143 l143 y143 z143 st143 hQ143
    subst l143 y143 z143
    obtain ⟨x144, x145, x146, rfl, N143q, q143_K, q143_E, q143_c, q143_v, q143_xhash, q143_xhashIsZero, q143_g, q143_z, q143_g2, q143_z2, q143_V, q143_xb, q143_n⟩ := hQ143
    have N143 := Fr.app N136 N143q
    have K147 : Keep h0 T143.heap [] := K140.trans q143_K all0
    have ne_x137_x144 : x137 ≠ x144 := Nat.ne_of_lt (Nat.lt_of_lt_of_le q136_E.lt q143_z)
    have ne_x138_x144 : x138 ≠ x144 := Nat.ne_of_lt (Nat.lt_of_lt_of_le q136_V.lt q143_z)
    have ne_x137_x145 : x137 ≠ x145 := Nat.ne_of_lt (Nat.lt_of_lt_of_le q136_E.lt q143_z2)
    have ne_x138_x145 : x138 ≠ x145 := Nat.ne_of_lt (Nat.lt_of_lt_of_le q136_V.lt q143_z2)
    have p148 : Go p.tables e below _ (T143.setTop (mkF m 128 #[.val (.int p1), .val (.int p2), .val (.int p3), .val (.int p4), .val (.int p5), .val (.int (1 : Int32)), .val (.int (1 : Int32)), .val (.int c10), .val (.int c11), .val (.int c20), .val (.int c21), .val (.int rk1), .val (.int rk2), .val (.ref x137), .val (.ref x144), .unset, .unset, .unset, .unset] [])) := fun t_ k_ => (gc p141 st143) t_ (by
      refine XS.astore X143.here hx rfl (hb hby at_126) rfl rfl (l' := #[.val (.int p1), .val (.int p2), .val (.int p3), .val (.int p4), .val (.int p5), .val (.int (1 : Int32)), .val (.int (1 : Int32)), .val (.int c10), .val (.int c11), .val (.int c20), .val (.int c21), .val (.int rk1), .val (.int rk2), .val (.ref x137), .val (.ref x144), .unset, .unset, .unset, .unset]) rfl ?_
      exact k_)
    obtain ⟨T149, h149, X149, e149, E149, A149, D149, -, st149⟩ := newO X143 hx hZ hown (own_w hw 35 rfl) (own_w hw 36 rfl) (own_w hw 37 rfl) rfl (g := (mkF m 128 #[.val (.int p1), .val (.int p2), .val (.int p3), .val (.int p4), .val (.int p5), .val (.int (1 : Int32)), .val (.int (1 : Int32)), .val (.int c10), .val (.int c11), .val (.int c20), .val (.int c21), .val (.int rk1), .val (.int rk2), .val (.ref x137), .val (.ref x144), .unset, .unset, .unset, .unset] [])) rfl (hb hby at_128) (by decide) (by decide)
    obtain ⟨b149, g149⟩ : ∃ z, z = T143.heap.size := ⟨_, rfl⟩
    rw [← g149] at A149 D149 st149
    have f150 := (q136_E.keep q143_K)
    have ne_x137_b149 : x137 ≠ b149 := Nat.ne_of_lt (Nat.lt_of_lt_of_le f150.lt (Nat.le_of_eq g149.symm))
    have f151 := (q136_V.keep q143_K nin0)
    have ne_x138_b149 : x138 ≠ b149 := Nat.ne_of_lt (Nat.lt_of_lt_of_le f151.lt (Nat.le_of_eq g149.symm))
    have ne_x144_b149 : x144 ≠ b149 := Nat.ne_of_lt (Nat.lt_of_lt_of_le q143_E.lt (Nat.le_of_eq g149.symm))
    have ne_x145_b149 : x145 ≠ b149 := Nat.ne_of_lt (Nat.lt_of_lt_of_le q143_V.lt (Nat.le_of_eq g149.symm))
    have ge_b149 : n0 ≤ b149 := Nat.le_trans (Nat.le_trans Z0 K147.1) (Nat.le_of_eq g149.symm)
    have sz_b149 : h0.size ≤ b149 := Nat.le_trans K147.1 (Nat.le_of_eq g149.symm)
    have K152 : Keep h0 h149 [] := K147.ext E149
    have F149_name : Fld Z h149 b149 "com/example/kuusi/kuusi/core/Symbol" "name" "Ljava/lang/String;" .null := D149 (Or.inr (own_w hw 48 rfl)) (ty := (.object "java/lang/String")) (by decide)
    have F149_rank : Fld Z h149 b149 "com/example/kuusi/kuusi/core/Symbol" "rank" "I" (.int (0 : Int32)) := D149 (Or.inr (own_w hw 50 rfl)) (ty := .int) (by decide)
    have F149_hash : Fld Z h149 b149 "com/example/kuusi/kuusi/core/Symbol" "hash" "I" (.int (0 : Int32)) := D149 (Or.inr (own_w hw 70 rfl)) (ty := .int) (by decide)
    have p153 : Go p.tables e below _ (T149.setTop (mkF m 136 #[.val (.int p1), .val (.int p2), .val (.int p3), .val (.int p4), .val (.int p5), .val (.int (1 : Int32)), .val (.int (1 : Int32)), .val (.int c10), .val (.int c11), .val (.int c20), .val (.int c21), .val (.int rk1), .val (.int rk2), .val (.ref x137), .val (.ref x144), .unset, .unset, .unset, .unset] [(.int rk1), (.ref x137), (.ref b149), (.ref b149)])) := fun t_ k_ => (gc p148 st149) t_ (by
      refine XS.dup X149.here hx rfl (hb hby at_131) rfl rfl ?_
      refine XS.aload X149.here hx rfl (hb hby at_132) rfl rfl ?_
      refine XS.iload X149.here hx rfl (hb hby at_134) rfl ?_
      exact k_)
    have f154 := ((f142.keep q143_K all0).ext E149)
    have f155 := (f150.ext E149)
    have f156 := ((q136_c.keep q143_K nin0).ext E149)
    have f157 := ((q136_v.keep q143_K nin0).ext E149)
    have f158 := ((q136_xhash.keep q143_K nin0).ext E149)
    have f159 := ((q136_xhashIsZero.keep q143_K nin0).ext E149)
    have f160 := (f151.ext E149)
    have f161 := ((q136_xb.keep q143_K).ext E149)
    obtain ⟨_, _, ⟨T162, L162, k162, n162⟩, -, X162, ⟨Lc162, hQ162, l162, y162, z162⟩, st162⟩ := X149.specialBack hx (y := (⟨"com/example/kuusi/kuusi/core/Symbol", "<init>", "(Ljava/lang/String;I)V"⟩ : MethodName)) rfl hown (mvT hZ (own_w hw 38 rfl)) (mvT hZ (own_w hw 39 rfl)) (mvT hZ (own_w hw 40 rfl)) (by decide) (backOf (W := 1) (rm8_1 l Z a0 hw [] b149 x137 rk1 x138 x139 (nar .byte ((nar .char c10).toInt8.toInt32)) cs1 fm h149 n0 (Nat.le_trans Z0 K152.1) f154 G F149_name F149_rank F149_hash A149 ge_b149 qr1 f155 f156 f157 f158 f159 f160 f161 q136_g (Ne.symm ne_x137_b149) (Ne.symm ne_x138_b149) q136_n) hZ (own_w hw 40 rfl) (own_w hw 37 rfl) (by decide) (by decide)) (g := (mkF m 136 #[.val (.int p1), .val (.int p2), .val (.int p3), .val (.int p4), .val (.int p5), .val (.int (1 : Int32)), .val (.int (1 : Int32)), .val (.int c10), .val (.int c11), .val (.int c20), .val (.int c21), .val (.int rk1), .val (.int rk2), .val (.ref x137), .val (.ref x144), .unset, .unset, .unset, .unset] [(.int rk1), (.ref x137), (.ref b149), (.ref b149)])) rfl (by rw [hml]; rfl) (Steps.refl _) (a := b149) (argsL := [(.ref x137), (.int rk1)]) (rest := [(.ref b149)]) (lenOf pd13 rfl) rfl (by show 2 * 0 + _ ≤ _; exact Nat.le_of_eq rfl) (hb hby at_136) (fun _ _ => ⟨rfl, e149, (by decide : 7 + 0 ≤ _), (by decide : 15 + 0 ≤ _)⟩)
    dsimp only [Pt.U, Pt.locs, Pt.cells, Pt.slots] at X162 l162 y162 z162 st162 hQ162
    subst l162 y162 z162
    obtain ⟨rfl, N162q, q162_K, q162_n, q162_r, q162_E, q162_E2, q162_c, q162_v⟩ := hQ162
    have N162 := Fr.app N143 N162q
    have K163 : Keep h0 T162.heap [] := K152.trans q162_K (allS (Or.inr sz_b149) (allS (Or.inr (Nat.le_trans (Keep.refl h0 []).1 q136_z)) all0))
    have p164 : Go p.tables e below _ (T162.setTop (mkF m 141 #[.val (.int p1), .val (.int p2), .val (.int p3), .val (.int p4), .val (.int p5), .val (.int (1 : Int32)), .val (.int (1 : Int32)), .val (.int c10), .val (.int c11), .val (.int c20), .val (.int c21), .val (.int rk1), .val (.int rk2), .val (.ref x137), .val (.ref x144), .val (.ref b149), .unset, .unset, .unset] [])) := fun t_ k_ => (gcT p153 st162) t_ (by
      refine XS.astore X162.here hx rfl (hb hby at_139) rfl rfl (l' := #[.val (.int p1), .val (.int p2), .val (.int p3), .val (.int p4), .val (.int p5), .val (.int (1 : Int32)), .val (.int (1 : Int32)), .val (.int c10), .val (.int c11), .val (.int c20), .val (.int c21), .val (.int rk1), .val (.int rk2), .val (.ref x137), .val (.ref x144), .val (.ref b149), .unset, .unset, .unset]) rfl ?_
      exact k_)
    obtain ⟨T165, h165, X165, e165, E165, A165, D165, -, st165⟩ := newO X162 hx hZ hown (own_w hw 35 rfl) (own_w hw 36 rfl) (own_w hw 37 rfl) rfl (g := (mkF m 141 #[.val (.int p1), .val (.int p2), .val (.int p3), .val (.int p4), .val (.int p5), .val (.int (1 : Int32)), .val (.int (1 : Int32)), .val (.int c10), .val (.int c11), .val (.int c20), .val (.int c21), .val (.int rk1), .val (.int rk2), .val (.ref x137), .val (.ref x144), .val (.ref b149), .unset, .unset, .unset] [])) rfl (hb hby at_141) (by decide) (by decide)
    obtain ⟨b165, g165⟩ : ∃ z, z = T162.heap.size := ⟨_, rfl⟩
    rw [← g165] at A165 D165 st165
    have ne_x137_b165 : x137 ≠ b165 := Nat.ne_of_lt (Nat.lt_of_lt_of_le q162_E2.lt (Nat.le_of_eq g165.symm))
    have f166 := (f160.keep q162_K (ninS ne_x138_b149 (ninS (Ne.symm q136_n) nin0)))
    have ne_x138_b165 : x138 ≠ b165 := Nat.ne_of_lt (Nat.lt_of_lt_of_le f166.lt (Nat.le_of_eq g165.symm))
    have f167 := ((q143_E.ext E149).keep q162_K)
    have ne_x144_b165 : x144 ≠ b165 := Nat.ne_of_lt (Nat.lt_of_lt_of_le f167.lt (Nat.le_of_eq g165.symm))
    have f168 := ((q143_V.ext E149).keep q162_K (ninS ne_x145_b149 (ninS (Ne.symm ne_x137_x145) nin0)))
    have ne_x145_b165 : x145 ≠ b165 := Nat.ne_of_lt (Nat.lt_of_lt_of_le f168.lt (Nat.le_of_eq g165.symm))
    have ne_b149_b165 : b149 ≠ b165 := Nat.ne_of_lt (Nat.lt_of_lt_of_le q162_E.lt (Nat.le_of_eq g165.symm))
    have ge_b165 : n0 ≤ b165 := Nat.le_trans (Nat.le_trans Z0 K163.1) (Nat.le_of_eq g165.symm)
    have sz_b165 : h0.size ≤ b165 := Nat.le_trans K163.1 (Nat.le_of_eq g165.symm)
    have K169 : Keep h0 h165 [] := K163.ext E165
    have F165_name : Fld Z h165 b165 "com/example/kuusi/kuusi/core/Symbol" "name" "Ljava/lang/String;" .null := D165 (Or.inr (own_w hw 48 rfl)) (ty := (.object "java/lang/String")) (by decide)
    have F165_rank : Fld Z h165 b165 "com/example/kuusi/kuusi/core/Symbol" "rank" "I" (.int (0 : Int32)) := D165 (Or.inr (own_w hw 50 rfl)) (ty := .int) (by decide)
    have F165_hash : Fld Z h165 b165 "com/example/kuusi/kuusi/core/Symbol" "hash" "I" (.int (0 : Int32)) := D165 (Or.inr (own_w hw 70 rfl)) (ty := .int) (by decide)
    have p170 : Go p.tables e below _ (T165.setTop (mkF m 149 #[.val (.int p1), .val (.int p2), .val (.int p3), .val (.int p4), .val (.int p5), .val (.int (1 : Int32)), .val (.int (1 : Int32)), .val (.int c10), .val (.int c11), .val (.int c20), .val (.int c21), .val (.int rk1), .val (.int rk2), .val (.ref x137), .val (.ref x144), .val (.ref b149), .unset, .unset, .unset] [(.int rk2), (.ref x144), (.ref b165), (.ref b165)])) := fun t_ k_ => (gc p164 st165) t_ (by
      refine XS.dup X165.here hx rfl (hb hby at_144) rfl rfl ?_
      refine XS.aload X165.here hx rfl (hb hby at_145) rfl rfl ?_
      refine XS.iload X165.here hx rfl (hb hby at_147) rfl ?_
      exact k_)
    have f171 := ((f154.keep q162_K (allS ge_b149 (allS q136_g all0))).ext E165)
    have f172 := (f167.ext E165)
    have f173 := (((q143_c.ext E149).keep q162_K (ninS ne_x144_b149 (ninS (Ne.symm ne_x137_x144) nin0))).ext E165)
    have f174 := (((q143_v.ext E149).keep q162_K (ninS ne_x144_b149 (ninS (Ne.symm ne_x137_x144) nin0))).ext E165)
    have f175 := (((q143_xhash.ext E149).keep q162_K (ninS ne_x144_b149 (ninS (Ne.symm ne_x137_x144) nin0))).ext E165)
    have f176 := (((q143_xhashIsZero.ext E149).keep q162_K (ninS ne_x144_b149 (ninS (Ne.symm ne_x137_x144) nin0))).ext E165)
    have f177 := (f168.ext E165)
    have f178 := (((q143_xb.ext E149).keep q162_K).ext E165)
    obtain ⟨_, _, ⟨T179, L179, k179, n179⟩, -, X179, ⟨Lc179, hQ179, l179, y179, z179⟩, st179⟩ := X165.specialBack hx (y := (⟨"com/example/kuusi/kuusi/core/Symbol", "<init>", "(Ljava/lang/String;I)V"⟩ : MethodName)) rfl hown (mvT hZ (own_w hw 38 rfl)) (mvT hZ (own_w hw 39 rfl)) (mvT hZ (own_w hw 40 rfl)) (by decide) (backOf (W := 1) (rm8_1 l Z a0 hw [] b165 x144 rk2 x145 x146 (nar .byte ((nar .char c20).toInt8.toInt32)) cs1 fm h165 n0 (Nat.le_trans Z0 K169.1) f171 G F165_name F165_rank F165_hash A165 ge_b165 qr2 f172 f173 f174 f175 f176 f177 f178 q143_g (Ne.symm ne_x144_b165) (Ne.symm ne_x145_b165) q143_n) hZ (own_w hw 40 rfl) (own_w hw 37 rfl) (by decide) (by decide)) (g := (mkF m 149 #[.val (.int p1), .val (.int p2), .val (.int p3), .val (.int p4), .val (.int p5), .val (.int (1 : Int32)), .val (.int (1 : Int32)), .val (.int c10), .val (.int c11), .val (.int c20), .val (.int c21), .val (.int rk1), .val (.int rk2), .val (.ref x137), .val (.ref x144), .val (.ref b149), .unset, .unset, .unset] [(.int rk2), (.ref x144), (.ref b165), (.ref b165)])) rfl (by rw [hml]; rfl) (Steps.refl _) (a := b165) (argsL := [(.ref x144), (.int rk2)]) (rest := [(.ref b165)]) (lenOf pd13 rfl) rfl (by show 2 * 0 + _ ≤ _; exact Nat.le_of_eq rfl) (hb hby at_149) (fun _ _ => ⟨rfl, e165, (by decide : 8 + 0 ≤ _), (by decide : 18 + 0 ≤ _)⟩)
    dsimp only [Pt.U, Pt.locs, Pt.cells, Pt.slots] at X179 l179 y179 z179 st179 hQ179
    subst l179 y179 z179
    obtain ⟨rfl, N179q, q179_K, q179_n, q179_r, q179_E, q179_E2, q179_c, q179_v⟩ := hQ179
    have N179 := Fr.app N162 N179q
    have K180 : Keep h0 T179.heap [] := K169.trans q179_K (allS (Or.inr sz_b165) (allS (Or.inr (Nat.le_trans K140.1 q143_z)) all0))
    have p181 : Go p.tables e below _ (T179.setTop (mkF m 165 #[.val (.int p1), .val (.int p2), .val (.int p3), .val (.int p4), .val (.int p5), .val (.int (1 : Int32)), .val (.int (1 : Int32)), .val (.int c10), .val (.int c11), .val (.int c20), .val (.int c21), .val (.int rk1), .val (.int rk2), .val (.ref x137), .val (.ref x144), .val (.ref b149), .val (.ref b165), .unset, .unset] [(.int c20), (.int c10)])) := fun t_ k_ => (gcT p170 st179) t_ (by
      refine XS.astore X179.here hx rfl (hb hby at_152) rfl rfl (l' := #[.val (.int p1), .val (.int p2), .val (.int p3), .val (.int p4), .val (.int p5), .val (.int (1 : Int32)), .val (.int (1 : Int32)), .val (.int c10), .val (.int c11), .val (.int c20), .val (.int c21), .val (.int rk1), .val (.int rk2), .val (.ref x137), .val (.ref x144), .val (.ref b149), .val (.ref b165), .unset, .unset]) rfl ?_
      refine XS.iload X179.here hx rfl (hb hby at_154) rfl ?_
      refine XS.iload X179.here hx rfl (hb hby at_156) rfl ?_
      refine XS.icmpNo X179.here hx rfl (hb hby at_158) rfl (teq (by decide : ((1 : Int32) = (1 : Int32)))).2 ?_
      refine XS.iload X179.here hx rfl (hb hby at_161) rfl ?_
      refine XS.iload X179.here hx rfl (hb hby at_163) rfl ?_
      exact k_)
    have p187 : Go p.tables e below (s₁.setTop (entryFrame m #[(.int p1), (.int p2), (.int p3), (.int p4), (.int p5)] maxLocals)) (T179.setTop (mkF m 186 #[.val (.int p1), .val (.int p2), .val (.int p3), .val (.int p4), .val (.int p5), .val (.int (1 : Int32)), .val (.int (1 : Int32)), .val (.int c10), .val (.int c11), .val (.int c20), .val (.int c21), .val (.int rk1), .val (.int rk2), .val (.ref x137), .val (.ref x144), .val (.ref b149), .val (.ref b165), .unset, .unset] [(.int (if c10 = c20 then (1 : Int32) else (0 : Int32)))])) := by
      by_cases c182 : c10 = c20
      · have p183 : Go p.tables e below _ (T179.setTop (mkF m 168 #[.val (.int p1), .val (.int p2), .val (.int p3), .val (.int p4), .val (.int p5), .val (.int (1 : Int32)), .val (.int (1 : Int32)), .val (.int c10), .val (.int c11), .val (.int c20), .val (.int c21), .val (.int rk1), .val (.int rk2), .val (.ref x137), .val (.ref x144), .val (.ref b149), .val (.ref b165), .unset, .unset] [])) := fun t_ k_ => p181 t_ (by
          refine XS.icmpNo X179.here hx rfl (hb hby at_165) rfl (teq c182).2 ?_
          exact k_)
        have p184 : Go p.tables e below _ (T179.setTop (mkF m 186 #[.val (.int p1), .val (.int p2), .val (.int p3), .val (.int p4), .val (.int p5), .val (.int (1 : Int32)), .val (.int (1 : Int32)), .val (.int c10), .val (.int c11), .val (.int c20), .val (.int c21), .val (.int rk1), .val (.int rk2), .val (.ref x137), .val (.ref x144), .val (.ref b149), .val (.ref b165), .unset, .unset] [(.int (1 : Int32))])) := fun t_ k_ => p183 t_ (by
          refine XS.iload X179.here hx rfl (hb hby at_168) rfl ?_
          refine XS.iconst X179.here hx rfl (hb hby at_170) ?_
          refine XS.icmpYes X179.here hx rfl (pc0 := 171) (pc' := 181) rfl (hb hby at_171) rfl (teq (by decide : ((1 : Int32) = (1 : Int32)))).1 (by decide) (by decide) ?_
          refine XS.iconst X179.here hx rfl (hb hby at_181) ?_
          refine XS.goto X179.here hx rfl (pc0 := 182) (pc' := 186) rfl (hb hby at_182) (by decide) (by decide) ?_
          exact k_)
        simp only [if_pos c182]; exact p184
      · have p185 : Go p.tables e below _ (T179.setTop (mkF m 185 #[.val (.int p1), .val (.int p2), .val (.int p3), .val (.int p4), .val (.int p5), .val (.int (1 : Int32)), .val (.int (1 : Int32)), .val (.int c10), .val (.int c11), .val (.int c20), .val (.int c21), .val (.int rk1), .val (.int rk2), .val (.ref x137), .val (.ref x144), .val (.ref b149), .val (.ref b165), .unset, .unset] [])) := fun t_ k_ => p181 t_ (by
          refine XS.icmpYes X179.here hx rfl (pc0 := 165) (pc' := 185) rfl (hb hby at_165) rfl (feq c182).2 (by decide) (by decide) ?_
          exact k_)
        have p186 : Go p.tables e below _ (T179.setTop (mkF m 186 #[.val (.int p1), .val (.int p2), .val (.int p3), .val (.int p4), .val (.int p5), .val (.int (1 : Int32)), .val (.int (1 : Int32)), .val (.int c10), .val (.int c11), .val (.int c20), .val (.int c21), .val (.int rk1), .val (.int rk2), .val (.ref x137), .val (.ref x144), .val (.ref b149), .val (.ref b165), .unset, .unset] [(.int (0 : Int32))])) := fun t_ k_ => p185 t_ (by
          refine XS.iconst X179.here hx rfl (hb hby at_185) ?_
          exact k_)
        simp only [if_neg c182]; exact p186
    obtain ⟨sn, hsn⟩ : ∃ z, z = (if c10 = c20 then (1 : Int32) else (0 : Int32)) := ⟨_, rfl⟩
    have p188 : Go p.tables e below (s₁.setTop (entryFrame m #[(.int p1), (.int p2), (.int p3), (.int p4), (.int p5)] maxLocals)) (T179.setTop (mkF m 186 #[.val (.int p1), .val (.int p2), .val (.int p3), .val (.int p4), .val (.int p5), .val (.int (1 : Int32)), .val (.int (1 : Int32)), .val (.int c10), .val (.int c11), .val (.int c20), .val (.int c21), .val (.int rk1), .val (.int rk2), .val (.ref x137), .val (.ref x144), .val (.ref b149), .val (.ref b165), .unset, .unset] [(.int sn)])) := by rw [hsn]; exact p187
    have p189 : Go p.tables e below _ (T179.setTop (mkF m 190 #[.val (.int p1), .val (.int p2), .val (.int p3), .val (.int p4), .val (.int p5), .val (.int (1 : Int32)), .val (.int (1 : Int32)), .val (.int c10), .val (.int c11), .val (.int c20), .val (.int c21), .val (.int rk1), .val (.int rk2), .val (.ref x137), .val (.ref x144), .val (.ref b149), .val (.ref b165), .val (.int sn), .unset] [(.int sn)])) := fun t_ k_ => p188 t_ (by
      refine XS.istore X179.here hx rfl (hb hby at_186) rfl (l' := #[.val (.int p1), .val (.int p2), .val (.int p3), .val (.int p4), .val (.int p5), .val (.int (1 : Int32)), .val (.int (1 : Int32)), .val (.int c10), .val (.int c11), .val (.int c20), .val (.int c21), .val (.int rk1), .val (.int rk2), .val (.ref x137), .val (.ref x144), .val (.ref b149), .val (.ref b165), .val (.int sn), .unset]) rfl ?_
      refine XS.iload X179.here hx rfl (hb hby at_188) rfl ?_
      exact k_)
    have p200 : Go p.tables e below (s₁.setTop (entryFrame m #[(.int p1), (.int p2), (.int p3), (.int p4), (.int p5)] maxLocals)) (T179.setTop (mkF m 205 #[.val (.int p1), .val (.int p2), .val (.int p3), .val (.int p4), .val (.int p5), .val (.int (1 : Int32)), .val (.int (1 : Int32)), .val (.int c10), .val (.int c11), .val (.int c20), .val (.int c21), .val (.int rk1), .val (.int rk2), .val (.ref x137), .val (.ref x144), .val (.ref b149), .val (.ref b165), .val (.int sn), .unset] [(.int (if sn = (0 : Int32) then (0 : Int32) else (if rk1 = rk2 then (1 : Int32) else (0 : Int32))))])) := by
      by_cases c190 : sn = (0 : Int32)
      · have p191 : Go p.tables e below _ (T179.setTop (mkF m 204 #[.val (.int p1), .val (.int p2), .val (.int p3), .val (.int p4), .val (.int p5), .val (.int (1 : Int32)), .val (.int (1 : Int32)), .val (.int c10), .val (.int c11), .val (.int c20), .val (.int c21), .val (.int rk1), .val (.int rk2), .val (.ref x137), .val (.ref x144), .val (.ref b149), .val (.ref b165), .val (.int sn), .unset] [])) := fun t_ k_ => p189 t_ (by
          refine XS.ifYes X179.here hx rfl (pc0 := 190) (pc' := 204) rfl (hb hby at_190) rfl ((if0 _ _).trans (teq c190).1) (by decide) (by decide) ?_
          exact k_)
        have p192 : Go p.tables e below _ (T179.setTop (mkF m 205 #[.val (.int p1), .val (.int p2), .val (.int p3), .val (.int p4), .val (.int p5), .val (.int (1 : Int32)), .val (.int (1 : Int32)), .val (.int c10), .val (.int c11), .val (.int c20), .val (.int c21), .val (.int rk1), .val (.int rk2), .val (.ref x137), .val (.ref x144), .val (.ref b149), .val (.ref b165), .val (.int sn), .unset] [(.int (0 : Int32))])) := fun t_ k_ => p191 t_ (by
          refine XS.iconst X179.here hx rfl (hb hby at_204) ?_
          exact k_)
        simp only [if_pos c190]; exact p192
      · have p193 : Go p.tables e below _ (T179.setTop (mkF m 193 #[.val (.int p1), .val (.int p2), .val (.int p3), .val (.int p4), .val (.int p5), .val (.int (1 : Int32)), .val (.int (1 : Int32)), .val (.int c10), .val (.int c11), .val (.int c20), .val (.int c21), .val (.int rk1), .val (.int rk2), .val (.ref x137), .val (.ref x144), .val (.ref b149), .val (.ref b165), .val (.int sn), .unset] [])) := fun t_ k_ => p189 t_ (by
          refine XS.ifNo X179.here hx rfl (hb hby at_190) rfl ((if0 _ _).trans (feq c190).1) ?_
          exact k_)
        have p194 : Go p.tables e below _ (T179.setTop (mkF m 197 #[.val (.int p1), .val (.int p2), .val (.int p3), .val (.int p4), .val (.int p5), .val (.int (1 : Int32)), .val (.int (1 : Int32)), .val (.int c10), .val (.int c11), .val (.int c20), .val (.int c21), .val (.int rk1), .val (.int rk2), .val (.ref x137), .val (.ref x144), .val (.ref b149), .val (.ref b165), .val (.int sn), .unset] [(.int rk2), (.int rk1)])) := fun t_ k_ => p193 t_ (by
          refine XS.iload X179.here hx rfl (hb hby at_193) rfl ?_
          refine XS.iload X179.here hx rfl (hb hby at_195) rfl ?_
          exact k_)
        by_cases c195 : rk1 = rk2
        · have p196 : Go p.tables e below _ (T179.setTop (mkF m 200 #[.val (.int p1), .val (.int p2), .val (.int p3), .val (.int p4), .val (.int p5), .val (.int (1 : Int32)), .val (.int (1 : Int32)), .val (.int c10), .val (.int c11), .val (.int c20), .val (.int c21), .val (.int rk1), .val (.int rk2), .val (.ref x137), .val (.ref x144), .val (.ref b149), .val (.ref b165), .val (.int sn), .unset] [])) := fun t_ k_ => p194 t_ (by
            refine XS.icmpNo X179.here hx rfl (hb hby at_197) rfl (teq c195).2 ?_
            exact k_)
          have p197 : Go p.tables e below _ (T179.setTop (mkF m 205 #[.val (.int p1), .val (.int p2), .val (.int p3), .val (.int p4), .val (.int p5), .val (.int (1 : Int32)), .val (.int (1 : Int32)), .val (.int c10), .val (.int c11), .val (.int c20), .val (.int c21), .val (.int rk1), .val (.int rk2), .val (.ref x137), .val (.ref x144), .val (.ref b149), .val (.ref b165), .val (.int sn), .unset] [(.int (1 : Int32))])) := fun t_ k_ => p196 t_ (by
            refine XS.iconst X179.here hx rfl (hb hby at_200) ?_
            refine XS.goto X179.here hx rfl (pc0 := 201) (pc' := 205) rfl (hb hby at_201) (by decide) (by decide) ?_
            exact k_)
          simp only [if_neg c190, if_pos c195]; exact p197
        · have p198 : Go p.tables e below _ (T179.setTop (mkF m 204 #[.val (.int p1), .val (.int p2), .val (.int p3), .val (.int p4), .val (.int p5), .val (.int (1 : Int32)), .val (.int (1 : Int32)), .val (.int c10), .val (.int c11), .val (.int c20), .val (.int c21), .val (.int rk1), .val (.int rk2), .val (.ref x137), .val (.ref x144), .val (.ref b149), .val (.ref b165), .val (.int sn), .unset] [])) := fun t_ k_ => p194 t_ (by
            refine XS.icmpYes X179.here hx rfl (pc0 := 197) (pc' := 204) rfl (hb hby at_197) rfl (feq c195).2 (by decide) (by decide) ?_
            exact k_)
          have p199 : Go p.tables e below _ (T179.setTop (mkF m 205 #[.val (.int p1), .val (.int p2), .val (.int p3), .val (.int p4), .val (.int p5), .val (.int (1 : Int32)), .val (.int (1 : Int32)), .val (.int c10), .val (.int c11), .val (.int c20), .val (.int c21), .val (.int rk1), .val (.int rk2), .val (.ref x137), .val (.ref x144), .val (.ref b149), .val (.ref b165), .val (.int sn), .unset] [(.int (0 : Int32))])) := fun t_ k_ => p198 t_ (by
            refine XS.iconst X179.here hx rfl (hb hby at_204) ?_
            exact k_)
          simp only [if_neg c190, if_neg c195]; exact p199
    obtain ⟨ex, hex⟩ : ∃ z, z = (if sn = (0 : Int32) then (0 : Int32) else (if rk1 = rk2 then (1 : Int32) else (0 : Int32))) := ⟨_, rfl⟩
    have p201 : Go p.tables e below (s₁.setTop (entryFrame m #[(.int p1), (.int p2), (.int p3), (.int p4), (.int p5)] maxLocals)) (T179.setTop (mkF m 205 #[.val (.int p1), .val (.int p2), .val (.int p3), .val (.int p4), .val (.int p5), .val (.int (1 : Int32)), .val (.int (1 : Int32)), .val (.int c10), .val (.int c11), .val (.int c20), .val (.int c21), .val (.int rk1), .val (.int rk2), .val (.ref x137), .val (.ref x144), .val (.ref b149), .val (.ref b165), .val (.int sn), .unset] [(.int ex)])) := by rw [hex]; exact p200
    have p202 : Go p.tables e below _ (T179.setTop (mkF m 211 #[.val (.int p1), .val (.int p2), .val (.int p3), .val (.int p4), .val (.int p5), .val (.int (1 : Int32)), .val (.int (1 : Int32)), .val (.int c10), .val (.int c11), .val (.int c20), .val (.int c21), .val (.int rk1), .val (.int rk2), .val (.ref x137), .val (.ref x144), .val (.ref b149), .val (.ref b165), .val (.int sn), .val (.int ex)] [(.ref b165), (.ref b149)])) := fun t_ k_ => p201 t_ (by
      refine XS.istore X179.here hx rfl (hb hby at_205) rfl (l' := #[.val (.int p1), .val (.int p2), .val (.int p3), .val (.int p4), .val (.int p5), .val (.int (1 : Int32)), .val (.int (1 : Int32)), .val (.int c10), .val (.int c11), .val (.int c20), .val (.int c21), .val (.int rk1), .val (.int rk2), .val (.ref x137), .val (.ref x144), .val (.ref b149), .val (.ref b165), .val (.int sn), .val (.int ex)]) rfl ?_
      refine XS.aload X179.here hx rfl (hb hby at_207) rfl rfl ?_
      refine XS.aload X179.here hx rfl (hb hby at_209) rfl rfl ?_
      exact k_)
    have f203 := (f171.keep q179_K (allS ge_b165 (allS q143_g all0)))
    have f204 := ((q162_n.ext E165).keep q179_K (ninS ne_b149_b165 (ninS (Ne.symm ne_x144_b149) nin0)))
    have f205 := ((q162_r.ext E165).keep q179_K (ninS ne_b149_b165 (ninS (Ne.symm ne_x144_b149) nin0)))
    have f206 := ((q162_E2.ext E165).keep q179_K)
    have f207 := ((q162_c.ext E165).keep q179_K (ninS ne_x137_b165 (ninS ne_x137_x144 nin0)))
    have f208 := ((q162_v.ext E165).keep q179_K (ninS ne_x137_b165 (ninS ne_x137_x144 nin0)))
    have f209 := ((f166.ext E165).keep q179_K (ninS ne_x138_b165 (ninS ne_x138_x144 nin0)))
    have f210 := (f177.keep q179_K (ninS ne_x145_b165 (ninS (Ne.symm q143_n) nin0)))
    have f212 := ((q162_E.ext E165).keep q179_K)
    obtain ⟨cq211, kq211, q211a, q211b, q211c⟩ := isOf hZ rfl f212
    obtain ⟨_, _, ⟨T211, L211, k211, n211⟩, -, X211, ⟨Lc211, hQ211, l211, y211, z211⟩, st211⟩ := X179.virtualBack hx (y := (⟨"com/example/kuusi/kuusi/core/Symbol", "equals", "(Ljava/lang/Object;)Z"⟩ : MethodName)) (z := (⟨"com/example/kuusi/kuusi/core/Symbol", "equals", "(Ljava/lang/Object;)Z"⟩ : MethodName)) hown (mvT hZ (own_w hw 71 rfl)) (mvT hZ (own_w hw 72 rfl)) (notFace_of_selects (args := #[]) (mvT hZ (own_w hw 74 rfl))) (mvT hZ (own_w hw 74 rfl)) (mvT hZ (own_w hw 73 rfl)) (by decide) (backOf (W := 0) (rm13_11 l Z a0 hw [] b149 b165 x137 x144 rk1 rk2 x138 x145 x139 x146 (nar .byte ((nar .char c10).toInt8.toInt32)) (nar .byte ((nar .char c20).toInt8.toInt32)) cs1 fm T179.heap n0 (Nat.le_trans Z0 K180.1) f203 G q179_E ne_b149_b165 f204 q179_n f205 q179_r ne_x137_x144 f206 q179_E2 f207 q179_c f208 q179_v f209 f210) hZ (own_w hw 75 rfl) (own_w hw 37 rfl) (by decide) (by decide)) q211a q211c (g := (mkF m 211 #[.val (.int p1), .val (.int p2), .val (.int p3), .val (.int p4), .val (.int p5), .val (.int (1 : Int32)), .val (.int (1 : Int32)), .val (.int c10), .val (.int c11), .val (.int c20), .val (.int c21), .val (.int rk1), .val (.int rk2), .val (.ref x137), .val (.ref x144), .val (.ref b149), .val (.ref b165), .val (.int sn), .val (.int ex)] [(.ref b165), (.ref b149)])) rfl (by rw [hml]; rfl) (Steps.refl _) (argsL := [(.ref b165)]) (rest := []) (lenOf pd11 rfl) rfl (by show 2 * 0 + _ ≤ _; exact Nat.le_of_eq rfl) (hb hby at_211) (fun _ _ => ⟨rfl, rfl, (by decide : 8 + 0 ≤ _), (by decide : 18 + 0 ≤ _)⟩)
    dsimp only [Pt.U, Pt.locs, Pt.cells, Pt.slots] at X211 l211 y211 z211 st211 hQ211
    subst l211 y211 z211
    obtain ⟨rfl, N211q, q211_hh⟩ := hQ211
    have N211 := Fr.app N179 N211q
    have p213 : Go p.tables e below _ (T211.setTop (mkF m 216 #[.val (.int p1), .val (.int p2), .val (.int p3), .val (.int p4), .val (.int p5), .val (.int (1 : Int32)), .val (.int (1 : Int32)), .val (.int c10), .val (.int c11), .val (.int c20), .val (.int c21), .val (.int rk1), .val (.int rk2), .val (.ref x137), .val (.ref x144), .val (.ref b149), .val (.ref b165), .val (.int sn), .val (.int ex)] [(.int ex), (.int (own_se (if (nar .byte ((nar .char c10).toInt8.toInt32)) = (nar .byte ((nar .char c20).toInt8.toInt32)) then (1 : Int32) else (0 : Int32)) rk1 rk2))])) := fun t_ k_ => (gcT p202 st211) t_ (by
      refine XS.iload X211.here hx rfl (hb hby at_214) rfl ?_
      exact k_)
    have c214 : ((own_se (if (nar .byte ((nar .char c10).toInt8.toInt32)) = (nar .byte ((nar .char c20).toInt8.toInt32)) then (1 : Int32) else (0 : Int32)) rk1 rk2) = ex) := (own_f1 q10 q20 hsn hex).1
    have p215 : Go p.tables e below _ (T211.setTop (mkF m 225 #[.val (.int p1), .val (.int p2), .val (.int p3), .val (.int p4), .val (.int p5), .val (.int (1 : Int32)), .val (.int (1 : Int32)), .val (.int c10), .val (.int c11), .val (.int c20), .val (.int c21), .val (.int rk1), .val (.int rk2), .val (.ref x137), .val (.ref x144), .val (.ref b149), .val (.ref b165), .val (.int sn), .val (.int ex)] [(.ref b149), (.ref b165)])) := fun t_ k_ => p213 t_ (by
      refine XS.icmpYes X211.here hx rfl (pc0 := 216) (pc' := 221) rfl (hb hby at_216) rfl (teq c214).1 (by decide) (by decide) ?_
      refine XS.aload X211.here hx rfl (hb hby at_221) rfl rfl ?_
      refine XS.aload X211.here hx rfl (hb hby at_223) rfl rfl ?_
      exact k_)
    obtain ⟨cq216, kq216, q216a, q216b, q216c⟩ := isOf hZ q211_hh q179_E
    obtain ⟨_, _, ⟨T216, L216, k216, n216⟩, -, X216, ⟨Lc216, hQ216, l216, y216, z216⟩, st216⟩ := X211.virtualBack hx (y := (⟨"com/example/kuusi/kuusi/core/Symbol", "equals", "(Ljava/lang/Object;)Z"⟩ : MethodName)) (z := (⟨"com/example/kuusi/kuusi/core/Symbol", "equals", "(Ljava/lang/Object;)Z"⟩ : MethodName)) hown (mvT hZ (own_w hw 71 rfl)) (mvT hZ (own_w hw 72 rfl)) (notFace_of_selects (args := #[]) (mvT hZ (own_w hw 74 rfl))) (mvT hZ (own_w hw 74 rfl)) (mvT hZ (own_w hw 73 rfl)) (by decide) (backOf (W := 0) (rm13_11 l Z a0 hw [] b165 b149 x144 x137 rk2 rk1 x145 x138 x146 x139 (nar .byte ((nar .char c20).toInt8.toInt32)) (nar .byte ((nar .char c10).toInt8.toInt32)) cs1 fm T179.heap n0 (Nat.le_trans Z0 K180.1) f203 G f212 (Ne.symm ne_b149_b165) q179_n f204 q179_r f205 (Ne.symm ne_x137_x144) q179_E2 f206 q179_c f207 q179_v f208 f210 f209) hZ (own_w hw 75 rfl) (own_w hw 37 rfl) (by decide) (by decide)) q216a q216c (g := (mkF m 225 #[.val (.int p1), .val (.int p2), .val (.int p3), .val (.int p4), .val (.int p5), .val (.int (1 : Int32)), .val (.int (1 : Int32)), .val (.int c10), .val (.int c11), .val (.int c20), .val (.int c21), .val (.int rk1), .val (.int rk2), .val (.ref x137), .val (.ref x144), .val (.ref b149), .val (.ref b165), .val (.int sn), .val (.int ex)] [(.ref b149), (.ref b165)])) rfl (by rw [hml]; rfl) (Steps.refl _) (argsL := [(.ref b149)]) (rest := []) (lenOf pd11 rfl) rfl (by show 2 * 0 + _ ≤ _; exact Nat.le_of_eq rfl) (hb hby at_225) (fun _ _ => ⟨rfl, q211_hh, (by decide : 8 + 0 ≤ _), (by decide : 18 + 0 ≤ _)⟩)
    dsimp only [Pt.U, Pt.locs, Pt.cells, Pt.slots] at X216 l216 y216 z216 st216 hQ216
    subst l216 y216 z216
    obtain ⟨rfl, N216q, q216_hh⟩ := hQ216
    have N216 := Fr.app N211 N216q
    have p217 : Go p.tables e below _ (T216.setTop (mkF m 230 #[.val (.int p1), .val (.int p2), .val (.int p3), .val (.int p4), .val (.int p5), .val (.int (1 : Int32)), .val (.int (1 : Int32)), .val (.int c10), .val (.int c11), .val (.int c20), .val (.int c21), .val (.int rk1), .val (.int rk2), .val (.ref x137), .val (.ref x144), .val (.ref b149), .val (.ref b165), .val (.int sn), .val (.int ex)] [(.int ex), (.int (own_se (if (nar .byte ((nar .char c20).toInt8.toInt32)) = (nar .byte ((nar .char c10).toInt8.toInt32)) then (1 : Int32) else (0 : Int32)) rk2 rk1))])) := fun t_ k_ => (gcT p215 st216) t_ (by
      refine XS.iload X216.here hx rfl (hb hby at_228) rfl ?_
      exact k_)
    have c218 : ((own_se (if (nar .byte ((nar .char c20).toInt8.toInt32)) = (nar .byte ((nar .char c10).toInt8.toInt32)) then (1 : Int32) else (0 : Int32)) rk2 rk1) = ex) := (own_f1 q10 q20 hsn hex).2
    have p219 : Go p.tables e below _ (T216.setTop (mkF m 239 #[.val (.int p1), .val (.int p2), .val (.int p3), .val (.int p4), .val (.int p5), .val (.int (1 : Int32)), .val (.int (1 : Int32)), .val (.int c10), .val (.int c11), .val (.int c20), .val (.int c21), .val (.int rk1), .val (.int rk2), .val (.ref x137), .val (.ref x144), .val (.ref b149), .val (.ref b165), .val (.int sn), .val (.int ex)] [(.ref b149), (.ref b149)])) := fun t_ k_ => p217 t_ (by
      refine XS.icmpYes X216.here hx rfl (pc0 := 230) (pc' := 235) rfl (hb hby at_230) rfl (teq c218).1 (by decide) (by decide) ?_
      refine XS.aload X216.here hx rfl (hb hby at_235) rfl rfl ?_
      refine XS.aload X216.here hx rfl (hb hby at_237) rfl rfl ?_
      exact k_)
    obtain ⟨cq220, kq220, q220a, q220b, q220c⟩ := isOf hZ q216_hh f212
    obtain ⟨_, _, ⟨T220, L220, k220, n220⟩, -, X220, ⟨Lc220, hQ220, l220, y220, z220⟩, st220⟩ := X216.virtualBack hx (y := (⟨"com/example/kuusi/kuusi/core/Symbol", "equals", "(Ljava/lang/Object;)Z"⟩ : MethodName)) (z := (⟨"com/example/kuusi/kuusi/core/Symbol", "equals", "(Ljava/lang/Object;)Z"⟩ : MethodName)) hown (mvT hZ (own_w hw 71 rfl)) (mvT hZ (own_w hw 72 rfl)) (notFace_of_selects (args := #[]) (mvT hZ (own_w hw 74 rfl))) (mvT hZ (own_w hw 74 rfl)) (mvT hZ (own_w hw 73 rfl)) (by decide) (backOf (W := 0) (rm13_s l Z a0 hw [] b149 T179.heap n0 (Nat.le_trans Z0 K180.1) ) hZ (own_w hw 75 rfl) (own_w hw 37 rfl) (by decide) (by decide)) q220a q220c (g := (mkF m 239 #[.val (.int p1), .val (.int p2), .val (.int p3), .val (.int p4), .val (.int p5), .val (.int (1 : Int32)), .val (.int (1 : Int32)), .val (.int c10), .val (.int c11), .val (.int c20), .val (.int c21), .val (.int rk1), .val (.int rk2), .val (.ref x137), .val (.ref x144), .val (.ref b149), .val (.ref b165), .val (.int sn), .val (.int ex)] [(.ref b149), (.ref b149)])) rfl (by rw [hml]; rfl) (Steps.refl _) (argsL := [(.ref b149)]) (rest := []) (lenOf pd11 rfl) rfl (by show 2 * 0 + _ ≤ _; exact Nat.le_of_eq rfl) (hb hby at_239) (fun _ _ => ⟨rfl, q216_hh, (by decide : 8 + 0 ≤ _), (by decide : 18 + 0 ≤ _)⟩)
    dsimp only [Pt.U, Pt.locs, Pt.cells, Pt.slots] at X220 l220 y220 z220 st220 hQ220
    subst l220 y220 z220
    obtain ⟨rfl, N220q, q220_hh⟩ := hQ220
    have N220 := Fr.app N216 N220q
    have p221 : Go p.tables e below _ (T220.setTop (mkF m 250 #[.val (.int p1), .val (.int p2), .val (.int p3), .val (.int p4), .val (.int p5), .val (.int (1 : Int32)), .val (.int (1 : Int32)), .val (.int c10), .val (.int c11), .val (.int c20), .val (.int c21), .val (.int rk1), .val (.int rk2), .val (.ref x137), .val (.ref x144), .val (.ref b149), .val (.ref b165), .val (.int sn), .val (.int ex)] [.null, (.ref b149)])) := fun t_ k_ => (gcT p219 st220) t_ (by
      refine XS.ifYes X220.here hx rfl (pc0 := 242) (pc' := 247) rfl (hb hby at_242) rfl ((if0 _ _).trans (feq (by decide : ¬ ((1 : Int32) = (0 : Int32)))).2) (by decide) (by decide) ?_
      refine XS.aload X220.here hx rfl (hb hby at_247) rfl rfl ?_
      refine XS.aconstNull X220.here hx rfl (hb hby at_249) ?_
      exact k_)
    obtain ⟨cq222, kq222, q222a, q222b, q222c⟩ := isOf hZ q220_hh f212
    obtain ⟨_, _, ⟨T222, L222, k222, n222⟩, -, X222, ⟨Lc222, hQ222, l222, y222, z222⟩, st222⟩ := X220.virtualBack hx (y := (⟨"com/example/kuusi/kuusi/core/Symbol", "equals", "(Ljava/lang/Object;)Z"⟩ : MethodName)) (z := (⟨"com/example/kuusi/kuusi/core/Symbol", "equals", "(Ljava/lang/Object;)Z"⟩ : MethodName)) hown (mvT hZ (own_w hw 71 rfl)) (mvT hZ (own_w hw 72 rfl)) (notFace_of_selects (args := #[]) (mvT hZ (own_w hw 74 rfl))) (mvT hZ (own_w hw 74 rfl)) (mvT hZ (own_w hw 73 rfl)) (by decide) (backOf (W := 0) (rm13_n l Z a0 hw [] b149 T179.heap n0 (Nat.le_trans Z0 K180.1) ) hZ (own_w hw 75 rfl) (own_w hw 37 rfl) (by decide) (by decide)) q222a q222c (g := (mkF m 250 #[.val (.int p1), .val (.int p2), .val (.int p3), .val (.int p4), .val (.int p5), .val (.int (1 : Int32)), .val (.int (1 : Int32)), .val (.int c10), .val (.int c11), .val (.int c20), .val (.int c21), .val (.int rk1), .val (.int rk2), .val (.ref x137), .val (.ref x144), .val (.ref b149), .val (.ref b165), .val (.int sn), .val (.int ex)] [.null, (.ref b149)])) rfl (by rw [hml]; rfl) (Steps.refl _) (argsL := [.null]) (rest := []) (lenOf pd11 rfl) rfl (by show 2 * 0 + _ ≤ _; exact Nat.le_of_eq rfl) (hb hby at_250) (fun _ _ => ⟨rfl, q220_hh, (by decide : 8 + 0 ≤ _), (by decide : 18 + 0 ≤ _)⟩)
    dsimp only [Pt.U, Pt.locs, Pt.cells, Pt.slots] at X222 l222 y222 z222 st222 hQ222
    subst l222 y222 z222
    obtain ⟨rfl, N222q, q222_hh⟩ := hQ222
    have N222 := Fr.app N220 N222q
    have p223 : Go p.tables e below _ (T222.setTop (mkF m 262 #[.val (.int p1), .val (.int p2), .val (.int p3), .val (.int p4), .val (.int p5), .val (.int (1 : Int32)), .val (.int (1 : Int32)), .val (.int c10), .val (.int c11), .val (.int c20), .val (.int c21), .val (.int rk1), .val (.int rk2), .val (.ref x137), .val (.ref x144), .val (.ref b149), .val (.ref b165), .val (.int sn), .val (.int ex)] [(.ref x137), (.ref b149)])) := fun t_ k_ => (gcT p221 st222) t_ (by
      refine XS.ifYes X222.here hx rfl (pc0 := 253) (pc' := 258) rfl (hb hby at_253) rfl ((if0 _ _).trans (teq (by decide : ((0 : Int32) = (0 : Int32)))).1) (by decide) (by decide) ?_
      refine XS.aload X222.here hx rfl (hb hby at_258) rfl rfl ?_
      refine XS.aload X222.here hx rfl (hb hby at_260) rfl rfl ?_
      exact k_)
    obtain ⟨cq224, kq224, q224a, q224b, q224c⟩ := isOf hZ q222_hh f212
    obtain ⟨_, _, ⟨T224, L224, k224, n224⟩, -, X224, ⟨Lc224, hQ224, l224, y224, z224⟩, st224⟩ := X222.virtualBack hx (y := (⟨"com/example/kuusi/kuusi/core/Symbol", "equals", "(Ljava/lang/Object;)Z"⟩ : MethodName)) (z := (⟨"com/example/kuusi/kuusi/core/Symbol", "equals", "(Ljava/lang/Object;)Z"⟩ : MethodName)) hown (mvT hZ (own_w hw 71 rfl)) (mvT hZ (own_w hw 72 rfl)) (notFace_of_selects (args := #[]) (mvT hZ (own_w hw 74 rfl))) (mvT hZ (own_w hw 74 rfl)) (mvT hZ (own_w hw 73 rfl)) (by decide) (backOf (W := 0) (rm13_o l Z a0 hw [] b149 x137 T179.heap n0 (Nat.le_trans Z0 K180.1) f206 (Ne.symm ne_x137_b149)) hZ (own_w hw 75 rfl) (own_w hw 37 rfl) (by decide) (by decide)) q224a q224c (g := (mkF m 262 #[.val (.int p1), .val (.int p2), .val (.int p3), .val (.int p4), .val (.int p5), .val (.int (1 : Int32)), .val (.int (1 : Int32)), .val (.int c10), .val (.int c11), .val (.int c20), .val (.int c21), .val (.int rk1), .val (.int rk2), .val (.ref x137), .val (.ref x144), .val (.ref b149), .val (.ref b165), .val (.int sn), .val (.int ex)] [(.ref x137), (.ref b149)])) rfl (by rw [hml]; rfl) (Steps.refl _) (argsL := [(.ref x137)]) (rest := []) (lenOf pd11 rfl) rfl (by show 2 * 0 + _ ≤ _; exact Nat.le_of_eq rfl) (hb hby at_262) (fun _ _ => ⟨rfl, q222_hh, (by decide : 8 + 0 ≤ _), (by decide : 18 + 0 ≤ _)⟩)
    dsimp only [Pt.U, Pt.locs, Pt.cells, Pt.slots] at X224 l224 y224 z224 st224 hQ224
    subst l224 y224 z224
    obtain ⟨rfl, N224q, q224_hh⟩ := hQ224
    have N224 := Fr.app N222 N224q
    have p225 : Go p.tables e below _ (T224.setTop (mkF m 271 #[.val (.int p1), .val (.int p2), .val (.int p3), .val (.int p4), .val (.int p5), .val (.int (1 : Int32)), .val (.int (1 : Int32)), .val (.int c10), .val (.int c11), .val (.int c20), .val (.int c21), .val (.int rk1), .val (.int rk2), .val (.ref x137), .val (.ref x144), .val (.ref b149), .val (.ref b165), .val (.int sn), .val (.int ex)] [(.int (1 : Int32))])) := fun t_ k_ => (gcT p223 st224) t_ (by
      refine XS.ifYes X224.here hx rfl (pc0 := 265) (pc' := 270) rfl (hb hby at_265) rfl ((if0 _ _).trans (teq (by decide : ((0 : Int32) = (0 : Int32)))).1) (by decide) (by decide) ?_
      refine XS.iconst X224.here hx rfl (hb hby at_270) ?_
      exact k_)
    obtain ⟨fs, hr, hrun, hended, hW, hsame⟩ := X224.leave (v := some (.int (1 : Int32))) (fun h => by rw [Bd.returns] at h; cases h)
    refine ⟨_, _, p225 _ (retN X224 hx (t := .boolean) Bd.returns (by simp) (hb hby at_271) hr), hrun, hended, _, _, rfl, ?_, ⟨_, rfl⟩, hW, hsame.mono (by decide) (by decide)⟩
    show Q0 Z p1 p2 p3 p4 p5 cs1 fm h0 n0 _ T224.heap _
    rw [q224_hh]
    exact ⟨rfl, N224⟩
  · have p226 : Go p.tables e below (s₁.setTop (entryFrame m #[(.int p1), (.int p2), (.int p3), (.int p4), (.int p5)] maxLocals)) (s₁.setTop (mkF m 106 #[.val (.int p1), .val (.int p2), .val (.int p3), .val (.int p4), .val (.int p5), .val (.int (1 : Int32)), .val (.int (2 : Int32)), .val (.int c10), .val (.int c11), .val (.int c20), .val (.int c21), .val (.int rk1), .val (.int rk2), .unset, .unset, .unset, .unset, .unset, .unset] [])) := by have z := p133; rw [r1, r2] at z; exact z
    have p227 : Go p.tables e below _ (s₁.setTop (mkF m 112 #[.val (.int p1), .val (.int p2), .val (.int p3), .val (.int p4), .val (.int p5), .val (.int (1 : Int32)), .val (.int (2 : Int32)), .val (.int c10), .val (.int c11), .val (.int c20), .val (.int c21), .val (.int rk1), .val (.int rk2), .unset, .unset, .unset, .unset, .unset, .unset] [(.int c11), (.int c10), (.int (1 : Int32))])) := fun t_ k_ => p226 t_ (by
      refine XS.iload X0.here hx rfl (hb hby at_106) rfl ?_
      refine XS.iload X0.here hx rfl (hb hby at_108) rfl ?_
      refine XS.iload X0.here hx rfl (hb hby at_110) rfl ?_
      exact k_)
    obtain ⟨_, _, ⟨T228, L228, k228, n228⟩, -, X228, ⟨Lc228, hQ228, l228, y228, z228⟩, st228⟩ := Jvm.LawKit.callS X0 hx (y := (⟨"com/example/kuusi/kuusi/core/SymbolEqualsPinLaw", "mk", "(ICC)Ljava/lang/String;"⟩ : MethodName)) hown (mvT hZ (own_w hw 1 rfl)) (mvT hZ (own_w hw 2 rfl)) (mvT hZ (own_w hw 3 rfl)) (mvT hZ (own_w hw 4 rfl)) (by decide) (backOf (W := 0) (rm1_1 l Z a0 hw [] c10 c11 cs1 fm h0 n0 (Nat.le_trans Z0 (Keep.refl h0 []).1) O1 G (by rw [own_narc _ q10.1 (own_le255 q10.2)]; exact q10.2)) hZ (own_w hw 4 rfl) (own_w hw 3 rfl) (by decide) (by decide)) (g := (mkF m 112 #[.val (.int p1), .val (.int p2), .val (.int p3), .val (.int p4), .val (.int p5), .val (.int (1 : Int32)), .val (.int (2 : Int32)), .val (.int c10), .val (.int c11), .val (.int c20), .val (.int c21), .val (.int rk1), .val (.int rk2), .unset, .unset, .unset, .unset, .unset, .unset] [(.int c11), (.int c10), (.int (1 : Int32))])) rfl (by rw [hml]; rfl) (argsL := [(.int (1 : Int32)), (.int c10), (.int c11)]) (rest := []) (lenOf pd12 rfl) rfl (by show 2 * 0 + _ ≤ _; exact Nat.le_of_eq rfl) (hb hby at_112) (fun _ _ => ⟨rfl, e0, (by decide : 0 + 3 ≤ _), (by decide : 0 + 6 ≤ _)⟩)
    dsimp only [Pt.U, Pt.locs, Pt.cells, Pt.slots] at X228 l228 y228 z228 st228 hQ228
    subst l228 y228 z228
    obtain ⟨x229, x230, x231, rfl, N228q, q228_K, q228_E, q228_c, q228_v, q228_xhash, q228_xhashIsZero, q228_g, q228_z, q228_g2, q228_z2, q228_V, q228_xb, q228_n⟩ := hQ228
    have N228 := Fr.app N0 N228q
    have K232 : Keep h0 T228.heap [] := (Keep.refl h0 []).trans q228_K all0
    have p233 : Go p.tables e below _ (T228.setTop (mkF m 123 #[.val (.int p1), .val (.int p2), .val (.int p3), .val (.int p4), .val (.int p5), .val (.int (1 : Int32)), .val (.int (2 : Int32)), .val (.int c10), .val (.int c11), .val (.int c20), .val (.int c21), .val (.int rk1), .val (.int rk2), .val (.ref x229), .unset, .unset, .unset, .unset, .unset] [(.int c21), (.int c20), (.int (2 : Int32))])) := fun t_ k_ => (gc p227 st228) t_ (by
      refine XS.astore X228.here hx rfl (hb hby at_115) rfl rfl (l' := #[.val (.int p1), .val (.int p2), .val (.int p3), .val (.int p4), .val (.int p5), .val (.int (1 : Int32)), .val (.int (2 : Int32)), .val (.int c10), .val (.int c11), .val (.int c20), .val (.int c21), .val (.int rk1), .val (.int rk2), .val (.ref x229), .unset, .unset, .unset, .unset, .unset]) rfl ?_
      refine XS.iload X228.here hx rfl (hb hby at_117) rfl ?_
      refine XS.iload X228.here hx rfl (hb hby at_119) rfl ?_
      refine XS.iload X228.here hx rfl (hb hby at_121) rfl ?_
      exact k_)
    have f234 := (O1.keep q228_K all0)
    obtain ⟨_, _, ⟨T235, L235, k235, n235⟩, -, X235, ⟨Lc235, hQ235, l235, y235, z235⟩, st235⟩ := Jvm.LawKit.callS X228 hx (y := (⟨"com/example/kuusi/kuusi/core/SymbolEqualsPinLaw", "mk", "(ICC)Ljava/lang/String;"⟩ : MethodName)) hown (mvT hZ (own_w hw 1 rfl)) (mvT hZ (own_w hw 2 rfl)) (mvT hZ (own_w hw 3 rfl)) (mvT hZ (own_w hw 4 rfl)) (by decide) (backOf (W := 0) (rm1_2 l Z a0 hw [] c20 c21 cs1 fm T228.heap n0 (Nat.le_trans Z0 K232.1) f234 G (by rw [own_narc _ q20.1 (own_le255 q20.2)]; exact q20.2) (by rw [own_narc _ q21.1 (own_le255 q21.2)]; exact q21.2)) hZ (own_w hw 4 rfl) (own_w hw 3 rfl) (by decide) (by decide)) (g := (mkF m 123 #[.val (.int p1), .val (.int p2), .val (.int p3), .val (.int p4), .val (.int p5), .val (.int (1 : Int32)), .val (.int (2 : Int32)), .val (.int c10), .val (.int c11), .val (.int c20), .val (.int c21), .val (.int rk1), .val (.int rk2), .val (.ref x229), .unset, .unset, .unset, .unset, .unset] [(.int c21), (.int c20), (.int (2 : Int32))])) rfl (by rw [hml]; rfl) (argsL := [(.int (2 : Int32)), (.int c20), (.int c21)]) (rest := []) (lenOf pd12 rfl) rfl (by show 2 * 0 + _ ≤ _; exact Nat.le_of_eq rfl) (hb hby at_123) (fun _ _ => ⟨rfl, rfl, (by decide : 3 + 3 ≤ _), (by decide : 6 + 8 ≤ _)⟩)
    dsimp only [Pt.U, Pt.locs, Pt.cells, Pt.slots] at X235 l235 y235 z235 st235 hQ235
    subst l235 y235 z235
    obtain ⟨x236, x237, x238, rfl, N235q, q235_K, q235_E, q235_c, q235_v, q235_xhash, q235_xhashIsZero, q235_g, q235_z, q235_g2, q235_z2, q235_V, q235_xb, q235_n⟩ := hQ235
    have N235 := Fr.app N228 N235q
    have K239 : Keep h0 T235.heap [] := K232.trans q235_K all0
    have ne_x229_x236 : x229 ≠ x236 := Nat.ne_of_lt (Nat.lt_of_lt_of_le q228_E.lt q235_z)
    have ne_x230_x236 : x230 ≠ x236 := Nat.ne_of_lt (Nat.lt_of_lt_of_le q228_V.lt q235_z)
    have ne_x229_x237 : x229 ≠ x237 := Nat.ne_of_lt (Nat.lt_of_lt_of_le q228_E.lt q235_z2)
    have ne_x230_x237 : x230 ≠ x237 := Nat.ne_of_lt (Nat.lt_of_lt_of_le q228_V.lt q235_z2)
    have p240 : Go p.tables e below _ (T235.setTop (mkF m 128 #[.val (.int p1), .val (.int p2), .val (.int p3), .val (.int p4), .val (.int p5), .val (.int (1 : Int32)), .val (.int (2 : Int32)), .val (.int c10), .val (.int c11), .val (.int c20), .val (.int c21), .val (.int rk1), .val (.int rk2), .val (.ref x229), .val (.ref x236), .unset, .unset, .unset, .unset] [])) := fun t_ k_ => (gc p233 st235) t_ (by
      refine XS.astore X235.here hx rfl (hb hby at_126) rfl rfl (l' := #[.val (.int p1), .val (.int p2), .val (.int p3), .val (.int p4), .val (.int p5), .val (.int (1 : Int32)), .val (.int (2 : Int32)), .val (.int c10), .val (.int c11), .val (.int c20), .val (.int c21), .val (.int rk1), .val (.int rk2), .val (.ref x229), .val (.ref x236), .unset, .unset, .unset, .unset]) rfl ?_
      exact k_)
    obtain ⟨T241, h241, X241, e241, E241, A241, D241, -, st241⟩ := newO X235 hx hZ hown (own_w hw 35 rfl) (own_w hw 36 rfl) (own_w hw 37 rfl) rfl (g := (mkF m 128 #[.val (.int p1), .val (.int p2), .val (.int p3), .val (.int p4), .val (.int p5), .val (.int (1 : Int32)), .val (.int (2 : Int32)), .val (.int c10), .val (.int c11), .val (.int c20), .val (.int c21), .val (.int rk1), .val (.int rk2), .val (.ref x229), .val (.ref x236), .unset, .unset, .unset, .unset] [])) rfl (hb hby at_128) (by decide) (by decide)
    obtain ⟨b241, g241⟩ : ∃ z, z = T235.heap.size := ⟨_, rfl⟩
    rw [← g241] at A241 D241 st241
    have f242 := (q228_E.keep q235_K)
    have ne_x229_b241 : x229 ≠ b241 := Nat.ne_of_lt (Nat.lt_of_lt_of_le f242.lt (Nat.le_of_eq g241.symm))
    have f243 := (q228_V.keep q235_K nin0)
    have ne_x230_b241 : x230 ≠ b241 := Nat.ne_of_lt (Nat.lt_of_lt_of_le f243.lt (Nat.le_of_eq g241.symm))
    have ne_x236_b241 : x236 ≠ b241 := Nat.ne_of_lt (Nat.lt_of_lt_of_le q235_E.lt (Nat.le_of_eq g241.symm))
    have ne_x237_b241 : x237 ≠ b241 := Nat.ne_of_lt (Nat.lt_of_lt_of_le q235_V.lt (Nat.le_of_eq g241.symm))
    have ge_b241 : n0 ≤ b241 := Nat.le_trans (Nat.le_trans Z0 K239.1) (Nat.le_of_eq g241.symm)
    have sz_b241 : h0.size ≤ b241 := Nat.le_trans K239.1 (Nat.le_of_eq g241.symm)
    have K244 : Keep h0 h241 [] := K239.ext E241
    have F241_name : Fld Z h241 b241 "com/example/kuusi/kuusi/core/Symbol" "name" "Ljava/lang/String;" .null := D241 (Or.inr (own_w hw 48 rfl)) (ty := (.object "java/lang/String")) (by decide)
    have F241_rank : Fld Z h241 b241 "com/example/kuusi/kuusi/core/Symbol" "rank" "I" (.int (0 : Int32)) := D241 (Or.inr (own_w hw 50 rfl)) (ty := .int) (by decide)
    have F241_hash : Fld Z h241 b241 "com/example/kuusi/kuusi/core/Symbol" "hash" "I" (.int (0 : Int32)) := D241 (Or.inr (own_w hw 70 rfl)) (ty := .int) (by decide)
    have p245 : Go p.tables e below _ (T241.setTop (mkF m 136 #[.val (.int p1), .val (.int p2), .val (.int p3), .val (.int p4), .val (.int p5), .val (.int (1 : Int32)), .val (.int (2 : Int32)), .val (.int c10), .val (.int c11), .val (.int c20), .val (.int c21), .val (.int rk1), .val (.int rk2), .val (.ref x229), .val (.ref x236), .unset, .unset, .unset, .unset] [(.int rk1), (.ref x229), (.ref b241), (.ref b241)])) := fun t_ k_ => (gc p240 st241) t_ (by
      refine XS.dup X241.here hx rfl (hb hby at_131) rfl rfl ?_
      refine XS.aload X241.here hx rfl (hb hby at_132) rfl rfl ?_
      refine XS.iload X241.here hx rfl (hb hby at_134) rfl ?_
      exact k_)
    have f246 := ((f234.keep q235_K all0).ext E241)
    have f247 := (f242.ext E241)
    have f248 := ((q228_c.keep q235_K nin0).ext E241)
    have f249 := ((q228_v.keep q235_K nin0).ext E241)
    have f250 := ((q228_xhash.keep q235_K nin0).ext E241)
    have f251 := ((q228_xhashIsZero.keep q235_K nin0).ext E241)
    have f252 := (f243.ext E241)
    have f253 := ((q228_xb.keep q235_K).ext E241)
    obtain ⟨_, _, ⟨T254, L254, k254, n254⟩, -, X254, ⟨Lc254, hQ254, l254, y254, z254⟩, st254⟩ := X241.specialBack hx (y := (⟨"com/example/kuusi/kuusi/core/Symbol", "<init>", "(Ljava/lang/String;I)V"⟩ : MethodName)) rfl hown (mvT hZ (own_w hw 38 rfl)) (mvT hZ (own_w hw 39 rfl)) (mvT hZ (own_w hw 40 rfl)) (by decide) (backOf (W := 1) (rm8_1 l Z a0 hw [] b241 x229 rk1 x230 x231 (nar .byte ((nar .char c10).toInt8.toInt32)) cs1 fm h241 n0 (Nat.le_trans Z0 K244.1) f246 G F241_name F241_rank F241_hash A241 ge_b241 qr1 f247 f248 f249 f250 f251 f252 f253 q228_g (Ne.symm ne_x229_b241) (Ne.symm ne_x230_b241) q228_n) hZ (own_w hw 40 rfl) (own_w hw 37 rfl) (by decide) (by decide)) (g := (mkF m 136 #[.val (.int p1), .val (.int p2), .val (.int p3), .val (.int p4), .val (.int p5), .val (.int (1 : Int32)), .val (.int (2 : Int32)), .val (.int c10), .val (.int c11), .val (.int c20), .val (.int c21), .val (.int rk1), .val (.int rk2), .val (.ref x229), .val (.ref x236), .unset, .unset, .unset, .unset] [(.int rk1), (.ref x229), (.ref b241), (.ref b241)])) rfl (by rw [hml]; rfl) (Steps.refl _) (a := b241) (argsL := [(.ref x229), (.int rk1)]) (rest := [(.ref b241)]) (lenOf pd13 rfl) rfl (by show 2 * 0 + _ ≤ _; exact Nat.le_of_eq rfl) (hb hby at_136) (fun _ _ => ⟨rfl, e241, (by decide : 7 + 0 ≤ _), (by decide : 17 + 0 ≤ _)⟩)
    dsimp only [Pt.U, Pt.locs, Pt.cells, Pt.slots] at X254 l254 y254 z254 st254 hQ254
    subst l254 y254 z254
    obtain ⟨rfl, N254q, q254_K, q254_n, q254_r, q254_E, q254_E2, q254_c, q254_v⟩ := hQ254
    have N254 := Fr.app N235 N254q
    have K255 : Keep h0 T254.heap [] := K244.trans q254_K (allS (Or.inr sz_b241) (allS (Or.inr (Nat.le_trans (Keep.refl h0 []).1 q228_z)) all0))
    have p256 : Go p.tables e below _ (T254.setTop (mkF m 141 #[.val (.int p1), .val (.int p2), .val (.int p3), .val (.int p4), .val (.int p5), .val (.int (1 : Int32)), .val (.int (2 : Int32)), .val (.int c10), .val (.int c11), .val (.int c20), .val (.int c21), .val (.int rk1), .val (.int rk2), .val (.ref x229), .val (.ref x236), .val (.ref b241), .unset, .unset, .unset] [])) := fun t_ k_ => (gcT p245 st254) t_ (by
      refine XS.astore X254.here hx rfl (hb hby at_139) rfl rfl (l' := #[.val (.int p1), .val (.int p2), .val (.int p3), .val (.int p4), .val (.int p5), .val (.int (1 : Int32)), .val (.int (2 : Int32)), .val (.int c10), .val (.int c11), .val (.int c20), .val (.int c21), .val (.int rk1), .val (.int rk2), .val (.ref x229), .val (.ref x236), .val (.ref b241), .unset, .unset, .unset]) rfl ?_
      exact k_)
    obtain ⟨T257, h257, X257, e257, E257, A257, D257, -, st257⟩ := newO X254 hx hZ hown (own_w hw 35 rfl) (own_w hw 36 rfl) (own_w hw 37 rfl) rfl (g := (mkF m 141 #[.val (.int p1), .val (.int p2), .val (.int p3), .val (.int p4), .val (.int p5), .val (.int (1 : Int32)), .val (.int (2 : Int32)), .val (.int c10), .val (.int c11), .val (.int c20), .val (.int c21), .val (.int rk1), .val (.int rk2), .val (.ref x229), .val (.ref x236), .val (.ref b241), .unset, .unset, .unset] [])) rfl (hb hby at_141) (by decide) (by decide)
    obtain ⟨b257, g257⟩ : ∃ z, z = T254.heap.size := ⟨_, rfl⟩
    rw [← g257] at A257 D257 st257
    have ne_x229_b257 : x229 ≠ b257 := Nat.ne_of_lt (Nat.lt_of_lt_of_le q254_E2.lt (Nat.le_of_eq g257.symm))
    have f258 := (f252.keep q254_K (ninS ne_x230_b241 (ninS (Ne.symm q228_n) nin0)))
    have ne_x230_b257 : x230 ≠ b257 := Nat.ne_of_lt (Nat.lt_of_lt_of_le f258.lt (Nat.le_of_eq g257.symm))
    have f259 := ((q235_E.ext E241).keep q254_K)
    have ne_x236_b257 : x236 ≠ b257 := Nat.ne_of_lt (Nat.lt_of_lt_of_le f259.lt (Nat.le_of_eq g257.symm))
    have f260 := ((q235_V.ext E241).keep q254_K (ninS ne_x237_b241 (ninS (Ne.symm ne_x229_x237) nin0)))
    have ne_x237_b257 : x237 ≠ b257 := Nat.ne_of_lt (Nat.lt_of_lt_of_le f260.lt (Nat.le_of_eq g257.symm))
    have ne_b241_b257 : b241 ≠ b257 := Nat.ne_of_lt (Nat.lt_of_lt_of_le q254_E.lt (Nat.le_of_eq g257.symm))
    have ge_b257 : n0 ≤ b257 := Nat.le_trans (Nat.le_trans Z0 K255.1) (Nat.le_of_eq g257.symm)
    have sz_b257 : h0.size ≤ b257 := Nat.le_trans K255.1 (Nat.le_of_eq g257.symm)
    have K261 : Keep h0 h257 [] := K255.ext E257
    have F257_name : Fld Z h257 b257 "com/example/kuusi/kuusi/core/Symbol" "name" "Ljava/lang/String;" .null := D257 (Or.inr (own_w hw 48 rfl)) (ty := (.object "java/lang/String")) (by decide)
    have F257_rank : Fld Z h257 b257 "com/example/kuusi/kuusi/core/Symbol" "rank" "I" (.int (0 : Int32)) := D257 (Or.inr (own_w hw 50 rfl)) (ty := .int) (by decide)
    have F257_hash : Fld Z h257 b257 "com/example/kuusi/kuusi/core/Symbol" "hash" "I" (.int (0 : Int32)) := D257 (Or.inr (own_w hw 70 rfl)) (ty := .int) (by decide)
    have p262 : Go p.tables e below _ (T257.setTop (mkF m 149 #[.val (.int p1), .val (.int p2), .val (.int p3), .val (.int p4), .val (.int p5), .val (.int (1 : Int32)), .val (.int (2 : Int32)), .val (.int c10), .val (.int c11), .val (.int c20), .val (.int c21), .val (.int rk1), .val (.int rk2), .val (.ref x229), .val (.ref x236), .val (.ref b241), .unset, .unset, .unset] [(.int rk2), (.ref x236), (.ref b257), (.ref b257)])) := fun t_ k_ => (gc p256 st257) t_ (by
      refine XS.dup X257.here hx rfl (hb hby at_144) rfl rfl ?_
      refine XS.aload X257.here hx rfl (hb hby at_145) rfl rfl ?_
      refine XS.iload X257.here hx rfl (hb hby at_147) rfl ?_
      exact k_)
    have f263 := ((f246.keep q254_K (allS ge_b241 (allS q228_g all0))).ext E257)
    have f264 := (f259.ext E257)
    have f265 := (((q235_c.ext E241).keep q254_K (ninS ne_x236_b241 (ninS (Ne.symm ne_x229_x236) nin0))).ext E257)
    have f266 := (((q235_v.ext E241).keep q254_K (ninS ne_x236_b241 (ninS (Ne.symm ne_x229_x236) nin0))).ext E257)
    have f267 := (((q235_xhash.ext E241).keep q254_K (ninS ne_x236_b241 (ninS (Ne.symm ne_x229_x236) nin0))).ext E257)
    have f268 := (((q235_xhashIsZero.ext E241).keep q254_K (ninS ne_x236_b241 (ninS (Ne.symm ne_x229_x236) nin0))).ext E257)
    have f269 := (f260.ext E257)
    have f270 := (((q235_xb.ext E241).keep q254_K).ext E257)
    obtain ⟨_, _, ⟨T271, L271, k271, n271⟩, -, X271, ⟨Lc271, hQ271, l271, y271, z271⟩, st271⟩ := X257.specialBack hx (y := (⟨"com/example/kuusi/kuusi/core/Symbol", "<init>", "(Ljava/lang/String;I)V"⟩ : MethodName)) rfl hown (mvT hZ (own_w hw 38 rfl)) (mvT hZ (own_w hw 39 rfl)) (mvT hZ (own_w hw 40 rfl)) (by decide) (backOf (W := 1) (rm8_2 l Z a0 hw [] b257 x236 rk2 x237 x238 (nar .byte ((nar .char c20).toInt8.toInt32)) (nar .byte ((nar .char c21).toInt8.toInt32)) cs1 fm h257 n0 (Nat.le_trans Z0 K261.1) f263 G F257_name F257_rank F257_hash A257 ge_b257 qr2 f264 f265 f266 f267 f268 f269 f270 q235_g (Ne.symm ne_x236_b257) (Ne.symm ne_x237_b257) q235_n) hZ (own_w hw 40 rfl) (own_w hw 37 rfl) (by decide) (by decide)) (g := (mkF m 149 #[.val (.int p1), .val (.int p2), .val (.int p3), .val (.int p4), .val (.int p5), .val (.int (1 : Int32)), .val (.int (2 : Int32)), .val (.int c10), .val (.int c11), .val (.int c20), .val (.int c21), .val (.int rk1), .val (.int rk2), .val (.ref x229), .val (.ref x236), .val (.ref b241), .unset, .unset, .unset] [(.int rk2), (.ref x236), (.ref b257), (.ref b257)])) rfl (by rw [hml]; rfl) (Steps.refl _) (a := b257) (argsL := [(.ref x236), (.int rk2)]) (rest := [(.ref b257)]) (lenOf pd13 rfl) rfl (by show 2 * 0 + _ ≤ _; exact Nat.le_of_eq rfl) (hb hby at_149) (fun _ _ => ⟨rfl, e257, (by decide : 8 + 0 ≤ _), (by decide : 20 + 0 ≤ _)⟩)
    dsimp only [Pt.U, Pt.locs, Pt.cells, Pt.slots] at X271 l271 y271 z271 st271 hQ271
    subst l271 y271 z271
    obtain ⟨rfl, N271q, q271_K, q271_n, q271_r, q271_E, q271_E2, q271_c, q271_v⟩ := hQ271
    have N271 := Fr.app N254 N271q
    have K272 : Keep h0 T271.heap [] := K261.trans q271_K (allS (Or.inr sz_b257) (allS (Or.inr (Nat.le_trans K232.1 q235_z)) all0))
    have p273 : Go p.tables e below _ (T271.setTop (mkF m 211 #[.val (.int p1), .val (.int p2), .val (.int p3), .val (.int p4), .val (.int p5), .val (.int (1 : Int32)), .val (.int (2 : Int32)), .val (.int c10), .val (.int c11), .val (.int c20), .val (.int c21), .val (.int rk1), .val (.int rk2), .val (.ref x229), .val (.ref x236), .val (.ref b241), .val (.ref b257), .val (.int (0 : Int32)), .val (.int (0 : Int32))] [(.ref b257), (.ref b241)])) := fun t_ k_ => (gcT p262 st271) t_ (by
      refine XS.astore X271.here hx rfl (hb hby at_152) rfl rfl (l' := #[.val (.int p1), .val (.int p2), .val (.int p3), .val (.int p4), .val (.int p5), .val (.int (1 : Int32)), .val (.int (2 : Int32)), .val (.int c10), .val (.int c11), .val (.int c20), .val (.int c21), .val (.int rk1), .val (.int rk2), .val (.ref x229), .val (.ref x236), .val (.ref b241), .val (.ref b257), .unset, .unset]) rfl ?_
      refine XS.iload X271.here hx rfl (hb hby at_154) rfl ?_
      refine XS.iload X271.here hx rfl (hb hby at_156) rfl ?_
      refine XS.icmpYes X271.here hx rfl (pc0 := 158) (pc' := 185) rfl (hb hby at_158) rfl (feq (by decide : ¬ ((1 : Int32) = (2 : Int32)))).2 (by decide) (by decide) ?_
      refine XS.iconst X271.here hx rfl (hb hby at_185) ?_
      refine XS.istore X271.here hx rfl (hb hby at_186) rfl (l' := #[.val (.int p1), .val (.int p2), .val (.int p3), .val (.int p4), .val (.int p5), .val (.int (1 : Int32)), .val (.int (2 : Int32)), .val (.int c10), .val (.int c11), .val (.int c20), .val (.int c21), .val (.int rk1), .val (.int rk2), .val (.ref x229), .val (.ref x236), .val (.ref b241), .val (.ref b257), .val (.int (0 : Int32)), .unset]) rfl ?_
      refine XS.iload X271.here hx rfl (hb hby at_188) rfl ?_
      refine XS.ifYes X271.here hx rfl (pc0 := 190) (pc' := 204) rfl (hb hby at_190) rfl ((if0 _ _).trans (teq (by decide : ((0 : Int32) = (0 : Int32)))).1) (by decide) (by decide) ?_
      refine XS.iconst X271.here hx rfl (hb hby at_204) ?_
      refine XS.istore X271.here hx rfl (hb hby at_205) rfl (l' := #[.val (.int p1), .val (.int p2), .val (.int p3), .val (.int p4), .val (.int p5), .val (.int (1 : Int32)), .val (.int (2 : Int32)), .val (.int c10), .val (.int c11), .val (.int c20), .val (.int c21), .val (.int rk1), .val (.int rk2), .val (.ref x229), .val (.ref x236), .val (.ref b241), .val (.ref b257), .val (.int (0 : Int32)), .val (.int (0 : Int32))]) rfl ?_
      refine XS.aload X271.here hx rfl (hb hby at_207) rfl rfl ?_
      refine XS.aload X271.here hx rfl (hb hby at_209) rfl rfl ?_
      exact k_)
    have f274 := (f263.keep q271_K (allS ge_b257 (allS q235_g all0)))
    have f275 := ((q254_n.ext E257).keep q271_K (ninS ne_b241_b257 (ninS (Ne.symm ne_x236_b241) nin0)))
    have f276 := ((q254_r.ext E257).keep q271_K (ninS ne_b241_b257 (ninS (Ne.symm ne_x236_b241) nin0)))
    have f277 := ((q254_E2.ext E257).keep q271_K)
    have f278 := ((q254_c.ext E257).keep q271_K (ninS ne_x229_b257 (ninS ne_x229_x236 nin0)))
    have f279 := ((q254_v.ext E257).keep q271_K (ninS ne_x229_b257 (ninS ne_x229_x236 nin0)))
    have f280 := ((f258.ext E257).keep q271_K (ninS ne_x230_b257 (ninS ne_x230_x236 nin0)))
    have f281 := (f269.keep q271_K (ninS ne_x237_b257 (ninS (Ne.symm q235_n) nin0)))
    have f283 := ((q254_E.ext E257).keep q271_K)
    obtain ⟨cq282, kq282, q282a, q282b, q282c⟩ := isOf hZ rfl f283
    obtain ⟨_, _, ⟨T282, L282, k282, n282⟩, -, X282, ⟨Lc282, hQ282, l282, y282, z282⟩, st282⟩ := X271.virtualBack hx (y := (⟨"com/example/kuusi/kuusi/core/Symbol", "equals", "(Ljava/lang/Object;)Z"⟩ : MethodName)) (z := (⟨"com/example/kuusi/kuusi/core/Symbol", "equals", "(Ljava/lang/Object;)Z"⟩ : MethodName)) hown (mvT hZ (own_w hw 71 rfl)) (mvT hZ (own_w hw 72 rfl)) (notFace_of_selects (args := #[]) (mvT hZ (own_w hw 74 rfl))) (mvT hZ (own_w hw 74 rfl)) (mvT hZ (own_w hw 73 rfl)) (by decide) (backOf (W := 0) (rm13_12 l Z a0 hw [] b241 b257 x229 x236 rk1 rk2 x230 x237 x231 x238 (nar .byte ((nar .char c10).toInt8.toInt32)) (nar .byte ((nar .char c20).toInt8.toInt32)) (nar .byte ((nar .char c21).toInt8.toInt32)) cs1 fm T271.heap n0 (Nat.le_trans Z0 K272.1) f274 G q271_E ne_b241_b257 f275 q271_n f276 q271_r ne_x229_x236 f277 q271_E2 f278 q271_c f279 q271_v f280 f281) hZ (own_w hw 75 rfl) (own_w hw 37 rfl) (by decide) (by decide)) q282a q282c (g := (mkF m 211 #[.val (.int p1), .val (.int p2), .val (.int p3), .val (.int p4), .val (.int p5), .val (.int (1 : Int32)), .val (.int (2 : Int32)), .val (.int c10), .val (.int c11), .val (.int c20), .val (.int c21), .val (.int rk1), .val (.int rk2), .val (.ref x229), .val (.ref x236), .val (.ref b241), .val (.ref b257), .val (.int (0 : Int32)), .val (.int (0 : Int32))] [(.ref b257), (.ref b241)])) rfl (by rw [hml]; rfl) (Steps.refl _) (argsL := [(.ref b257)]) (rest := []) (lenOf pd11 rfl) rfl (by show 2 * 0 + _ ≤ _; exact Nat.le_of_eq rfl) (hb hby at_211) (fun _ _ => ⟨rfl, rfl, (by decide : 8 + 0 ≤ _), (by decide : 20 + 0 ≤ _)⟩)
    dsimp only [Pt.U, Pt.locs, Pt.cells, Pt.slots] at X282 l282 y282 z282 st282 hQ282
    subst l282 y282 z282
    obtain ⟨rfl, N282q, q282_hh⟩ := hQ282
    have N282 := Fr.app N271 N282q
    have p284 : Go p.tables e below _ (T282.setTop (mkF m 216 #[.val (.int p1), .val (.int p2), .val (.int p3), .val (.int p4), .val (.int p5), .val (.int (1 : Int32)), .val (.int (2 : Int32)), .val (.int c10), .val (.int c11), .val (.int c20), .val (.int c21), .val (.int rk1), .val (.int rk2), .val (.ref x229), .val (.ref x236), .val (.ref b241), .val (.ref b257), .val (.int (0 : Int32)), .val (.int (0 : Int32))] [(.int (0 : Int32)), (.int (own_se (0 : Int32) rk1 rk2))])) := fun t_ k_ => (gcT p273 st282) t_ (by
      refine XS.iload X282.here hx rfl (hb hby at_214) rfl ?_
      exact k_)
    have c285 : ((own_se (0 : Int32) rk1 rk2) = (0 : Int32)) := by simp [own_se]
    have p286 : Go p.tables e below _ (T282.setTop (mkF m 225 #[.val (.int p1), .val (.int p2), .val (.int p3), .val (.int p4), .val (.int p5), .val (.int (1 : Int32)), .val (.int (2 : Int32)), .val (.int c10), .val (.int c11), .val (.int c20), .val (.int c21), .val (.int rk1), .val (.int rk2), .val (.ref x229), .val (.ref x236), .val (.ref b241), .val (.ref b257), .val (.int (0 : Int32)), .val (.int (0 : Int32))] [(.ref b241), (.ref b257)])) := fun t_ k_ => p284 t_ (by
      refine XS.icmpYes X282.here hx rfl (pc0 := 216) (pc' := 221) rfl (hb hby at_216) rfl (teq c285).1 (by decide) (by decide) ?_
      refine XS.aload X282.here hx rfl (hb hby at_221) rfl rfl ?_
      refine XS.aload X282.here hx rfl (hb hby at_223) rfl rfl ?_
      exact k_)
    obtain ⟨cq287, kq287, q287a, q287b, q287c⟩ := isOf hZ q282_hh q271_E
    obtain ⟨_, _, ⟨T287, L287, k287, n287⟩, -, X287, ⟨Lc287, hQ287, l287, y287, z287⟩, st287⟩ := X282.virtualBack hx (y := (⟨"com/example/kuusi/kuusi/core/Symbol", "equals", "(Ljava/lang/Object;)Z"⟩ : MethodName)) (z := (⟨"com/example/kuusi/kuusi/core/Symbol", "equals", "(Ljava/lang/Object;)Z"⟩ : MethodName)) hown (mvT hZ (own_w hw 71 rfl)) (mvT hZ (own_w hw 72 rfl)) (notFace_of_selects (args := #[]) (mvT hZ (own_w hw 74 rfl))) (mvT hZ (own_w hw 74 rfl)) (mvT hZ (own_w hw 73 rfl)) (by decide) (backOf (W := 0) (rm13_21 l Z a0 hw [] b257 b241 x236 x229 rk2 rk1 x237 x230 x238 x231 (nar .byte ((nar .char c20).toInt8.toInt32)) (nar .byte ((nar .char c21).toInt8.toInt32)) (nar .byte ((nar .char c10).toInt8.toInt32)) cs1 fm T271.heap n0 (Nat.le_trans Z0 K272.1) f274 G f283 (Ne.symm ne_b241_b257) q271_n f275 q271_r f276 (Ne.symm ne_x229_x236) q271_E2 f277 q271_c f278 q271_v f279 f281 f280) hZ (own_w hw 75 rfl) (own_w hw 37 rfl) (by decide) (by decide)) q287a q287c (g := (mkF m 225 #[.val (.int p1), .val (.int p2), .val (.int p3), .val (.int p4), .val (.int p5), .val (.int (1 : Int32)), .val (.int (2 : Int32)), .val (.int c10), .val (.int c11), .val (.int c20), .val (.int c21), .val (.int rk1), .val (.int rk2), .val (.ref x229), .val (.ref x236), .val (.ref b241), .val (.ref b257), .val (.int (0 : Int32)), .val (.int (0 : Int32))] [(.ref b241), (.ref b257)])) rfl (by rw [hml]; rfl) (Steps.refl _) (argsL := [(.ref b241)]) (rest := []) (lenOf pd11 rfl) rfl (by show 2 * 0 + _ ≤ _; exact Nat.le_of_eq rfl) (hb hby at_225) (fun _ _ => ⟨rfl, q282_hh, (by decide : 8 + 0 ≤ _), (by decide : 20 + 0 ≤ _)⟩)
    dsimp only [Pt.U, Pt.locs, Pt.cells, Pt.slots] at X287 l287 y287 z287 st287 hQ287
    subst l287 y287 z287
    obtain ⟨rfl, N287q, q287_hh⟩ := hQ287
    have N287 := Fr.app N282 N287q
    have p288 : Go p.tables e below _ (T287.setTop (mkF m 230 #[.val (.int p1), .val (.int p2), .val (.int p3), .val (.int p4), .val (.int p5), .val (.int (1 : Int32)), .val (.int (2 : Int32)), .val (.int c10), .val (.int c11), .val (.int c20), .val (.int c21), .val (.int rk1), .val (.int rk2), .val (.ref x229), .val (.ref x236), .val (.ref b241), .val (.ref b257), .val (.int (0 : Int32)), .val (.int (0 : Int32))] [(.int (0 : Int32)), (.int (own_se (0 : Int32) rk2 rk1))])) := fun t_ k_ => (gcT p286 st287) t_ (by
      refine XS.iload X287.here hx rfl (hb hby at_228) rfl ?_
      exact k_)
    have c289 : ((own_se (0 : Int32) rk2 rk1) = (0 : Int32)) := by simp [own_se]
    have p290 : Go p.tables e below _ (T287.setTop (mkF m 239 #[.val (.int p1), .val (.int p2), .val (.int p3), .val (.int p4), .val (.int p5), .val (.int (1 : Int32)), .val (.int (2 : Int32)), .val (.int c10), .val (.int c11), .val (.int c20), .val (.int c21), .val (.int rk1), .val (.int rk2), .val (.ref x229), .val (.ref x236), .val (.ref b241), .val (.ref b257), .val (.int (0 : Int32)), .val (.int (0 : Int32))] [(.ref b241), (.ref b241)])) := fun t_ k_ => p288 t_ (by
      refine XS.icmpYes X287.here hx rfl (pc0 := 230) (pc' := 235) rfl (hb hby at_230) rfl (teq c289).1 (by decide) (by decide) ?_
      refine XS.aload X287.here hx rfl (hb hby at_235) rfl rfl ?_
      refine XS.aload X287.here hx rfl (hb hby at_237) rfl rfl ?_
      exact k_)
    obtain ⟨cq291, kq291, q291a, q291b, q291c⟩ := isOf hZ q287_hh f283
    obtain ⟨_, _, ⟨T291, L291, k291, n291⟩, -, X291, ⟨Lc291, hQ291, l291, y291, z291⟩, st291⟩ := X287.virtualBack hx (y := (⟨"com/example/kuusi/kuusi/core/Symbol", "equals", "(Ljava/lang/Object;)Z"⟩ : MethodName)) (z := (⟨"com/example/kuusi/kuusi/core/Symbol", "equals", "(Ljava/lang/Object;)Z"⟩ : MethodName)) hown (mvT hZ (own_w hw 71 rfl)) (mvT hZ (own_w hw 72 rfl)) (notFace_of_selects (args := #[]) (mvT hZ (own_w hw 74 rfl))) (mvT hZ (own_w hw 74 rfl)) (mvT hZ (own_w hw 73 rfl)) (by decide) (backOf (W := 0) (rm13_s l Z a0 hw [] b241 T271.heap n0 (Nat.le_trans Z0 K272.1) ) hZ (own_w hw 75 rfl) (own_w hw 37 rfl) (by decide) (by decide)) q291a q291c (g := (mkF m 239 #[.val (.int p1), .val (.int p2), .val (.int p3), .val (.int p4), .val (.int p5), .val (.int (1 : Int32)), .val (.int (2 : Int32)), .val (.int c10), .val (.int c11), .val (.int c20), .val (.int c21), .val (.int rk1), .val (.int rk2), .val (.ref x229), .val (.ref x236), .val (.ref b241), .val (.ref b257), .val (.int (0 : Int32)), .val (.int (0 : Int32))] [(.ref b241), (.ref b241)])) rfl (by rw [hml]; rfl) (Steps.refl _) (argsL := [(.ref b241)]) (rest := []) (lenOf pd11 rfl) rfl (by show 2 * 0 + _ ≤ _; exact Nat.le_of_eq rfl) (hb hby at_239) (fun _ _ => ⟨rfl, q287_hh, (by decide : 8 + 0 ≤ _), (by decide : 20 + 0 ≤ _)⟩)
    dsimp only [Pt.U, Pt.locs, Pt.cells, Pt.slots] at X291 l291 y291 z291 st291 hQ291
    subst l291 y291 z291
    obtain ⟨rfl, N291q, q291_hh⟩ := hQ291
    have N291 := Fr.app N287 N291q
    have p292 : Go p.tables e below _ (T291.setTop (mkF m 250 #[.val (.int p1), .val (.int p2), .val (.int p3), .val (.int p4), .val (.int p5), .val (.int (1 : Int32)), .val (.int (2 : Int32)), .val (.int c10), .val (.int c11), .val (.int c20), .val (.int c21), .val (.int rk1), .val (.int rk2), .val (.ref x229), .val (.ref x236), .val (.ref b241), .val (.ref b257), .val (.int (0 : Int32)), .val (.int (0 : Int32))] [.null, (.ref b241)])) := fun t_ k_ => (gcT p290 st291) t_ (by
      refine XS.ifYes X291.here hx rfl (pc0 := 242) (pc' := 247) rfl (hb hby at_242) rfl ((if0 _ _).trans (feq (by decide : ¬ ((1 : Int32) = (0 : Int32)))).2) (by decide) (by decide) ?_
      refine XS.aload X291.here hx rfl (hb hby at_247) rfl rfl ?_
      refine XS.aconstNull X291.here hx rfl (hb hby at_249) ?_
      exact k_)
    obtain ⟨cq293, kq293, q293a, q293b, q293c⟩ := isOf hZ q291_hh f283
    obtain ⟨_, _, ⟨T293, L293, k293, n293⟩, -, X293, ⟨Lc293, hQ293, l293, y293, z293⟩, st293⟩ := X291.virtualBack hx (y := (⟨"com/example/kuusi/kuusi/core/Symbol", "equals", "(Ljava/lang/Object;)Z"⟩ : MethodName)) (z := (⟨"com/example/kuusi/kuusi/core/Symbol", "equals", "(Ljava/lang/Object;)Z"⟩ : MethodName)) hown (mvT hZ (own_w hw 71 rfl)) (mvT hZ (own_w hw 72 rfl)) (notFace_of_selects (args := #[]) (mvT hZ (own_w hw 74 rfl))) (mvT hZ (own_w hw 74 rfl)) (mvT hZ (own_w hw 73 rfl)) (by decide) (backOf (W := 0) (rm13_n l Z a0 hw [] b241 T271.heap n0 (Nat.le_trans Z0 K272.1) ) hZ (own_w hw 75 rfl) (own_w hw 37 rfl) (by decide) (by decide)) q293a q293c (g := (mkF m 250 #[.val (.int p1), .val (.int p2), .val (.int p3), .val (.int p4), .val (.int p5), .val (.int (1 : Int32)), .val (.int (2 : Int32)), .val (.int c10), .val (.int c11), .val (.int c20), .val (.int c21), .val (.int rk1), .val (.int rk2), .val (.ref x229), .val (.ref x236), .val (.ref b241), .val (.ref b257), .val (.int (0 : Int32)), .val (.int (0 : Int32))] [.null, (.ref b241)])) rfl (by rw [hml]; rfl) (Steps.refl _) (argsL := [.null]) (rest := []) (lenOf pd11 rfl) rfl (by show 2 * 0 + _ ≤ _; exact Nat.le_of_eq rfl) (hb hby at_250) (fun _ _ => ⟨rfl, q291_hh, (by decide : 8 + 0 ≤ _), (by decide : 20 + 0 ≤ _)⟩)
    dsimp only [Pt.U, Pt.locs, Pt.cells, Pt.slots] at X293 l293 y293 z293 st293 hQ293
    subst l293 y293 z293
    obtain ⟨rfl, N293q, q293_hh⟩ := hQ293
    have N293 := Fr.app N291 N293q
    have p294 : Go p.tables e below _ (T293.setTop (mkF m 262 #[.val (.int p1), .val (.int p2), .val (.int p3), .val (.int p4), .val (.int p5), .val (.int (1 : Int32)), .val (.int (2 : Int32)), .val (.int c10), .val (.int c11), .val (.int c20), .val (.int c21), .val (.int rk1), .val (.int rk2), .val (.ref x229), .val (.ref x236), .val (.ref b241), .val (.ref b257), .val (.int (0 : Int32)), .val (.int (0 : Int32))] [(.ref x229), (.ref b241)])) := fun t_ k_ => (gcT p292 st293) t_ (by
      refine XS.ifYes X293.here hx rfl (pc0 := 253) (pc' := 258) rfl (hb hby at_253) rfl ((if0 _ _).trans (teq (by decide : ((0 : Int32) = (0 : Int32)))).1) (by decide) (by decide) ?_
      refine XS.aload X293.here hx rfl (hb hby at_258) rfl rfl ?_
      refine XS.aload X293.here hx rfl (hb hby at_260) rfl rfl ?_
      exact k_)
    obtain ⟨cq295, kq295, q295a, q295b, q295c⟩ := isOf hZ q293_hh f283
    obtain ⟨_, _, ⟨T295, L295, k295, n295⟩, -, X295, ⟨Lc295, hQ295, l295, y295, z295⟩, st295⟩ := X293.virtualBack hx (y := (⟨"com/example/kuusi/kuusi/core/Symbol", "equals", "(Ljava/lang/Object;)Z"⟩ : MethodName)) (z := (⟨"com/example/kuusi/kuusi/core/Symbol", "equals", "(Ljava/lang/Object;)Z"⟩ : MethodName)) hown (mvT hZ (own_w hw 71 rfl)) (mvT hZ (own_w hw 72 rfl)) (notFace_of_selects (args := #[]) (mvT hZ (own_w hw 74 rfl))) (mvT hZ (own_w hw 74 rfl)) (mvT hZ (own_w hw 73 rfl)) (by decide) (backOf (W := 0) (rm13_o l Z a0 hw [] b241 x229 T271.heap n0 (Nat.le_trans Z0 K272.1) f277 (Ne.symm ne_x229_b241)) hZ (own_w hw 75 rfl) (own_w hw 37 rfl) (by decide) (by decide)) q295a q295c (g := (mkF m 262 #[.val (.int p1), .val (.int p2), .val (.int p3), .val (.int p4), .val (.int p5), .val (.int (1 : Int32)), .val (.int (2 : Int32)), .val (.int c10), .val (.int c11), .val (.int c20), .val (.int c21), .val (.int rk1), .val (.int rk2), .val (.ref x229), .val (.ref x236), .val (.ref b241), .val (.ref b257), .val (.int (0 : Int32)), .val (.int (0 : Int32))] [(.ref x229), (.ref b241)])) rfl (by rw [hml]; rfl) (Steps.refl _) (argsL := [(.ref x229)]) (rest := []) (lenOf pd11 rfl) rfl (by show 2 * 0 + _ ≤ _; exact Nat.le_of_eq rfl) (hb hby at_262) (fun _ _ => ⟨rfl, q293_hh, (by decide : 8 + 0 ≤ _), (by decide : 20 + 0 ≤ _)⟩)
    dsimp only [Pt.U, Pt.locs, Pt.cells, Pt.slots] at X295 l295 y295 z295 st295 hQ295
    subst l295 y295 z295
    obtain ⟨rfl, N295q, q295_hh⟩ := hQ295
    have N295 := Fr.app N293 N295q
    have p296 : Go p.tables e below _ (T295.setTop (mkF m 271 #[.val (.int p1), .val (.int p2), .val (.int p3), .val (.int p4), .val (.int p5), .val (.int (1 : Int32)), .val (.int (2 : Int32)), .val (.int c10), .val (.int c11), .val (.int c20), .val (.int c21), .val (.int rk1), .val (.int rk2), .val (.ref x229), .val (.ref x236), .val (.ref b241), .val (.ref b257), .val (.int (0 : Int32)), .val (.int (0 : Int32))] [(.int (1 : Int32))])) := fun t_ k_ => (gcT p294 st295) t_ (by
      refine XS.ifYes X295.here hx rfl (pc0 := 265) (pc' := 270) rfl (hb hby at_265) rfl ((if0 _ _).trans (teq (by decide : ((0 : Int32) = (0 : Int32)))).1) (by decide) (by decide) ?_
      refine XS.iconst X295.here hx rfl (hb hby at_270) ?_
      exact k_)
    obtain ⟨fs, hr, hrun, hended, hW, hsame⟩ := X295.leave (v := some (.int (1 : Int32))) (fun h => by rw [Bd.returns] at h; cases h)
    refine ⟨_, _, p296 _ (retN X295 hx (t := .boolean) Bd.returns (by simp) (hb hby at_271) hr), hrun, hended, _, _, rfl, ?_, ⟨_, rfl⟩, hW, hsame.mono (by decide) (by decide)⟩
    show Q0 Z p1 p2 p3 p4 p5 cs1 fm h0 n0 _ T295.heap _
    rw [q295_hh]
    exact ⟨rfl, N295⟩
  · have p297 : Go p.tables e below (s₁.setTop (entryFrame m #[(.int p1), (.int p2), (.int p3), (.int p4), (.int p5)] maxLocals)) (s₁.setTop (mkF m 106 #[.val (.int p1), .val (.int p2), .val (.int p3), .val (.int p4), .val (.int p5), .val (.int (2 : Int32)), .val (.int (1 : Int32)), .val (.int c10), .val (.int c11), .val (.int c20), .val (.int c21), .val (.int rk1), .val (.int rk2), .unset, .unset, .unset, .unset, .unset, .unset] [])) := by have z := p133; rw [r1, r2] at z; exact z
    have p298 : Go p.tables e below _ (s₁.setTop (mkF m 112 #[.val (.int p1), .val (.int p2), .val (.int p3), .val (.int p4), .val (.int p5), .val (.int (2 : Int32)), .val (.int (1 : Int32)), .val (.int c10), .val (.int c11), .val (.int c20), .val (.int c21), .val (.int rk1), .val (.int rk2), .unset, .unset, .unset, .unset, .unset, .unset] [(.int c11), (.int c10), (.int (2 : Int32))])) := fun t_ k_ => p297 t_ (by
      refine XS.iload X0.here hx rfl (hb hby at_106) rfl ?_
      refine XS.iload X0.here hx rfl (hb hby at_108) rfl ?_
      refine XS.iload X0.here hx rfl (hb hby at_110) rfl ?_
      exact k_)
    obtain ⟨_, _, ⟨T299, L299, k299, n299⟩, -, X299, ⟨Lc299, hQ299, l299, y299, z299⟩, st299⟩ := Jvm.LawKit.callS X0 hx (y := (⟨"com/example/kuusi/kuusi/core/SymbolEqualsPinLaw", "mk", "(ICC)Ljava/lang/String;"⟩ : MethodName)) hown (mvT hZ (own_w hw 1 rfl)) (mvT hZ (own_w hw 2 rfl)) (mvT hZ (own_w hw 3 rfl)) (mvT hZ (own_w hw 4 rfl)) (by decide) (backOf (W := 0) (rm1_2 l Z a0 hw [] c10 c11 cs1 fm h0 n0 (Nat.le_trans Z0 (Keep.refl h0 []).1) O1 G (by rw [own_narc _ q10.1 (own_le255 q10.2)]; exact q10.2) (by rw [own_narc _ q11.1 (own_le255 q11.2)]; exact q11.2)) hZ (own_w hw 4 rfl) (own_w hw 3 rfl) (by decide) (by decide)) (g := (mkF m 112 #[.val (.int p1), .val (.int p2), .val (.int p3), .val (.int p4), .val (.int p5), .val (.int (2 : Int32)), .val (.int (1 : Int32)), .val (.int c10), .val (.int c11), .val (.int c20), .val (.int c21), .val (.int rk1), .val (.int rk2), .unset, .unset, .unset, .unset, .unset, .unset] [(.int c11), (.int c10), (.int (2 : Int32))])) rfl (by rw [hml]; rfl) (argsL := [(.int (2 : Int32)), (.int c10), (.int c11)]) (rest := []) (lenOf pd12 rfl) rfl (by show 2 * 0 + _ ≤ _; exact Nat.le_of_eq rfl) (hb hby at_112) (fun _ _ => ⟨rfl, e0, (by decide : 0 + 3 ≤ _), (by decide : 0 + 8 ≤ _)⟩)
    dsimp only [Pt.U, Pt.locs, Pt.cells, Pt.slots] at X299 l299 y299 z299 st299 hQ299
    subst l299 y299 z299
    obtain ⟨x300, x301, x302, rfl, N299q, q299_K, q299_E, q299_c, q299_v, q299_xhash, q299_xhashIsZero, q299_g, q299_z, q299_g2, q299_z2, q299_V, q299_xb, q299_n⟩ := hQ299
    have N299 := Fr.app N0 N299q
    have K303 : Keep h0 T299.heap [] := (Keep.refl h0 []).trans q299_K all0
    have p304 : Go p.tables e below _ (T299.setTop (mkF m 123 #[.val (.int p1), .val (.int p2), .val (.int p3), .val (.int p4), .val (.int p5), .val (.int (2 : Int32)), .val (.int (1 : Int32)), .val (.int c10), .val (.int c11), .val (.int c20), .val (.int c21), .val (.int rk1), .val (.int rk2), .val (.ref x300), .unset, .unset, .unset, .unset, .unset] [(.int c21), (.int c20), (.int (1 : Int32))])) := fun t_ k_ => (gc p298 st299) t_ (by
      refine XS.astore X299.here hx rfl (hb hby at_115) rfl rfl (l' := #[.val (.int p1), .val (.int p2), .val (.int p3), .val (.int p4), .val (.int p5), .val (.int (2 : Int32)), .val (.int (1 : Int32)), .val (.int c10), .val (.int c11), .val (.int c20), .val (.int c21), .val (.int rk1), .val (.int rk2), .val (.ref x300), .unset, .unset, .unset, .unset, .unset]) rfl ?_
      refine XS.iload X299.here hx rfl (hb hby at_117) rfl ?_
      refine XS.iload X299.here hx rfl (hb hby at_119) rfl ?_
      refine XS.iload X299.here hx rfl (hb hby at_121) rfl ?_
      exact k_)
    have f305 := (O1.keep q299_K all0)
    obtain ⟨_, _, ⟨T306, L306, k306, n306⟩, -, X306, ⟨Lc306, hQ306, l306, y306, z306⟩, st306⟩ := Jvm.LawKit.callS X299 hx (y := (⟨"com/example/kuusi/kuusi/core/SymbolEqualsPinLaw", "mk", "(ICC)Ljava/lang/String;"⟩ : MethodName)) hown (mvT hZ (own_w hw 1 rfl)) (mvT hZ (own_w hw 2 rfl)) (mvT hZ (own_w hw 3 rfl)) (mvT hZ (own_w hw 4 rfl)) (by decide) (backOf (W := 0) (rm1_1 l Z a0 hw [] c20 c21 cs1 fm T299.heap n0 (Nat.le_trans Z0 K303.1) f305 G (by rw [own_narc _ q20.1 (own_le255 q20.2)]; exact q20.2)) hZ (own_w hw 4 rfl) (own_w hw 3 rfl) (by decide) (by decide)) (g := (mkF m 123 #[.val (.int p1), .val (.int p2), .val (.int p3), .val (.int p4), .val (.int p5), .val (.int (2 : Int32)), .val (.int (1 : Int32)), .val (.int c10), .val (.int c11), .val (.int c20), .val (.int c21), .val (.int rk1), .val (.int rk2), .val (.ref x300), .unset, .unset, .unset, .unset, .unset] [(.int c21), (.int c20), (.int (1 : Int32))])) rfl (by rw [hml]; rfl) (argsL := [(.int (1 : Int32)), (.int c20), (.int c21)]) (rest := []) (lenOf pd12 rfl) rfl (by show 2 * 0 + _ ≤ _; exact Nat.le_of_eq rfl) (hb hby at_123) (fun _ _ => ⟨rfl, rfl, (by decide : 3 + 3 ≤ _), (by decide : 8 + 6 ≤ _)⟩)
    dsimp only [Pt.U, Pt.locs, Pt.cells, Pt.slots] at X306 l306 y306 z306 st306 hQ306
    subst l306 y306 z306
    obtain ⟨x307, x308, x309, rfl, N306q, q306_K, q306_E, q306_c, q306_v, q306_xhash, q306_xhashIsZero, q306_g, q306_z, q306_g2, q306_z2, q306_V, q306_xb, q306_n⟩ := hQ306
    have N306 := Fr.app N299 N306q
    have K310 : Keep h0 T306.heap [] := K303.trans q306_K all0
    have ne_x300_x307 : x300 ≠ x307 := Nat.ne_of_lt (Nat.lt_of_lt_of_le q299_E.lt q306_z)
    have ne_x301_x307 : x301 ≠ x307 := Nat.ne_of_lt (Nat.lt_of_lt_of_le q299_V.lt q306_z)
    have ne_x300_x308 : x300 ≠ x308 := Nat.ne_of_lt (Nat.lt_of_lt_of_le q299_E.lt q306_z2)
    have ne_x301_x308 : x301 ≠ x308 := Nat.ne_of_lt (Nat.lt_of_lt_of_le q299_V.lt q306_z2)
    have p311 : Go p.tables e below _ (T306.setTop (mkF m 128 #[.val (.int p1), .val (.int p2), .val (.int p3), .val (.int p4), .val (.int p5), .val (.int (2 : Int32)), .val (.int (1 : Int32)), .val (.int c10), .val (.int c11), .val (.int c20), .val (.int c21), .val (.int rk1), .val (.int rk2), .val (.ref x300), .val (.ref x307), .unset, .unset, .unset, .unset] [])) := fun t_ k_ => (gc p304 st306) t_ (by
      refine XS.astore X306.here hx rfl (hb hby at_126) rfl rfl (l' := #[.val (.int p1), .val (.int p2), .val (.int p3), .val (.int p4), .val (.int p5), .val (.int (2 : Int32)), .val (.int (1 : Int32)), .val (.int c10), .val (.int c11), .val (.int c20), .val (.int c21), .val (.int rk1), .val (.int rk2), .val (.ref x300), .val (.ref x307), .unset, .unset, .unset, .unset]) rfl ?_
      exact k_)
    obtain ⟨T312, h312, X312, e312, E312, A312, D312, -, st312⟩ := newO X306 hx hZ hown (own_w hw 35 rfl) (own_w hw 36 rfl) (own_w hw 37 rfl) rfl (g := (mkF m 128 #[.val (.int p1), .val (.int p2), .val (.int p3), .val (.int p4), .val (.int p5), .val (.int (2 : Int32)), .val (.int (1 : Int32)), .val (.int c10), .val (.int c11), .val (.int c20), .val (.int c21), .val (.int rk1), .val (.int rk2), .val (.ref x300), .val (.ref x307), .unset, .unset, .unset, .unset] [])) rfl (hb hby at_128) (by decide) (by decide)
    obtain ⟨b312, g312⟩ : ∃ z, z = T306.heap.size := ⟨_, rfl⟩
    rw [← g312] at A312 D312 st312
    have f313 := (q299_E.keep q306_K)
    have ne_x300_b312 : x300 ≠ b312 := Nat.ne_of_lt (Nat.lt_of_lt_of_le f313.lt (Nat.le_of_eq g312.symm))
    have f314 := (q299_V.keep q306_K nin0)
    have ne_x301_b312 : x301 ≠ b312 := Nat.ne_of_lt (Nat.lt_of_lt_of_le f314.lt (Nat.le_of_eq g312.symm))
    have ne_x307_b312 : x307 ≠ b312 := Nat.ne_of_lt (Nat.lt_of_lt_of_le q306_E.lt (Nat.le_of_eq g312.symm))
    have ne_x308_b312 : x308 ≠ b312 := Nat.ne_of_lt (Nat.lt_of_lt_of_le q306_V.lt (Nat.le_of_eq g312.symm))
    have ge_b312 : n0 ≤ b312 := Nat.le_trans (Nat.le_trans Z0 K310.1) (Nat.le_of_eq g312.symm)
    have sz_b312 : h0.size ≤ b312 := Nat.le_trans K310.1 (Nat.le_of_eq g312.symm)
    have K315 : Keep h0 h312 [] := K310.ext E312
    have F312_name : Fld Z h312 b312 "com/example/kuusi/kuusi/core/Symbol" "name" "Ljava/lang/String;" .null := D312 (Or.inr (own_w hw 48 rfl)) (ty := (.object "java/lang/String")) (by decide)
    have F312_rank : Fld Z h312 b312 "com/example/kuusi/kuusi/core/Symbol" "rank" "I" (.int (0 : Int32)) := D312 (Or.inr (own_w hw 50 rfl)) (ty := .int) (by decide)
    have F312_hash : Fld Z h312 b312 "com/example/kuusi/kuusi/core/Symbol" "hash" "I" (.int (0 : Int32)) := D312 (Or.inr (own_w hw 70 rfl)) (ty := .int) (by decide)
    have p316 : Go p.tables e below _ (T312.setTop (mkF m 136 #[.val (.int p1), .val (.int p2), .val (.int p3), .val (.int p4), .val (.int p5), .val (.int (2 : Int32)), .val (.int (1 : Int32)), .val (.int c10), .val (.int c11), .val (.int c20), .val (.int c21), .val (.int rk1), .val (.int rk2), .val (.ref x300), .val (.ref x307), .unset, .unset, .unset, .unset] [(.int rk1), (.ref x300), (.ref b312), (.ref b312)])) := fun t_ k_ => (gc p311 st312) t_ (by
      refine XS.dup X312.here hx rfl (hb hby at_131) rfl rfl ?_
      refine XS.aload X312.here hx rfl (hb hby at_132) rfl rfl ?_
      refine XS.iload X312.here hx rfl (hb hby at_134) rfl ?_
      exact k_)
    have f317 := ((f305.keep q306_K all0).ext E312)
    have f318 := (f313.ext E312)
    have f319 := ((q299_c.keep q306_K nin0).ext E312)
    have f320 := ((q299_v.keep q306_K nin0).ext E312)
    have f321 := ((q299_xhash.keep q306_K nin0).ext E312)
    have f322 := ((q299_xhashIsZero.keep q306_K nin0).ext E312)
    have f323 := (f314.ext E312)
    have f324 := ((q299_xb.keep q306_K).ext E312)
    obtain ⟨_, _, ⟨T325, L325, k325, n325⟩, -, X325, ⟨Lc325, hQ325, l325, y325, z325⟩, st325⟩ := X312.specialBack hx (y := (⟨"com/example/kuusi/kuusi/core/Symbol", "<init>", "(Ljava/lang/String;I)V"⟩ : MethodName)) rfl hown (mvT hZ (own_w hw 38 rfl)) (mvT hZ (own_w hw 39 rfl)) (mvT hZ (own_w hw 40 rfl)) (by decide) (backOf (W := 1) (rm8_2 l Z a0 hw [] b312 x300 rk1 x301 x302 (nar .byte ((nar .char c10).toInt8.toInt32)) (nar .byte ((nar .char c11).toInt8.toInt32)) cs1 fm h312 n0 (Nat.le_trans Z0 K315.1) f317 G F312_name F312_rank F312_hash A312 ge_b312 qr1 f318 f319 f320 f321 f322 f323 f324 q299_g (Ne.symm ne_x300_b312) (Ne.symm ne_x301_b312) q299_n) hZ (own_w hw 40 rfl) (own_w hw 37 rfl) (by decide) (by decide)) (g := (mkF m 136 #[.val (.int p1), .val (.int p2), .val (.int p3), .val (.int p4), .val (.int p5), .val (.int (2 : Int32)), .val (.int (1 : Int32)), .val (.int c10), .val (.int c11), .val (.int c20), .val (.int c21), .val (.int rk1), .val (.int rk2), .val (.ref x300), .val (.ref x307), .unset, .unset, .unset, .unset] [(.int rk1), (.ref x300), (.ref b312), (.ref b312)])) rfl (by rw [hml]; rfl) (Steps.refl _) (a := b312) (argsL := [(.ref x300), (.int rk1)]) (rest := [(.ref b312)]) (lenOf pd13 rfl) rfl (by show 2 * 0 + _ ≤ _; exact Nat.le_of_eq rfl) (hb hby at_136) (fun _ _ => ⟨rfl, e312, (by decide : 7 + 0 ≤ _), (by decide : 17 + 0 ≤ _)⟩)
    dsimp only [Pt.U, Pt.locs, Pt.cells, Pt.slots] at X325 l325 y325 z325 st325 hQ325
    subst l325 y325 z325
    obtain ⟨rfl, N325q, q325_K, q325_n, q325_r, q325_E, q325_E2, q325_c, q325_v⟩ := hQ325
    have N325 := Fr.app N306 N325q
    have K326 : Keep h0 T325.heap [] := K315.trans q325_K (allS (Or.inr sz_b312) (allS (Or.inr (Nat.le_trans (Keep.refl h0 []).1 q299_z)) all0))
    have p327 : Go p.tables e below _ (T325.setTop (mkF m 141 #[.val (.int p1), .val (.int p2), .val (.int p3), .val (.int p4), .val (.int p5), .val (.int (2 : Int32)), .val (.int (1 : Int32)), .val (.int c10), .val (.int c11), .val (.int c20), .val (.int c21), .val (.int rk1), .val (.int rk2), .val (.ref x300), .val (.ref x307), .val (.ref b312), .unset, .unset, .unset] [])) := fun t_ k_ => (gcT p316 st325) t_ (by
      refine XS.astore X325.here hx rfl (hb hby at_139) rfl rfl (l' := #[.val (.int p1), .val (.int p2), .val (.int p3), .val (.int p4), .val (.int p5), .val (.int (2 : Int32)), .val (.int (1 : Int32)), .val (.int c10), .val (.int c11), .val (.int c20), .val (.int c21), .val (.int rk1), .val (.int rk2), .val (.ref x300), .val (.ref x307), .val (.ref b312), .unset, .unset, .unset]) rfl ?_
      exact k_)
    obtain ⟨T328, h328, X328, e328, E328, A328, D328, -, st328⟩ := newO X325 hx hZ hown (own_w hw 35 rfl) (own_w hw 36 rfl) (own_w hw 37 rfl) rfl (g := (mkF m 141 #[.val (.int p1), .val (.int p2), .val (.int p3), .val (.int p4), .val (.int p5), .val (.int (2 : Int32)), .val (.int (1 : Int32)), .val (.int c10), .val (.int c11), .val (.int c20), .val (.int c21), .val (.int rk1), .val (.int rk2), .val (.ref x300), .val (.ref x307), .val (.ref b312), .unset, .unset, .unset] [])) rfl (hb hby at_141) (by decide) (by decide)
    obtain ⟨b328, g328⟩ : ∃ z, z = T325.heap.size := ⟨_, rfl⟩
    rw [← g328] at A328 D328 st328
    have ne_x300_b328 : x300 ≠ b328 := Nat.ne_of_lt (Nat.lt_of_lt_of_le q325_E2.lt (Nat.le_of_eq g328.symm))
    have f329 := (f323.keep q325_K (ninS ne_x301_b312 (ninS (Ne.symm q299_n) nin0)))
    have ne_x301_b328 : x301 ≠ b328 := Nat.ne_of_lt (Nat.lt_of_lt_of_le f329.lt (Nat.le_of_eq g328.symm))
    have f330 := ((q306_E.ext E312).keep q325_K)
    have ne_x307_b328 : x307 ≠ b328 := Nat.ne_of_lt (Nat.lt_of_lt_of_le f330.lt (Nat.le_of_eq g328.symm))
    have f331 := ((q306_V.ext E312).keep q325_K (ninS ne_x308_b312 (ninS (Ne.symm ne_x300_x308) nin0)))
    have ne_x308_b328 : x308 ≠ b328 := Nat.ne_of_lt (Nat.lt_of_lt_of_le f331.lt (Nat.le_of_eq g328.symm))
    have ne_b312_b328 : b312 ≠ b328 := Nat.ne_of_lt (Nat.lt_of_lt_of_le q325_E.lt (Nat.le_of_eq g328.symm))
    have ge_b328 : n0 ≤ b328 := Nat.le_trans (Nat.le_trans Z0 K326.1) (Nat.le_of_eq g328.symm)
    have sz_b328 : h0.size ≤ b328 := Nat.le_trans K326.1 (Nat.le_of_eq g328.symm)
    have K332 : Keep h0 h328 [] := K326.ext E328
    have F328_name : Fld Z h328 b328 "com/example/kuusi/kuusi/core/Symbol" "name" "Ljava/lang/String;" .null := D328 (Or.inr (own_w hw 48 rfl)) (ty := (.object "java/lang/String")) (by decide)
    have F328_rank : Fld Z h328 b328 "com/example/kuusi/kuusi/core/Symbol" "rank" "I" (.int (0 : Int32)) := D328 (Or.inr (own_w hw 50 rfl)) (ty := .int) (by decide)
    have F328_hash : Fld Z h328 b328 "com/example/kuusi/kuusi/core/Symbol" "hash" "I" (.int (0 : Int32)) := D328 (Or.inr (own_w hw 70 rfl)) (ty := .int) (by decide)
    have p333 : Go p.tables e below _ (T328.setTop (mkF m 149 #[.val (.int p1), .val (.int p2), .val (.int p3), .val (.int p4), .val (.int p5), .val (.int (2 : Int32)), .val (.int (1 : Int32)), .val (.int c10), .val (.int c11), .val (.int c20), .val (.int c21), .val (.int rk1), .val (.int rk2), .val (.ref x300), .val (.ref x307), .val (.ref b312), .unset, .unset, .unset] [(.int rk2), (.ref x307), (.ref b328), (.ref b328)])) := fun t_ k_ => (gc p327 st328) t_ (by
      refine XS.dup X328.here hx rfl (hb hby at_144) rfl rfl ?_
      refine XS.aload X328.here hx rfl (hb hby at_145) rfl rfl ?_
      refine XS.iload X328.here hx rfl (hb hby at_147) rfl ?_
      exact k_)
    have f334 := ((f317.keep q325_K (allS ge_b312 (allS q299_g all0))).ext E328)
    have f335 := (f330.ext E328)
    have f336 := (((q306_c.ext E312).keep q325_K (ninS ne_x307_b312 (ninS (Ne.symm ne_x300_x307) nin0))).ext E328)
    have f337 := (((q306_v.ext E312).keep q325_K (ninS ne_x307_b312 (ninS (Ne.symm ne_x300_x307) nin0))).ext E328)
    have f338 := (((q306_xhash.ext E312).keep q325_K (ninS ne_x307_b312 (ninS (Ne.symm ne_x300_x307) nin0))).ext E328)
    have f339 := (((q306_xhashIsZero.ext E312).keep q325_K (ninS ne_x307_b312 (ninS (Ne.symm ne_x300_x307) nin0))).ext E328)
    have f340 := (f331.ext E328)
    have f341 := (((q306_xb.ext E312).keep q325_K).ext E328)
    obtain ⟨_, _, ⟨T342, L342, k342, n342⟩, -, X342, ⟨Lc342, hQ342, l342, y342, z342⟩, st342⟩ := X328.specialBack hx (y := (⟨"com/example/kuusi/kuusi/core/Symbol", "<init>", "(Ljava/lang/String;I)V"⟩ : MethodName)) rfl hown (mvT hZ (own_w hw 38 rfl)) (mvT hZ (own_w hw 39 rfl)) (mvT hZ (own_w hw 40 rfl)) (by decide) (backOf (W := 1) (rm8_1 l Z a0 hw [] b328 x307 rk2 x308 x309 (nar .byte ((nar .char c20).toInt8.toInt32)) cs1 fm h328 n0 (Nat.le_trans Z0 K332.1) f334 G F328_name F328_rank F328_hash A328 ge_b328 qr2 f335 f336 f337 f338 f339 f340 f341 q306_g (Ne.symm ne_x307_b328) (Ne.symm ne_x308_b328) q306_n) hZ (own_w hw 40 rfl) (own_w hw 37 rfl) (by decide) (by decide)) (g := (mkF m 149 #[.val (.int p1), .val (.int p2), .val (.int p3), .val (.int p4), .val (.int p5), .val (.int (2 : Int32)), .val (.int (1 : Int32)), .val (.int c10), .val (.int c11), .val (.int c20), .val (.int c21), .val (.int rk1), .val (.int rk2), .val (.ref x300), .val (.ref x307), .val (.ref b312), .unset, .unset, .unset] [(.int rk2), (.ref x307), (.ref b328), (.ref b328)])) rfl (by rw [hml]; rfl) (Steps.refl _) (a := b328) (argsL := [(.ref x307), (.int rk2)]) (rest := [(.ref b328)]) (lenOf pd13 rfl) rfl (by show 2 * 0 + _ ≤ _; exact Nat.le_of_eq rfl) (hb hby at_149) (fun _ _ => ⟨rfl, e328, (by decide : 8 + 0 ≤ _), (by decide : 20 + 0 ≤ _)⟩)
    dsimp only [Pt.U, Pt.locs, Pt.cells, Pt.slots] at X342 l342 y342 z342 st342 hQ342
    subst l342 y342 z342
    obtain ⟨rfl, N342q, q342_K, q342_n, q342_r, q342_E, q342_E2, q342_c, q342_v⟩ := hQ342
    have N342 := Fr.app N325 N342q
    have K343 : Keep h0 T342.heap [] := K332.trans q342_K (allS (Or.inr sz_b328) (allS (Or.inr (Nat.le_trans K303.1 q306_z)) all0))
    have p344 : Go p.tables e below _ (T342.setTop (mkF m 211 #[.val (.int p1), .val (.int p2), .val (.int p3), .val (.int p4), .val (.int p5), .val (.int (2 : Int32)), .val (.int (1 : Int32)), .val (.int c10), .val (.int c11), .val (.int c20), .val (.int c21), .val (.int rk1), .val (.int rk2), .val (.ref x300), .val (.ref x307), .val (.ref b312), .val (.ref b328), .val (.int (0 : Int32)), .val (.int (0 : Int32))] [(.ref b328), (.ref b312)])) := fun t_ k_ => (gcT p333 st342) t_ (by
      refine XS.astore X342.here hx rfl (hb hby at_152) rfl rfl (l' := #[.val (.int p1), .val (.int p2), .val (.int p3), .val (.int p4), .val (.int p5), .val (.int (2 : Int32)), .val (.int (1 : Int32)), .val (.int c10), .val (.int c11), .val (.int c20), .val (.int c21), .val (.int rk1), .val (.int rk2), .val (.ref x300), .val (.ref x307), .val (.ref b312), .val (.ref b328), .unset, .unset]) rfl ?_
      refine XS.iload X342.here hx rfl (hb hby at_154) rfl ?_
      refine XS.iload X342.here hx rfl (hb hby at_156) rfl ?_
      refine XS.icmpYes X342.here hx rfl (pc0 := 158) (pc' := 185) rfl (hb hby at_158) rfl (feq (by decide : ¬ ((2 : Int32) = (1 : Int32)))).2 (by decide) (by decide) ?_
      refine XS.iconst X342.here hx rfl (hb hby at_185) ?_
      refine XS.istore X342.here hx rfl (hb hby at_186) rfl (l' := #[.val (.int p1), .val (.int p2), .val (.int p3), .val (.int p4), .val (.int p5), .val (.int (2 : Int32)), .val (.int (1 : Int32)), .val (.int c10), .val (.int c11), .val (.int c20), .val (.int c21), .val (.int rk1), .val (.int rk2), .val (.ref x300), .val (.ref x307), .val (.ref b312), .val (.ref b328), .val (.int (0 : Int32)), .unset]) rfl ?_
      refine XS.iload X342.here hx rfl (hb hby at_188) rfl ?_
      refine XS.ifYes X342.here hx rfl (pc0 := 190) (pc' := 204) rfl (hb hby at_190) rfl ((if0 _ _).trans (teq (by decide : ((0 : Int32) = (0 : Int32)))).1) (by decide) (by decide) ?_
      refine XS.iconst X342.here hx rfl (hb hby at_204) ?_
      refine XS.istore X342.here hx rfl (hb hby at_205) rfl (l' := #[.val (.int p1), .val (.int p2), .val (.int p3), .val (.int p4), .val (.int p5), .val (.int (2 : Int32)), .val (.int (1 : Int32)), .val (.int c10), .val (.int c11), .val (.int c20), .val (.int c21), .val (.int rk1), .val (.int rk2), .val (.ref x300), .val (.ref x307), .val (.ref b312), .val (.ref b328), .val (.int (0 : Int32)), .val (.int (0 : Int32))]) rfl ?_
      refine XS.aload X342.here hx rfl (hb hby at_207) rfl rfl ?_
      refine XS.aload X342.here hx rfl (hb hby at_209) rfl rfl ?_
      exact k_)
    have f345 := (f334.keep q342_K (allS ge_b328 (allS q306_g all0)))
    have f346 := ((q325_n.ext E328).keep q342_K (ninS ne_b312_b328 (ninS (Ne.symm ne_x307_b312) nin0)))
    have f347 := ((q325_r.ext E328).keep q342_K (ninS ne_b312_b328 (ninS (Ne.symm ne_x307_b312) nin0)))
    have f348 := ((q325_E2.ext E328).keep q342_K)
    have f349 := ((q325_c.ext E328).keep q342_K (ninS ne_x300_b328 (ninS ne_x300_x307 nin0)))
    have f350 := ((q325_v.ext E328).keep q342_K (ninS ne_x300_b328 (ninS ne_x300_x307 nin0)))
    have f351 := ((f329.ext E328).keep q342_K (ninS ne_x301_b328 (ninS ne_x301_x307 nin0)))
    have f352 := (f340.keep q342_K (ninS ne_x308_b328 (ninS (Ne.symm q306_n) nin0)))
    have f354 := ((q325_E.ext E328).keep q342_K)
    obtain ⟨cq353, kq353, q353a, q353b, q353c⟩ := isOf hZ rfl f354
    obtain ⟨_, _, ⟨T353, L353, k353, n353⟩, -, X353, ⟨Lc353, hQ353, l353, y353, z353⟩, st353⟩ := X342.virtualBack hx (y := (⟨"com/example/kuusi/kuusi/core/Symbol", "equals", "(Ljava/lang/Object;)Z"⟩ : MethodName)) (z := (⟨"com/example/kuusi/kuusi/core/Symbol", "equals", "(Ljava/lang/Object;)Z"⟩ : MethodName)) hown (mvT hZ (own_w hw 71 rfl)) (mvT hZ (own_w hw 72 rfl)) (notFace_of_selects (args := #[]) (mvT hZ (own_w hw 74 rfl))) (mvT hZ (own_w hw 74 rfl)) (mvT hZ (own_w hw 73 rfl)) (by decide) (backOf (W := 0) (rm13_21 l Z a0 hw [] b312 b328 x300 x307 rk1 rk2 x301 x308 x302 x309 (nar .byte ((nar .char c10).toInt8.toInt32)) (nar .byte ((nar .char c11).toInt8.toInt32)) (nar .byte ((nar .char c20).toInt8.toInt32)) cs1 fm T342.heap n0 (Nat.le_trans Z0 K343.1) f345 G q342_E ne_b312_b328 f346 q342_n f347 q342_r ne_x300_x307 f348 q342_E2 f349 q342_c f350 q342_v f351 f352) hZ (own_w hw 75 rfl) (own_w hw 37 rfl) (by decide) (by decide)) q353a q353c (g := (mkF m 211 #[.val (.int p1), .val (.int p2), .val (.int p3), .val (.int p4), .val (.int p5), .val (.int (2 : Int32)), .val (.int (1 : Int32)), .val (.int c10), .val (.int c11), .val (.int c20), .val (.int c21), .val (.int rk1), .val (.int rk2), .val (.ref x300), .val (.ref x307), .val (.ref b312), .val (.ref b328), .val (.int (0 : Int32)), .val (.int (0 : Int32))] [(.ref b328), (.ref b312)])) rfl (by rw [hml]; rfl) (Steps.refl _) (argsL := [(.ref b328)]) (rest := []) (lenOf pd11 rfl) rfl (by show 2 * 0 + _ ≤ _; exact Nat.le_of_eq rfl) (hb hby at_211) (fun _ _ => ⟨rfl, rfl, (by decide : 8 + 0 ≤ _), (by decide : 20 + 0 ≤ _)⟩)
    dsimp only [Pt.U, Pt.locs, Pt.cells, Pt.slots] at X353 l353 y353 z353 st353 hQ353
    subst l353 y353 z353
    obtain ⟨rfl, N353q, q353_hh⟩ := hQ353
    have N353 := Fr.app N342 N353q
    have p355 : Go p.tables e below _ (T353.setTop (mkF m 216 #[.val (.int p1), .val (.int p2), .val (.int p3), .val (.int p4), .val (.int p5), .val (.int (2 : Int32)), .val (.int (1 : Int32)), .val (.int c10), .val (.int c11), .val (.int c20), .val (.int c21), .val (.int rk1), .val (.int rk2), .val (.ref x300), .val (.ref x307), .val (.ref b312), .val (.ref b328), .val (.int (0 : Int32)), .val (.int (0 : Int32))] [(.int (0 : Int32)), (.int (own_se (0 : Int32) rk1 rk2))])) := fun t_ k_ => (gcT p344 st353) t_ (by
      refine XS.iload X353.here hx rfl (hb hby at_214) rfl ?_
      exact k_)
    have c356 : ((own_se (0 : Int32) rk1 rk2) = (0 : Int32)) := by simp [own_se]
    have p357 : Go p.tables e below _ (T353.setTop (mkF m 225 #[.val (.int p1), .val (.int p2), .val (.int p3), .val (.int p4), .val (.int p5), .val (.int (2 : Int32)), .val (.int (1 : Int32)), .val (.int c10), .val (.int c11), .val (.int c20), .val (.int c21), .val (.int rk1), .val (.int rk2), .val (.ref x300), .val (.ref x307), .val (.ref b312), .val (.ref b328), .val (.int (0 : Int32)), .val (.int (0 : Int32))] [(.ref b312), (.ref b328)])) := fun t_ k_ => p355 t_ (by
      refine XS.icmpYes X353.here hx rfl (pc0 := 216) (pc' := 221) rfl (hb hby at_216) rfl (teq c356).1 (by decide) (by decide) ?_
      refine XS.aload X353.here hx rfl (hb hby at_221) rfl rfl ?_
      refine XS.aload X353.here hx rfl (hb hby at_223) rfl rfl ?_
      exact k_)
    obtain ⟨cq358, kq358, q358a, q358b, q358c⟩ := isOf hZ q353_hh q342_E
    obtain ⟨_, _, ⟨T358, L358, k358, n358⟩, -, X358, ⟨Lc358, hQ358, l358, y358, z358⟩, st358⟩ := X353.virtualBack hx (y := (⟨"com/example/kuusi/kuusi/core/Symbol", "equals", "(Ljava/lang/Object;)Z"⟩ : MethodName)) (z := (⟨"com/example/kuusi/kuusi/core/Symbol", "equals", "(Ljava/lang/Object;)Z"⟩ : MethodName)) hown (mvT hZ (own_w hw 71 rfl)) (mvT hZ (own_w hw 72 rfl)) (notFace_of_selects (args := #[]) (mvT hZ (own_w hw 74 rfl))) (mvT hZ (own_w hw 74 rfl)) (mvT hZ (own_w hw 73 rfl)) (by decide) (backOf (W := 0) (rm13_12 l Z a0 hw [] b328 b312 x307 x300 rk2 rk1 x308 x301 x309 x302 (nar .byte ((nar .char c20).toInt8.toInt32)) (nar .byte ((nar .char c10).toInt8.toInt32)) (nar .byte ((nar .char c11).toInt8.toInt32)) cs1 fm T342.heap n0 (Nat.le_trans Z0 K343.1) f345 G f354 (Ne.symm ne_b312_b328) q342_n f346 q342_r f347 (Ne.symm ne_x300_x307) q342_E2 f348 q342_c f349 q342_v f350 f352 f351) hZ (own_w hw 75 rfl) (own_w hw 37 rfl) (by decide) (by decide)) q358a q358c (g := (mkF m 225 #[.val (.int p1), .val (.int p2), .val (.int p3), .val (.int p4), .val (.int p5), .val (.int (2 : Int32)), .val (.int (1 : Int32)), .val (.int c10), .val (.int c11), .val (.int c20), .val (.int c21), .val (.int rk1), .val (.int rk2), .val (.ref x300), .val (.ref x307), .val (.ref b312), .val (.ref b328), .val (.int (0 : Int32)), .val (.int (0 : Int32))] [(.ref b312), (.ref b328)])) rfl (by rw [hml]; rfl) (Steps.refl _) (argsL := [(.ref b312)]) (rest := []) (lenOf pd11 rfl) rfl (by show 2 * 0 + _ ≤ _; exact Nat.le_of_eq rfl) (hb hby at_225) (fun _ _ => ⟨rfl, q353_hh, (by decide : 8 + 0 ≤ _), (by decide : 20 + 0 ≤ _)⟩)
    dsimp only [Pt.U, Pt.locs, Pt.cells, Pt.slots] at X358 l358 y358 z358 st358 hQ358
    subst l358 y358 z358
    obtain ⟨rfl, N358q, q358_hh⟩ := hQ358
    have N358 := Fr.app N353 N358q
    have p359 : Go p.tables e below _ (T358.setTop (mkF m 230 #[.val (.int p1), .val (.int p2), .val (.int p3), .val (.int p4), .val (.int p5), .val (.int (2 : Int32)), .val (.int (1 : Int32)), .val (.int c10), .val (.int c11), .val (.int c20), .val (.int c21), .val (.int rk1), .val (.int rk2), .val (.ref x300), .val (.ref x307), .val (.ref b312), .val (.ref b328), .val (.int (0 : Int32)), .val (.int (0 : Int32))] [(.int (0 : Int32)), (.int (own_se (0 : Int32) rk2 rk1))])) := fun t_ k_ => (gcT p357 st358) t_ (by
      refine XS.iload X358.here hx rfl (hb hby at_228) rfl ?_
      exact k_)
    have c360 : ((own_se (0 : Int32) rk2 rk1) = (0 : Int32)) := by simp [own_se]
    have p361 : Go p.tables e below _ (T358.setTop (mkF m 239 #[.val (.int p1), .val (.int p2), .val (.int p3), .val (.int p4), .val (.int p5), .val (.int (2 : Int32)), .val (.int (1 : Int32)), .val (.int c10), .val (.int c11), .val (.int c20), .val (.int c21), .val (.int rk1), .val (.int rk2), .val (.ref x300), .val (.ref x307), .val (.ref b312), .val (.ref b328), .val (.int (0 : Int32)), .val (.int (0 : Int32))] [(.ref b312), (.ref b312)])) := fun t_ k_ => p359 t_ (by
      refine XS.icmpYes X358.here hx rfl (pc0 := 230) (pc' := 235) rfl (hb hby at_230) rfl (teq c360).1 (by decide) (by decide) ?_
      refine XS.aload X358.here hx rfl (hb hby at_235) rfl rfl ?_
      refine XS.aload X358.here hx rfl (hb hby at_237) rfl rfl ?_
      exact k_)
    obtain ⟨cq362, kq362, q362a, q362b, q362c⟩ := isOf hZ q358_hh f354
    obtain ⟨_, _, ⟨T362, L362, k362, n362⟩, -, X362, ⟨Lc362, hQ362, l362, y362, z362⟩, st362⟩ := X358.virtualBack hx (y := (⟨"com/example/kuusi/kuusi/core/Symbol", "equals", "(Ljava/lang/Object;)Z"⟩ : MethodName)) (z := (⟨"com/example/kuusi/kuusi/core/Symbol", "equals", "(Ljava/lang/Object;)Z"⟩ : MethodName)) hown (mvT hZ (own_w hw 71 rfl)) (mvT hZ (own_w hw 72 rfl)) (notFace_of_selects (args := #[]) (mvT hZ (own_w hw 74 rfl))) (mvT hZ (own_w hw 74 rfl)) (mvT hZ (own_w hw 73 rfl)) (by decide) (backOf (W := 0) (rm13_s l Z a0 hw [] b312 T342.heap n0 (Nat.le_trans Z0 K343.1) ) hZ (own_w hw 75 rfl) (own_w hw 37 rfl) (by decide) (by decide)) q362a q362c (g := (mkF m 239 #[.val (.int p1), .val (.int p2), .val (.int p3), .val (.int p4), .val (.int p5), .val (.int (2 : Int32)), .val (.int (1 : Int32)), .val (.int c10), .val (.int c11), .val (.int c20), .val (.int c21), .val (.int rk1), .val (.int rk2), .val (.ref x300), .val (.ref x307), .val (.ref b312), .val (.ref b328), .val (.int (0 : Int32)), .val (.int (0 : Int32))] [(.ref b312), (.ref b312)])) rfl (by rw [hml]; rfl) (Steps.refl _) (argsL := [(.ref b312)]) (rest := []) (lenOf pd11 rfl) rfl (by show 2 * 0 + _ ≤ _; exact Nat.le_of_eq rfl) (hb hby at_239) (fun _ _ => ⟨rfl, q358_hh, (by decide : 8 + 0 ≤ _), (by decide : 20 + 0 ≤ _)⟩)
    dsimp only [Pt.U, Pt.locs, Pt.cells, Pt.slots] at X362 l362 y362 z362 st362 hQ362
    subst l362 y362 z362
    obtain ⟨rfl, N362q, q362_hh⟩ := hQ362
    have N362 := Fr.app N358 N362q
    have p363 : Go p.tables e below _ (T362.setTop (mkF m 250 #[.val (.int p1), .val (.int p2), .val (.int p3), .val (.int p4), .val (.int p5), .val (.int (2 : Int32)), .val (.int (1 : Int32)), .val (.int c10), .val (.int c11), .val (.int c20), .val (.int c21), .val (.int rk1), .val (.int rk2), .val (.ref x300), .val (.ref x307), .val (.ref b312), .val (.ref b328), .val (.int (0 : Int32)), .val (.int (0 : Int32))] [.null, (.ref b312)])) := fun t_ k_ => (gcT p361 st362) t_ (by
      refine XS.ifYes X362.here hx rfl (pc0 := 242) (pc' := 247) rfl (hb hby at_242) rfl ((if0 _ _).trans (feq (by decide : ¬ ((1 : Int32) = (0 : Int32)))).2) (by decide) (by decide) ?_
      refine XS.aload X362.here hx rfl (hb hby at_247) rfl rfl ?_
      refine XS.aconstNull X362.here hx rfl (hb hby at_249) ?_
      exact k_)
    obtain ⟨cq364, kq364, q364a, q364b, q364c⟩ := isOf hZ q362_hh f354
    obtain ⟨_, _, ⟨T364, L364, k364, n364⟩, -, X364, ⟨Lc364, hQ364, l364, y364, z364⟩, st364⟩ := X362.virtualBack hx (y := (⟨"com/example/kuusi/kuusi/core/Symbol", "equals", "(Ljava/lang/Object;)Z"⟩ : MethodName)) (z := (⟨"com/example/kuusi/kuusi/core/Symbol", "equals", "(Ljava/lang/Object;)Z"⟩ : MethodName)) hown (mvT hZ (own_w hw 71 rfl)) (mvT hZ (own_w hw 72 rfl)) (notFace_of_selects (args := #[]) (mvT hZ (own_w hw 74 rfl))) (mvT hZ (own_w hw 74 rfl)) (mvT hZ (own_w hw 73 rfl)) (by decide) (backOf (W := 0) (rm13_n l Z a0 hw [] b312 T342.heap n0 (Nat.le_trans Z0 K343.1) ) hZ (own_w hw 75 rfl) (own_w hw 37 rfl) (by decide) (by decide)) q364a q364c (g := (mkF m 250 #[.val (.int p1), .val (.int p2), .val (.int p3), .val (.int p4), .val (.int p5), .val (.int (2 : Int32)), .val (.int (1 : Int32)), .val (.int c10), .val (.int c11), .val (.int c20), .val (.int c21), .val (.int rk1), .val (.int rk2), .val (.ref x300), .val (.ref x307), .val (.ref b312), .val (.ref b328), .val (.int (0 : Int32)), .val (.int (0 : Int32))] [.null, (.ref b312)])) rfl (by rw [hml]; rfl) (Steps.refl _) (argsL := [.null]) (rest := []) (lenOf pd11 rfl) rfl (by show 2 * 0 + _ ≤ _; exact Nat.le_of_eq rfl) (hb hby at_250) (fun _ _ => ⟨rfl, q362_hh, (by decide : 8 + 0 ≤ _), (by decide : 20 + 0 ≤ _)⟩)
    dsimp only [Pt.U, Pt.locs, Pt.cells, Pt.slots] at X364 l364 y364 z364 st364 hQ364
    subst l364 y364 z364
    obtain ⟨rfl, N364q, q364_hh⟩ := hQ364
    have N364 := Fr.app N362 N364q
    have p365 : Go p.tables e below _ (T364.setTop (mkF m 262 #[.val (.int p1), .val (.int p2), .val (.int p3), .val (.int p4), .val (.int p5), .val (.int (2 : Int32)), .val (.int (1 : Int32)), .val (.int c10), .val (.int c11), .val (.int c20), .val (.int c21), .val (.int rk1), .val (.int rk2), .val (.ref x300), .val (.ref x307), .val (.ref b312), .val (.ref b328), .val (.int (0 : Int32)), .val (.int (0 : Int32))] [(.ref x300), (.ref b312)])) := fun t_ k_ => (gcT p363 st364) t_ (by
      refine XS.ifYes X364.here hx rfl (pc0 := 253) (pc' := 258) rfl (hb hby at_253) rfl ((if0 _ _).trans (teq (by decide : ((0 : Int32) = (0 : Int32)))).1) (by decide) (by decide) ?_
      refine XS.aload X364.here hx rfl (hb hby at_258) rfl rfl ?_
      refine XS.aload X364.here hx rfl (hb hby at_260) rfl rfl ?_
      exact k_)
    obtain ⟨cq366, kq366, q366a, q366b, q366c⟩ := isOf hZ q364_hh f354
    obtain ⟨_, _, ⟨T366, L366, k366, n366⟩, -, X366, ⟨Lc366, hQ366, l366, y366, z366⟩, st366⟩ := X364.virtualBack hx (y := (⟨"com/example/kuusi/kuusi/core/Symbol", "equals", "(Ljava/lang/Object;)Z"⟩ : MethodName)) (z := (⟨"com/example/kuusi/kuusi/core/Symbol", "equals", "(Ljava/lang/Object;)Z"⟩ : MethodName)) hown (mvT hZ (own_w hw 71 rfl)) (mvT hZ (own_w hw 72 rfl)) (notFace_of_selects (args := #[]) (mvT hZ (own_w hw 74 rfl))) (mvT hZ (own_w hw 74 rfl)) (mvT hZ (own_w hw 73 rfl)) (by decide) (backOf (W := 0) (rm13_o l Z a0 hw [] b312 x300 T342.heap n0 (Nat.le_trans Z0 K343.1) f348 (Ne.symm ne_x300_b312)) hZ (own_w hw 75 rfl) (own_w hw 37 rfl) (by decide) (by decide)) q366a q366c (g := (mkF m 262 #[.val (.int p1), .val (.int p2), .val (.int p3), .val (.int p4), .val (.int p5), .val (.int (2 : Int32)), .val (.int (1 : Int32)), .val (.int c10), .val (.int c11), .val (.int c20), .val (.int c21), .val (.int rk1), .val (.int rk2), .val (.ref x300), .val (.ref x307), .val (.ref b312), .val (.ref b328), .val (.int (0 : Int32)), .val (.int (0 : Int32))] [(.ref x300), (.ref b312)])) rfl (by rw [hml]; rfl) (Steps.refl _) (argsL := [(.ref x300)]) (rest := []) (lenOf pd11 rfl) rfl (by show 2 * 0 + _ ≤ _; exact Nat.le_of_eq rfl) (hb hby at_262) (fun _ _ => ⟨rfl, q364_hh, (by decide : 8 + 0 ≤ _), (by decide : 20 + 0 ≤ _)⟩)
    dsimp only [Pt.U, Pt.locs, Pt.cells, Pt.slots] at X366 l366 y366 z366 st366 hQ366
    subst l366 y366 z366
    obtain ⟨rfl, N366q, q366_hh⟩ := hQ366
    have N366 := Fr.app N364 N366q
    have p367 : Go p.tables e below _ (T366.setTop (mkF m 271 #[.val (.int p1), .val (.int p2), .val (.int p3), .val (.int p4), .val (.int p5), .val (.int (2 : Int32)), .val (.int (1 : Int32)), .val (.int c10), .val (.int c11), .val (.int c20), .val (.int c21), .val (.int rk1), .val (.int rk2), .val (.ref x300), .val (.ref x307), .val (.ref b312), .val (.ref b328), .val (.int (0 : Int32)), .val (.int (0 : Int32))] [(.int (1 : Int32))])) := fun t_ k_ => (gcT p365 st366) t_ (by
      refine XS.ifYes X366.here hx rfl (pc0 := 265) (pc' := 270) rfl (hb hby at_265) rfl ((if0 _ _).trans (teq (by decide : ((0 : Int32) = (0 : Int32)))).1) (by decide) (by decide) ?_
      refine XS.iconst X366.here hx rfl (hb hby at_270) ?_
      exact k_)
    obtain ⟨fs, hr, hrun, hended, hW, hsame⟩ := X366.leave (v := some (.int (1 : Int32))) (fun h => by rw [Bd.returns] at h; cases h)
    refine ⟨_, _, p367 _ (retN X366 hx (t := .boolean) Bd.returns (by simp) (hb hby at_271) hr), hrun, hended, _, _, rfl, ?_, ⟨_, rfl⟩, hW, hsame.mono (by decide) (by decide)⟩
    show Q0 Z p1 p2 p3 p4 p5 cs1 fm h0 n0 _ T366.heap _
    rw [q366_hh]
    exact ⟨rfl, N366⟩
  · have p368 : Go p.tables e below (s₁.setTop (entryFrame m #[(.int p1), (.int p2), (.int p3), (.int p4), (.int p5)] maxLocals)) (s₁.setTop (mkF m 106 #[.val (.int p1), .val (.int p2), .val (.int p3), .val (.int p4), .val (.int p5), .val (.int (2 : Int32)), .val (.int (2 : Int32)), .val (.int c10), .val (.int c11), .val (.int c20), .val (.int c21), .val (.int rk1), .val (.int rk2), .unset, .unset, .unset, .unset, .unset, .unset] [])) := by have z := p133; rw [r1, r2] at z; exact z
    have p369 : Go p.tables e below _ (s₁.setTop (mkF m 112 #[.val (.int p1), .val (.int p2), .val (.int p3), .val (.int p4), .val (.int p5), .val (.int (2 : Int32)), .val (.int (2 : Int32)), .val (.int c10), .val (.int c11), .val (.int c20), .val (.int c21), .val (.int rk1), .val (.int rk2), .unset, .unset, .unset, .unset, .unset, .unset] [(.int c11), (.int c10), (.int (2 : Int32))])) := fun t_ k_ => p368 t_ (by
      refine XS.iload X0.here hx rfl (hb hby at_106) rfl ?_
      refine XS.iload X0.here hx rfl (hb hby at_108) rfl ?_
      refine XS.iload X0.here hx rfl (hb hby at_110) rfl ?_
      exact k_)
    obtain ⟨_, _, ⟨T370, L370, k370, n370⟩, -, X370, ⟨Lc370, hQ370, l370, y370, z370⟩, st370⟩ := Jvm.LawKit.callS X0 hx (y := (⟨"com/example/kuusi/kuusi/core/SymbolEqualsPinLaw", "mk", "(ICC)Ljava/lang/String;"⟩ : MethodName)) hown (mvT hZ (own_w hw 1 rfl)) (mvT hZ (own_w hw 2 rfl)) (mvT hZ (own_w hw 3 rfl)) (mvT hZ (own_w hw 4 rfl)) (by decide) (backOf (W := 0) (rm1_2 l Z a0 hw [] c10 c11 cs1 fm h0 n0 (Nat.le_trans Z0 (Keep.refl h0 []).1) O1 G (by rw [own_narc _ q10.1 (own_le255 q10.2)]; exact q10.2) (by rw [own_narc _ q11.1 (own_le255 q11.2)]; exact q11.2)) hZ (own_w hw 4 rfl) (own_w hw 3 rfl) (by decide) (by decide)) (g := (mkF m 112 #[.val (.int p1), .val (.int p2), .val (.int p3), .val (.int p4), .val (.int p5), .val (.int (2 : Int32)), .val (.int (2 : Int32)), .val (.int c10), .val (.int c11), .val (.int c20), .val (.int c21), .val (.int rk1), .val (.int rk2), .unset, .unset, .unset, .unset, .unset, .unset] [(.int c11), (.int c10), (.int (2 : Int32))])) rfl (by rw [hml]; rfl) (argsL := [(.int (2 : Int32)), (.int c10), (.int c11)]) (rest := []) (lenOf pd12 rfl) rfl (by show 2 * 0 + _ ≤ _; exact Nat.le_of_eq rfl) (hb hby at_112) (fun _ _ => ⟨rfl, e0, (by decide : 0 + 3 ≤ _), (by decide : 0 + 8 ≤ _)⟩)
    dsimp only [Pt.U, Pt.locs, Pt.cells, Pt.slots] at X370 l370 y370 z370 st370 hQ370
    subst l370 y370 z370
    obtain ⟨x371, x372, x373, rfl, N370q, q370_K, q370_E, q370_c, q370_v, q370_xhash, q370_xhashIsZero, q370_g, q370_z, q370_g2, q370_z2, q370_V, q370_xb, q370_n⟩ := hQ370
    have N370 := Fr.app N0 N370q
    have K374 : Keep h0 T370.heap [] := (Keep.refl h0 []).trans q370_K all0
    have p375 : Go p.tables e below _ (T370.setTop (mkF m 123 #[.val (.int p1), .val (.int p2), .val (.int p3), .val (.int p4), .val (.int p5), .val (.int (2 : Int32)), .val (.int (2 : Int32)), .val (.int c10), .val (.int c11), .val (.int c20), .val (.int c21), .val (.int rk1), .val (.int rk2), .val (.ref x371), .unset, .unset, .unset, .unset, .unset] [(.int c21), (.int c20), (.int (2 : Int32))])) := fun t_ k_ => (gc p369 st370) t_ (by
      refine XS.astore X370.here hx rfl (hb hby at_115) rfl rfl (l' := #[.val (.int p1), .val (.int p2), .val (.int p3), .val (.int p4), .val (.int p5), .val (.int (2 : Int32)), .val (.int (2 : Int32)), .val (.int c10), .val (.int c11), .val (.int c20), .val (.int c21), .val (.int rk1), .val (.int rk2), .val (.ref x371), .unset, .unset, .unset, .unset, .unset]) rfl ?_
      refine XS.iload X370.here hx rfl (hb hby at_117) rfl ?_
      refine XS.iload X370.here hx rfl (hb hby at_119) rfl ?_
      refine XS.iload X370.here hx rfl (hb hby at_121) rfl ?_
      exact k_)
    have f376 := (O1.keep q370_K all0)
    obtain ⟨_, _, ⟨T377, L377, k377, n377⟩, -, X377, ⟨Lc377, hQ377, l377, y377, z377⟩, st377⟩ := Jvm.LawKit.callS X370 hx (y := (⟨"com/example/kuusi/kuusi/core/SymbolEqualsPinLaw", "mk", "(ICC)Ljava/lang/String;"⟩ : MethodName)) hown (mvT hZ (own_w hw 1 rfl)) (mvT hZ (own_w hw 2 rfl)) (mvT hZ (own_w hw 3 rfl)) (mvT hZ (own_w hw 4 rfl)) (by decide) (backOf (W := 0) (rm1_2 l Z a0 hw [] c20 c21 cs1 fm T370.heap n0 (Nat.le_trans Z0 K374.1) f376 G (by rw [own_narc _ q20.1 (own_le255 q20.2)]; exact q20.2) (by rw [own_narc _ q21.1 (own_le255 q21.2)]; exact q21.2)) hZ (own_w hw 4 rfl) (own_w hw 3 rfl) (by decide) (by decide)) (g := (mkF m 123 #[.val (.int p1), .val (.int p2), .val (.int p3), .val (.int p4), .val (.int p5), .val (.int (2 : Int32)), .val (.int (2 : Int32)), .val (.int c10), .val (.int c11), .val (.int c20), .val (.int c21), .val (.int rk1), .val (.int rk2), .val (.ref x371), .unset, .unset, .unset, .unset, .unset] [(.int c21), (.int c20), (.int (2 : Int32))])) rfl (by rw [hml]; rfl) (argsL := [(.int (2 : Int32)), (.int c20), (.int c21)]) (rest := []) (lenOf pd12 rfl) rfl (by show 2 * 0 + _ ≤ _; exact Nat.le_of_eq rfl) (hb hby at_123) (fun _ _ => ⟨rfl, rfl, (by decide : 3 + 3 ≤ _), (by decide : 8 + 8 ≤ _)⟩)
    dsimp only [Pt.U, Pt.locs, Pt.cells, Pt.slots] at X377 l377 y377 z377 st377 hQ377
    subst l377 y377 z377
    obtain ⟨x378, x379, x380, rfl, N377q, q377_K, q377_E, q377_c, q377_v, q377_xhash, q377_xhashIsZero, q377_g, q377_z, q377_g2, q377_z2, q377_V, q377_xb, q377_n⟩ := hQ377
    have N377 := Fr.app N370 N377q
    have K381 : Keep h0 T377.heap [] := K374.trans q377_K all0
    have ne_x371_x378 : x371 ≠ x378 := Nat.ne_of_lt (Nat.lt_of_lt_of_le q370_E.lt q377_z)
    have ne_x372_x378 : x372 ≠ x378 := Nat.ne_of_lt (Nat.lt_of_lt_of_le q370_V.lt q377_z)
    have ne_x371_x379 : x371 ≠ x379 := Nat.ne_of_lt (Nat.lt_of_lt_of_le q370_E.lt q377_z2)
    have ne_x372_x379 : x372 ≠ x379 := Nat.ne_of_lt (Nat.lt_of_lt_of_le q370_V.lt q377_z2)
    have p382 : Go p.tables e below _ (T377.setTop (mkF m 128 #[.val (.int p1), .val (.int p2), .val (.int p3), .val (.int p4), .val (.int p5), .val (.int (2 : Int32)), .val (.int (2 : Int32)), .val (.int c10), .val (.int c11), .val (.int c20), .val (.int c21), .val (.int rk1), .val (.int rk2), .val (.ref x371), .val (.ref x378), .unset, .unset, .unset, .unset] [])) := fun t_ k_ => (gc p375 st377) t_ (by
      refine XS.astore X377.here hx rfl (hb hby at_126) rfl rfl (l' := #[.val (.int p1), .val (.int p2), .val (.int p3), .val (.int p4), .val (.int p5), .val (.int (2 : Int32)), .val (.int (2 : Int32)), .val (.int c10), .val (.int c11), .val (.int c20), .val (.int c21), .val (.int rk1), .val (.int rk2), .val (.ref x371), .val (.ref x378), .unset, .unset, .unset, .unset]) rfl ?_
      exact k_)
    obtain ⟨T383, h383, X383, e383, E383, A383, D383, -, st383⟩ := newO X377 hx hZ hown (own_w hw 35 rfl) (own_w hw 36 rfl) (own_w hw 37 rfl) rfl (g := (mkF m 128 #[.val (.int p1), .val (.int p2), .val (.int p3), .val (.int p4), .val (.int p5), .val (.int (2 : Int32)), .val (.int (2 : Int32)), .val (.int c10), .val (.int c11), .val (.int c20), .val (.int c21), .val (.int rk1), .val (.int rk2), .val (.ref x371), .val (.ref x378), .unset, .unset, .unset, .unset] [])) rfl (hb hby at_128) (by decide) (by decide)
    obtain ⟨b383, g383⟩ : ∃ z, z = T377.heap.size := ⟨_, rfl⟩
    rw [← g383] at A383 D383 st383
    have f384 := (q370_E.keep q377_K)
    have ne_x371_b383 : x371 ≠ b383 := Nat.ne_of_lt (Nat.lt_of_lt_of_le f384.lt (Nat.le_of_eq g383.symm))
    have f385 := (q370_V.keep q377_K nin0)
    have ne_x372_b383 : x372 ≠ b383 := Nat.ne_of_lt (Nat.lt_of_lt_of_le f385.lt (Nat.le_of_eq g383.symm))
    have ne_x378_b383 : x378 ≠ b383 := Nat.ne_of_lt (Nat.lt_of_lt_of_le q377_E.lt (Nat.le_of_eq g383.symm))
    have ne_x379_b383 : x379 ≠ b383 := Nat.ne_of_lt (Nat.lt_of_lt_of_le q377_V.lt (Nat.le_of_eq g383.symm))
    have ge_b383 : n0 ≤ b383 := Nat.le_trans (Nat.le_trans Z0 K381.1) (Nat.le_of_eq g383.symm)
    have sz_b383 : h0.size ≤ b383 := Nat.le_trans K381.1 (Nat.le_of_eq g383.symm)
    have K386 : Keep h0 h383 [] := K381.ext E383
    have F383_name : Fld Z h383 b383 "com/example/kuusi/kuusi/core/Symbol" "name" "Ljava/lang/String;" .null := D383 (Or.inr (own_w hw 48 rfl)) (ty := (.object "java/lang/String")) (by decide)
    have F383_rank : Fld Z h383 b383 "com/example/kuusi/kuusi/core/Symbol" "rank" "I" (.int (0 : Int32)) := D383 (Or.inr (own_w hw 50 rfl)) (ty := .int) (by decide)
    have F383_hash : Fld Z h383 b383 "com/example/kuusi/kuusi/core/Symbol" "hash" "I" (.int (0 : Int32)) := D383 (Or.inr (own_w hw 70 rfl)) (ty := .int) (by decide)
    have p387 : Go p.tables e below _ (T383.setTop (mkF m 136 #[.val (.int p1), .val (.int p2), .val (.int p3), .val (.int p4), .val (.int p5), .val (.int (2 : Int32)), .val (.int (2 : Int32)), .val (.int c10), .val (.int c11), .val (.int c20), .val (.int c21), .val (.int rk1), .val (.int rk2), .val (.ref x371), .val (.ref x378), .unset, .unset, .unset, .unset] [(.int rk1), (.ref x371), (.ref b383), (.ref b383)])) := fun t_ k_ => (gc p382 st383) t_ (by
      refine XS.dup X383.here hx rfl (hb hby at_131) rfl rfl ?_
      refine XS.aload X383.here hx rfl (hb hby at_132) rfl rfl ?_
      refine XS.iload X383.here hx rfl (hb hby at_134) rfl ?_
      exact k_)
    have f388 := ((f376.keep q377_K all0).ext E383)
    have f389 := (f384.ext E383)
    have f390 := ((q370_c.keep q377_K nin0).ext E383)
    have f391 := ((q370_v.keep q377_K nin0).ext E383)
    have f392 := ((q370_xhash.keep q377_K nin0).ext E383)
    have f393 := ((q370_xhashIsZero.keep q377_K nin0).ext E383)
    have f394 := (f385.ext E383)
    have f395 := ((q370_xb.keep q377_K).ext E383)
    obtain ⟨_, _, ⟨T396, L396, k396, n396⟩, -, X396, ⟨Lc396, hQ396, l396, y396, z396⟩, st396⟩ := X383.specialBack hx (y := (⟨"com/example/kuusi/kuusi/core/Symbol", "<init>", "(Ljava/lang/String;I)V"⟩ : MethodName)) rfl hown (mvT hZ (own_w hw 38 rfl)) (mvT hZ (own_w hw 39 rfl)) (mvT hZ (own_w hw 40 rfl)) (by decide) (backOf (W := 1) (rm8_2 l Z a0 hw [] b383 x371 rk1 x372 x373 (nar .byte ((nar .char c10).toInt8.toInt32)) (nar .byte ((nar .char c11).toInt8.toInt32)) cs1 fm h383 n0 (Nat.le_trans Z0 K386.1) f388 G F383_name F383_rank F383_hash A383 ge_b383 qr1 f389 f390 f391 f392 f393 f394 f395 q370_g (Ne.symm ne_x371_b383) (Ne.symm ne_x372_b383) q370_n) hZ (own_w hw 40 rfl) (own_w hw 37 rfl) (by decide) (by decide)) (g := (mkF m 136 #[.val (.int p1), .val (.int p2), .val (.int p3), .val (.int p4), .val (.int p5), .val (.int (2 : Int32)), .val (.int (2 : Int32)), .val (.int c10), .val (.int c11), .val (.int c20), .val (.int c21), .val (.int rk1), .val (.int rk2), .val (.ref x371), .val (.ref x378), .unset, .unset, .unset, .unset] [(.int rk1), (.ref x371), (.ref b383), (.ref b383)])) rfl (by rw [hml]; rfl) (Steps.refl _) (a := b383) (argsL := [(.ref x371), (.int rk1)]) (rest := [(.ref b383)]) (lenOf pd13 rfl) rfl (by show 2 * 0 + _ ≤ _; exact Nat.le_of_eq rfl) (hb hby at_136) (fun _ _ => ⟨rfl, e383, (by decide : 7 + 0 ≤ _), (by decide : 19 + 0 ≤ _)⟩)
    dsimp only [Pt.U, Pt.locs, Pt.cells, Pt.slots] at X396 l396 y396 z396 st396 hQ396
    subst l396 y396 z396
    obtain ⟨rfl, N396q, q396_K, q396_n, q396_r, q396_E, q396_E2, q396_c, q396_v⟩ := hQ396
    have N396 := Fr.app N377 N396q
    have K397 : Keep h0 T396.heap [] := K386.trans q396_K (allS (Or.inr sz_b383) (allS (Or.inr (Nat.le_trans (Keep.refl h0 []).1 q370_z)) all0))
    have p398 : Go p.tables e below _ (T396.setTop (mkF m 141 #[.val (.int p1), .val (.int p2), .val (.int p3), .val (.int p4), .val (.int p5), .val (.int (2 : Int32)), .val (.int (2 : Int32)), .val (.int c10), .val (.int c11), .val (.int c20), .val (.int c21), .val (.int rk1), .val (.int rk2), .val (.ref x371), .val (.ref x378), .val (.ref b383), .unset, .unset, .unset] [])) := fun t_ k_ => (gcT p387 st396) t_ (by
      refine XS.astore X396.here hx rfl (hb hby at_139) rfl rfl (l' := #[.val (.int p1), .val (.int p2), .val (.int p3), .val (.int p4), .val (.int p5), .val (.int (2 : Int32)), .val (.int (2 : Int32)), .val (.int c10), .val (.int c11), .val (.int c20), .val (.int c21), .val (.int rk1), .val (.int rk2), .val (.ref x371), .val (.ref x378), .val (.ref b383), .unset, .unset, .unset]) rfl ?_
      exact k_)
    obtain ⟨T399, h399, X399, e399, E399, A399, D399, -, st399⟩ := newO X396 hx hZ hown (own_w hw 35 rfl) (own_w hw 36 rfl) (own_w hw 37 rfl) rfl (g := (mkF m 141 #[.val (.int p1), .val (.int p2), .val (.int p3), .val (.int p4), .val (.int p5), .val (.int (2 : Int32)), .val (.int (2 : Int32)), .val (.int c10), .val (.int c11), .val (.int c20), .val (.int c21), .val (.int rk1), .val (.int rk2), .val (.ref x371), .val (.ref x378), .val (.ref b383), .unset, .unset, .unset] [])) rfl (hb hby at_141) (by decide) (by decide)
    obtain ⟨b399, g399⟩ : ∃ z, z = T396.heap.size := ⟨_, rfl⟩
    rw [← g399] at A399 D399 st399
    have ne_x371_b399 : x371 ≠ b399 := Nat.ne_of_lt (Nat.lt_of_lt_of_le q396_E2.lt (Nat.le_of_eq g399.symm))
    have f400 := (f394.keep q396_K (ninS ne_x372_b383 (ninS (Ne.symm q370_n) nin0)))
    have ne_x372_b399 : x372 ≠ b399 := Nat.ne_of_lt (Nat.lt_of_lt_of_le f400.lt (Nat.le_of_eq g399.symm))
    have f401 := ((q377_E.ext E383).keep q396_K)
    have ne_x378_b399 : x378 ≠ b399 := Nat.ne_of_lt (Nat.lt_of_lt_of_le f401.lt (Nat.le_of_eq g399.symm))
    have f402 := ((q377_V.ext E383).keep q396_K (ninS ne_x379_b383 (ninS (Ne.symm ne_x371_x379) nin0)))
    have ne_x379_b399 : x379 ≠ b399 := Nat.ne_of_lt (Nat.lt_of_lt_of_le f402.lt (Nat.le_of_eq g399.symm))
    have ne_b383_b399 : b383 ≠ b399 := Nat.ne_of_lt (Nat.lt_of_lt_of_le q396_E.lt (Nat.le_of_eq g399.symm))
    have ge_b399 : n0 ≤ b399 := Nat.le_trans (Nat.le_trans Z0 K397.1) (Nat.le_of_eq g399.symm)
    have sz_b399 : h0.size ≤ b399 := Nat.le_trans K397.1 (Nat.le_of_eq g399.symm)
    have K403 : Keep h0 h399 [] := K397.ext E399
    have F399_name : Fld Z h399 b399 "com/example/kuusi/kuusi/core/Symbol" "name" "Ljava/lang/String;" .null := D399 (Or.inr (own_w hw 48 rfl)) (ty := (.object "java/lang/String")) (by decide)
    have F399_rank : Fld Z h399 b399 "com/example/kuusi/kuusi/core/Symbol" "rank" "I" (.int (0 : Int32)) := D399 (Or.inr (own_w hw 50 rfl)) (ty := .int) (by decide)
    have F399_hash : Fld Z h399 b399 "com/example/kuusi/kuusi/core/Symbol" "hash" "I" (.int (0 : Int32)) := D399 (Or.inr (own_w hw 70 rfl)) (ty := .int) (by decide)
    have p404 : Go p.tables e below _ (T399.setTop (mkF m 149 #[.val (.int p1), .val (.int p2), .val (.int p3), .val (.int p4), .val (.int p5), .val (.int (2 : Int32)), .val (.int (2 : Int32)), .val (.int c10), .val (.int c11), .val (.int c20), .val (.int c21), .val (.int rk1), .val (.int rk2), .val (.ref x371), .val (.ref x378), .val (.ref b383), .unset, .unset, .unset] [(.int rk2), (.ref x378), (.ref b399), (.ref b399)])) := fun t_ k_ => (gc p398 st399) t_ (by
      refine XS.dup X399.here hx rfl (hb hby at_144) rfl rfl ?_
      refine XS.aload X399.here hx rfl (hb hby at_145) rfl rfl ?_
      refine XS.iload X399.here hx rfl (hb hby at_147) rfl ?_
      exact k_)
    have f405 := ((f388.keep q396_K (allS ge_b383 (allS q370_g all0))).ext E399)
    have f406 := (f401.ext E399)
    have f407 := (((q377_c.ext E383).keep q396_K (ninS ne_x378_b383 (ninS (Ne.symm ne_x371_x378) nin0))).ext E399)
    have f408 := (((q377_v.ext E383).keep q396_K (ninS ne_x378_b383 (ninS (Ne.symm ne_x371_x378) nin0))).ext E399)
    have f409 := (((q377_xhash.ext E383).keep q396_K (ninS ne_x378_b383 (ninS (Ne.symm ne_x371_x378) nin0))).ext E399)
    have f410 := (((q377_xhashIsZero.ext E383).keep q396_K (ninS ne_x378_b383 (ninS (Ne.symm ne_x371_x378) nin0))).ext E399)
    have f411 := (f402.ext E399)
    have f412 := (((q377_xb.ext E383).keep q396_K).ext E399)
    obtain ⟨_, _, ⟨T413, L413, k413, n413⟩, -, X413, ⟨Lc413, hQ413, l413, y413, z413⟩, st413⟩ := X399.specialBack hx (y := (⟨"com/example/kuusi/kuusi/core/Symbol", "<init>", "(Ljava/lang/String;I)V"⟩ : MethodName)) rfl hown (mvT hZ (own_w hw 38 rfl)) (mvT hZ (own_w hw 39 rfl)) (mvT hZ (own_w hw 40 rfl)) (by decide) (backOf (W := 1) (rm8_2 l Z a0 hw [] b399 x378 rk2 x379 x380 (nar .byte ((nar .char c20).toInt8.toInt32)) (nar .byte ((nar .char c21).toInt8.toInt32)) cs1 fm h399 n0 (Nat.le_trans Z0 K403.1) f405 G F399_name F399_rank F399_hash A399 ge_b399 qr2 f406 f407 f408 f409 f410 f411 f412 q377_g (Ne.symm ne_x378_b399) (Ne.symm ne_x379_b399) q377_n) hZ (own_w hw 40 rfl) (own_w hw 37 rfl) (by decide) (by decide)) (g := (mkF m 149 #[.val (.int p1), .val (.int p2), .val (.int p3), .val (.int p4), .val (.int p5), .val (.int (2 : Int32)), .val (.int (2 : Int32)), .val (.int c10), .val (.int c11), .val (.int c20), .val (.int c21), .val (.int rk1), .val (.int rk2), .val (.ref x371), .val (.ref x378), .val (.ref b383), .unset, .unset, .unset] [(.int rk2), (.ref x378), (.ref b399), (.ref b399)])) rfl (by rw [hml]; rfl) (Steps.refl _) (a := b399) (argsL := [(.ref x378), (.int rk2)]) (rest := [(.ref b399)]) (lenOf pd13 rfl) rfl (by show 2 * 0 + _ ≤ _; exact Nat.le_of_eq rfl) (hb hby at_149) (fun _ _ => ⟨rfl, e399, (by decide : 8 + 0 ≤ _), (by decide : 22 + 0 ≤ _)⟩)
    dsimp only [Pt.U, Pt.locs, Pt.cells, Pt.slots] at X413 l413 y413 z413 st413 hQ413
    subst l413 y413 z413
    obtain ⟨rfl, N413q, q413_K, q413_n, q413_r, q413_E, q413_E2, q413_c, q413_v⟩ := hQ413
    have N413 := Fr.app N396 N413q
    have K414 : Keep h0 T413.heap [] := K403.trans q413_K (allS (Or.inr sz_b399) (allS (Or.inr (Nat.le_trans K374.1 q377_z)) all0))
    have p415 : Go p.tables e below _ (T413.setTop (mkF m 165 #[.val (.int p1), .val (.int p2), .val (.int p3), .val (.int p4), .val (.int p5), .val (.int (2 : Int32)), .val (.int (2 : Int32)), .val (.int c10), .val (.int c11), .val (.int c20), .val (.int c21), .val (.int rk1), .val (.int rk2), .val (.ref x371), .val (.ref x378), .val (.ref b383), .val (.ref b399), .unset, .unset] [(.int c20), (.int c10)])) := fun t_ k_ => (gcT p404 st413) t_ (by
      refine XS.astore X413.here hx rfl (hb hby at_152) rfl rfl (l' := #[.val (.int p1), .val (.int p2), .val (.int p3), .val (.int p4), .val (.int p5), .val (.int (2 : Int32)), .val (.int (2 : Int32)), .val (.int c10), .val (.int c11), .val (.int c20), .val (.int c21), .val (.int rk1), .val (.int rk2), .val (.ref x371), .val (.ref x378), .val (.ref b383), .val (.ref b399), .unset, .unset]) rfl ?_
      refine XS.iload X413.here hx rfl (hb hby at_154) rfl ?_
      refine XS.iload X413.here hx rfl (hb hby at_156) rfl ?_
      refine XS.icmpNo X413.here hx rfl (hb hby at_158) rfl (teq (by decide : ((2 : Int32) = (2 : Int32)))).2 ?_
      refine XS.iload X413.here hx rfl (hb hby at_161) rfl ?_
      refine XS.iload X413.here hx rfl (hb hby at_163) rfl ?_
      exact k_)
    have p426 : Go p.tables e below (s₁.setTop (entryFrame m #[(.int p1), (.int p2), (.int p3), (.int p4), (.int p5)] maxLocals)) (T413.setTop (mkF m 186 #[.val (.int p1), .val (.int p2), .val (.int p3), .val (.int p4), .val (.int p5), .val (.int (2 : Int32)), .val (.int (2 : Int32)), .val (.int c10), .val (.int c11), .val (.int c20), .val (.int c21), .val (.int rk1), .val (.int rk2), .val (.ref x371), .val (.ref x378), .val (.ref b383), .val (.ref b399), .unset, .unset] [(.int (if c10 = c20 then (if c11 = c21 then (1 : Int32) else (0 : Int32)) else (0 : Int32)))])) := by
      by_cases c416 : c10 = c20
      · have p417 : Go p.tables e below _ (T413.setTop (mkF m 168 #[.val (.int p1), .val (.int p2), .val (.int p3), .val (.int p4), .val (.int p5), .val (.int (2 : Int32)), .val (.int (2 : Int32)), .val (.int c10), .val (.int c11), .val (.int c20), .val (.int c21), .val (.int rk1), .val (.int rk2), .val (.ref x371), .val (.ref x378), .val (.ref b383), .val (.ref b399), .unset, .unset] [])) := fun t_ k_ => p415 t_ (by
          refine XS.icmpNo X413.here hx rfl (hb hby at_165) rfl (teq c416).2 ?_
          exact k_)
        have p418 : Go p.tables e below _ (T413.setTop (mkF m 178 #[.val (.int p1), .val (.int p2), .val (.int p3), .val (.int p4), .val (.int p5), .val (.int (2 : Int32)), .val (.int (2 : Int32)), .val (.int c10), .val (.int c11), .val (.int c20), .val (.int c21), .val (.int rk1), .val (.int rk2), .val (.ref x371), .val (.ref x378), .val (.ref b383), .val (.ref b399), .unset, .unset] [(.int c21), (.int c11)])) := fun t_ k_ => p417 t_ (by
          refine XS.iload X413.here hx rfl (hb hby at_168) rfl ?_
          refine XS.iconst X413.here hx rfl (hb hby at_170) ?_
          refine XS.icmpNo X413.here hx rfl (hb hby at_171) rfl (feq (by decide : ¬ ((2 : Int32) = (1 : Int32)))).1 ?_
          refine XS.iload X413.here hx rfl (hb hby at_174) rfl ?_
          refine XS.iload X413.here hx rfl (hb hby at_176) rfl ?_
          exact k_)
        by_cases c419 : c11 = c21
        · have p420 : Go p.tables e below _ (T413.setTop (mkF m 181 #[.val (.int p1), .val (.int p2), .val (.int p3), .val (.int p4), .val (.int p5), .val (.int (2 : Int32)), .val (.int (2 : Int32)), .val (.int c10), .val (.int c11), .val (.int c20), .val (.int c21), .val (.int rk1), .val (.int rk2), .val (.ref x371), .val (.ref x378), .val (.ref b383), .val (.ref b399), .unset, .unset] [])) := fun t_ k_ => p418 t_ (by
            refine XS.icmpNo X413.here hx rfl (hb hby at_178) rfl (teq c419).2 ?_
            exact k_)
          have p421 : Go p.tables e below _ (T413.setTop (mkF m 186 #[.val (.int p1), .val (.int p2), .val (.int p3), .val (.int p4), .val (.int p5), .val (.int (2 : Int32)), .val (.int (2 : Int32)), .val (.int c10), .val (.int c11), .val (.int c20), .val (.int c21), .val (.int rk1), .val (.int rk2), .val (.ref x371), .val (.ref x378), .val (.ref b383), .val (.ref b399), .unset, .unset] [(.int (1 : Int32))])) := fun t_ k_ => p420 t_ (by
            refine XS.iconst X413.here hx rfl (hb hby at_181) ?_
            refine XS.goto X413.here hx rfl (pc0 := 182) (pc' := 186) rfl (hb hby at_182) (by decide) (by decide) ?_
            exact k_)
          simp only [if_pos c416, if_pos c419]; exact p421
        · have p422 : Go p.tables e below _ (T413.setTop (mkF m 185 #[.val (.int p1), .val (.int p2), .val (.int p3), .val (.int p4), .val (.int p5), .val (.int (2 : Int32)), .val (.int (2 : Int32)), .val (.int c10), .val (.int c11), .val (.int c20), .val (.int c21), .val (.int rk1), .val (.int rk2), .val (.ref x371), .val (.ref x378), .val (.ref b383), .val (.ref b399), .unset, .unset] [])) := fun t_ k_ => p418 t_ (by
            refine XS.icmpYes X413.here hx rfl (pc0 := 178) (pc' := 185) rfl (hb hby at_178) rfl (feq c419).2 (by decide) (by decide) ?_
            exact k_)
          have p423 : Go p.tables e below _ (T413.setTop (mkF m 186 #[.val (.int p1), .val (.int p2), .val (.int p3), .val (.int p4), .val (.int p5), .val (.int (2 : Int32)), .val (.int (2 : Int32)), .val (.int c10), .val (.int c11), .val (.int c20), .val (.int c21), .val (.int rk1), .val (.int rk2), .val (.ref x371), .val (.ref x378), .val (.ref b383), .val (.ref b399), .unset, .unset] [(.int (0 : Int32))])) := fun t_ k_ => p422 t_ (by
            refine XS.iconst X413.here hx rfl (hb hby at_185) ?_
            exact k_)
          simp only [if_pos c416, if_neg c419]; exact p423
      · have p424 : Go p.tables e below _ (T413.setTop (mkF m 185 #[.val (.int p1), .val (.int p2), .val (.int p3), .val (.int p4), .val (.int p5), .val (.int (2 : Int32)), .val (.int (2 : Int32)), .val (.int c10), .val (.int c11), .val (.int c20), .val (.int c21), .val (.int rk1), .val (.int rk2), .val (.ref x371), .val (.ref x378), .val (.ref b383), .val (.ref b399), .unset, .unset] [])) := fun t_ k_ => p415 t_ (by
          refine XS.icmpYes X413.here hx rfl (pc0 := 165) (pc' := 185) rfl (hb hby at_165) rfl (feq c416).2 (by decide) (by decide) ?_
          exact k_)
        have p425 : Go p.tables e below _ (T413.setTop (mkF m 186 #[.val (.int p1), .val (.int p2), .val (.int p3), .val (.int p4), .val (.int p5), .val (.int (2 : Int32)), .val (.int (2 : Int32)), .val (.int c10), .val (.int c11), .val (.int c20), .val (.int c21), .val (.int rk1), .val (.int rk2), .val (.ref x371), .val (.ref x378), .val (.ref b383), .val (.ref b399), .unset, .unset] [(.int (0 : Int32))])) := fun t_ k_ => p424 t_ (by
          refine XS.iconst X413.here hx rfl (hb hby at_185) ?_
          exact k_)
        simp only [if_neg c416]; exact p425
    obtain ⟨sn, hsn⟩ : ∃ z, z = (if c10 = c20 then (if c11 = c21 then (1 : Int32) else (0 : Int32)) else (0 : Int32)) := ⟨_, rfl⟩
    have p427 : Go p.tables e below (s₁.setTop (entryFrame m #[(.int p1), (.int p2), (.int p3), (.int p4), (.int p5)] maxLocals)) (T413.setTop (mkF m 186 #[.val (.int p1), .val (.int p2), .val (.int p3), .val (.int p4), .val (.int p5), .val (.int (2 : Int32)), .val (.int (2 : Int32)), .val (.int c10), .val (.int c11), .val (.int c20), .val (.int c21), .val (.int rk1), .val (.int rk2), .val (.ref x371), .val (.ref x378), .val (.ref b383), .val (.ref b399), .unset, .unset] [(.int sn)])) := by rw [hsn]; exact p426
    have p428 : Go p.tables e below _ (T413.setTop (mkF m 190 #[.val (.int p1), .val (.int p2), .val (.int p3), .val (.int p4), .val (.int p5), .val (.int (2 : Int32)), .val (.int (2 : Int32)), .val (.int c10), .val (.int c11), .val (.int c20), .val (.int c21), .val (.int rk1), .val (.int rk2), .val (.ref x371), .val (.ref x378), .val (.ref b383), .val (.ref b399), .val (.int sn), .unset] [(.int sn)])) := fun t_ k_ => p427 t_ (by
      refine XS.istore X413.here hx rfl (hb hby at_186) rfl (l' := #[.val (.int p1), .val (.int p2), .val (.int p3), .val (.int p4), .val (.int p5), .val (.int (2 : Int32)), .val (.int (2 : Int32)), .val (.int c10), .val (.int c11), .val (.int c20), .val (.int c21), .val (.int rk1), .val (.int rk2), .val (.ref x371), .val (.ref x378), .val (.ref b383), .val (.ref b399), .val (.int sn), .unset]) rfl ?_
      refine XS.iload X413.here hx rfl (hb hby at_188) rfl ?_
      exact k_)
    have p439 : Go p.tables e below (s₁.setTop (entryFrame m #[(.int p1), (.int p2), (.int p3), (.int p4), (.int p5)] maxLocals)) (T413.setTop (mkF m 205 #[.val (.int p1), .val (.int p2), .val (.int p3), .val (.int p4), .val (.int p5), .val (.int (2 : Int32)), .val (.int (2 : Int32)), .val (.int c10), .val (.int c11), .val (.int c20), .val (.int c21), .val (.int rk1), .val (.int rk2), .val (.ref x371), .val (.ref x378), .val (.ref b383), .val (.ref b399), .val (.int sn), .unset] [(.int (if sn = (0 : Int32) then (0 : Int32) else (if rk1 = rk2 then (1 : Int32) else (0 : Int32))))])) := by
      by_cases c429 : sn = (0 : Int32)
      · have p430 : Go p.tables e below _ (T413.setTop (mkF m 204 #[.val (.int p1), .val (.int p2), .val (.int p3), .val (.int p4), .val (.int p5), .val (.int (2 : Int32)), .val (.int (2 : Int32)), .val (.int c10), .val (.int c11), .val (.int c20), .val (.int c21), .val (.int rk1), .val (.int rk2), .val (.ref x371), .val (.ref x378), .val (.ref b383), .val (.ref b399), .val (.int sn), .unset] [])) := fun t_ k_ => p428 t_ (by
          refine XS.ifYes X413.here hx rfl (pc0 := 190) (pc' := 204) rfl (hb hby at_190) rfl ((if0 _ _).trans (teq c429).1) (by decide) (by decide) ?_
          exact k_)
        have p431 : Go p.tables e below _ (T413.setTop (mkF m 205 #[.val (.int p1), .val (.int p2), .val (.int p3), .val (.int p4), .val (.int p5), .val (.int (2 : Int32)), .val (.int (2 : Int32)), .val (.int c10), .val (.int c11), .val (.int c20), .val (.int c21), .val (.int rk1), .val (.int rk2), .val (.ref x371), .val (.ref x378), .val (.ref b383), .val (.ref b399), .val (.int sn), .unset] [(.int (0 : Int32))])) := fun t_ k_ => p430 t_ (by
          refine XS.iconst X413.here hx rfl (hb hby at_204) ?_
          exact k_)
        simp only [if_pos c429]; exact p431
      · have p432 : Go p.tables e below _ (T413.setTop (mkF m 193 #[.val (.int p1), .val (.int p2), .val (.int p3), .val (.int p4), .val (.int p5), .val (.int (2 : Int32)), .val (.int (2 : Int32)), .val (.int c10), .val (.int c11), .val (.int c20), .val (.int c21), .val (.int rk1), .val (.int rk2), .val (.ref x371), .val (.ref x378), .val (.ref b383), .val (.ref b399), .val (.int sn), .unset] [])) := fun t_ k_ => p428 t_ (by
          refine XS.ifNo X413.here hx rfl (hb hby at_190) rfl ((if0 _ _).trans (feq c429).1) ?_
          exact k_)
        have p433 : Go p.tables e below _ (T413.setTop (mkF m 197 #[.val (.int p1), .val (.int p2), .val (.int p3), .val (.int p4), .val (.int p5), .val (.int (2 : Int32)), .val (.int (2 : Int32)), .val (.int c10), .val (.int c11), .val (.int c20), .val (.int c21), .val (.int rk1), .val (.int rk2), .val (.ref x371), .val (.ref x378), .val (.ref b383), .val (.ref b399), .val (.int sn), .unset] [(.int rk2), (.int rk1)])) := fun t_ k_ => p432 t_ (by
          refine XS.iload X413.here hx rfl (hb hby at_193) rfl ?_
          refine XS.iload X413.here hx rfl (hb hby at_195) rfl ?_
          exact k_)
        by_cases c434 : rk1 = rk2
        · have p435 : Go p.tables e below _ (T413.setTop (mkF m 200 #[.val (.int p1), .val (.int p2), .val (.int p3), .val (.int p4), .val (.int p5), .val (.int (2 : Int32)), .val (.int (2 : Int32)), .val (.int c10), .val (.int c11), .val (.int c20), .val (.int c21), .val (.int rk1), .val (.int rk2), .val (.ref x371), .val (.ref x378), .val (.ref b383), .val (.ref b399), .val (.int sn), .unset] [])) := fun t_ k_ => p433 t_ (by
            refine XS.icmpNo X413.here hx rfl (hb hby at_197) rfl (teq c434).2 ?_
            exact k_)
          have p436 : Go p.tables e below _ (T413.setTop (mkF m 205 #[.val (.int p1), .val (.int p2), .val (.int p3), .val (.int p4), .val (.int p5), .val (.int (2 : Int32)), .val (.int (2 : Int32)), .val (.int c10), .val (.int c11), .val (.int c20), .val (.int c21), .val (.int rk1), .val (.int rk2), .val (.ref x371), .val (.ref x378), .val (.ref b383), .val (.ref b399), .val (.int sn), .unset] [(.int (1 : Int32))])) := fun t_ k_ => p435 t_ (by
            refine XS.iconst X413.here hx rfl (hb hby at_200) ?_
            refine XS.goto X413.here hx rfl (pc0 := 201) (pc' := 205) rfl (hb hby at_201) (by decide) (by decide) ?_
            exact k_)
          simp only [if_neg c429, if_pos c434]; exact p436
        · have p437 : Go p.tables e below _ (T413.setTop (mkF m 204 #[.val (.int p1), .val (.int p2), .val (.int p3), .val (.int p4), .val (.int p5), .val (.int (2 : Int32)), .val (.int (2 : Int32)), .val (.int c10), .val (.int c11), .val (.int c20), .val (.int c21), .val (.int rk1), .val (.int rk2), .val (.ref x371), .val (.ref x378), .val (.ref b383), .val (.ref b399), .val (.int sn), .unset] [])) := fun t_ k_ => p433 t_ (by
            refine XS.icmpYes X413.here hx rfl (pc0 := 197) (pc' := 204) rfl (hb hby at_197) rfl (feq c434).2 (by decide) (by decide) ?_
            exact k_)
          have p438 : Go p.tables e below _ (T413.setTop (mkF m 205 #[.val (.int p1), .val (.int p2), .val (.int p3), .val (.int p4), .val (.int p5), .val (.int (2 : Int32)), .val (.int (2 : Int32)), .val (.int c10), .val (.int c11), .val (.int c20), .val (.int c21), .val (.int rk1), .val (.int rk2), .val (.ref x371), .val (.ref x378), .val (.ref b383), .val (.ref b399), .val (.int sn), .unset] [(.int (0 : Int32))])) := fun t_ k_ => p437 t_ (by
            refine XS.iconst X413.here hx rfl (hb hby at_204) ?_
            exact k_)
          simp only [if_neg c429, if_neg c434]; exact p438
    obtain ⟨ex, hex⟩ : ∃ z, z = (if sn = (0 : Int32) then (0 : Int32) else (if rk1 = rk2 then (1 : Int32) else (0 : Int32))) := ⟨_, rfl⟩
    have p440 : Go p.tables e below (s₁.setTop (entryFrame m #[(.int p1), (.int p2), (.int p3), (.int p4), (.int p5)] maxLocals)) (T413.setTop (mkF m 205 #[.val (.int p1), .val (.int p2), .val (.int p3), .val (.int p4), .val (.int p5), .val (.int (2 : Int32)), .val (.int (2 : Int32)), .val (.int c10), .val (.int c11), .val (.int c20), .val (.int c21), .val (.int rk1), .val (.int rk2), .val (.ref x371), .val (.ref x378), .val (.ref b383), .val (.ref b399), .val (.int sn), .unset] [(.int ex)])) := by rw [hex]; exact p439
    have p441 : Go p.tables e below _ (T413.setTop (mkF m 211 #[.val (.int p1), .val (.int p2), .val (.int p3), .val (.int p4), .val (.int p5), .val (.int (2 : Int32)), .val (.int (2 : Int32)), .val (.int c10), .val (.int c11), .val (.int c20), .val (.int c21), .val (.int rk1), .val (.int rk2), .val (.ref x371), .val (.ref x378), .val (.ref b383), .val (.ref b399), .val (.int sn), .val (.int ex)] [(.ref b399), (.ref b383)])) := fun t_ k_ => p440 t_ (by
      refine XS.istore X413.here hx rfl (hb hby at_205) rfl (l' := #[.val (.int p1), .val (.int p2), .val (.int p3), .val (.int p4), .val (.int p5), .val (.int (2 : Int32)), .val (.int (2 : Int32)), .val (.int c10), .val (.int c11), .val (.int c20), .val (.int c21), .val (.int rk1), .val (.int rk2), .val (.ref x371), .val (.ref x378), .val (.ref b383), .val (.ref b399), .val (.int sn), .val (.int ex)]) rfl ?_
      refine XS.aload X413.here hx rfl (hb hby at_207) rfl rfl ?_
      refine XS.aload X413.here hx rfl (hb hby at_209) rfl rfl ?_
      exact k_)
    have f442 := (f405.keep q413_K (allS ge_b399 (allS q377_g all0)))
    have f443 := ((q396_n.ext E399).keep q413_K (ninS ne_b383_b399 (ninS (Ne.symm ne_x378_b383) nin0)))
    have f444 := ((q396_r.ext E399).keep q413_K (ninS ne_b383_b399 (ninS (Ne.symm ne_x378_b383) nin0)))
    have f445 := ((q396_E2.ext E399).keep q413_K)
    have f446 := ((q396_c.ext E399).keep q413_K (ninS ne_x371_b399 (ninS ne_x371_x378 nin0)))
    have f447 := ((q396_v.ext E399).keep q413_K (ninS ne_x371_b399 (ninS ne_x371_x378 nin0)))
    have f448 := ((f400.ext E399).keep q413_K (ninS ne_x372_b399 (ninS ne_x372_x378 nin0)))
    have f449 := (f411.keep q413_K (ninS ne_x379_b399 (ninS (Ne.symm q377_n) nin0)))
    have f451 := ((q396_E.ext E399).keep q413_K)
    obtain ⟨cq450, kq450, q450a, q450b, q450c⟩ := isOf hZ rfl f451
    obtain ⟨_, _, ⟨T450, L450, k450, n450⟩, -, X450, ⟨Lc450, hQ450, l450, y450, z450⟩, st450⟩ := X413.virtualBack hx (y := (⟨"com/example/kuusi/kuusi/core/Symbol", "equals", "(Ljava/lang/Object;)Z"⟩ : MethodName)) (z := (⟨"com/example/kuusi/kuusi/core/Symbol", "equals", "(Ljava/lang/Object;)Z"⟩ : MethodName)) hown (mvT hZ (own_w hw 71 rfl)) (mvT hZ (own_w hw 72 rfl)) (notFace_of_selects (args := #[]) (mvT hZ (own_w hw 74 rfl))) (mvT hZ (own_w hw 74 rfl)) (mvT hZ (own_w hw 73 rfl)) (by decide) (backOf (W := 0) (rm13_22 l Z a0 hw [] b383 b399 x371 x378 rk1 rk2 x372 x379 x373 x380 (nar .byte ((nar .char c10).toInt8.toInt32)) (nar .byte ((nar .char c11).toInt8.toInt32)) (nar .byte ((nar .char c20).toInt8.toInt32)) (nar .byte ((nar .char c21).toInt8.toInt32)) cs1 fm T413.heap n0 (Nat.le_trans Z0 K414.1) f442 G q413_E ne_b383_b399 f443 q413_n f444 q413_r ne_x371_x378 f445 q413_E2 f446 q413_c f447 q413_v f448 f449) hZ (own_w hw 75 rfl) (own_w hw 37 rfl) (by decide) (by decide)) q450a q450c (g := (mkF m 211 #[.val (.int p1), .val (.int p2), .val (.int p3), .val (.int p4), .val (.int p5), .val (.int (2 : Int32)), .val (.int (2 : Int32)), .val (.int c10), .val (.int c11), .val (.int c20), .val (.int c21), .val (.int rk1), .val (.int rk2), .val (.ref x371), .val (.ref x378), .val (.ref b383), .val (.ref b399), .val (.int sn), .val (.int ex)] [(.ref b399), (.ref b383)])) rfl (by rw [hml]; rfl) (Steps.refl _) (argsL := [(.ref b399)]) (rest := []) (lenOf pd11 rfl) rfl (by show 2 * 0 + _ ≤ _; exact Nat.le_of_eq rfl) (hb hby at_211) (fun _ _ => ⟨rfl, rfl, (by decide : 8 + 0 ≤ _), (by decide : 22 + 0 ≤ _)⟩)
    dsimp only [Pt.U, Pt.locs, Pt.cells, Pt.slots] at X450 l450 y450 z450 st450 hQ450
    subst l450 y450 z450
    obtain ⟨rfl, N450q, q450_hh⟩ := hQ450
    have N450 := Fr.app N413 N450q
    have p452 : Go p.tables e below _ (T450.setTop (mkF m 216 #[.val (.int p1), .val (.int p2), .val (.int p3), .val (.int p4), .val (.int p5), .val (.int (2 : Int32)), .val (.int (2 : Int32)), .val (.int c10), .val (.int c11), .val (.int c20), .val (.int c21), .val (.int rk1), .val (.int rk2), .val (.ref x371), .val (.ref x378), .val (.ref b383), .val (.ref b399), .val (.int sn), .val (.int ex)] [(.int ex), (.int (own_se (if (nar .byte ((nar .char c10).toInt8.toInt32)) = (nar .byte ((nar .char c20).toInt8.toInt32)) then (if (nar .byte ((nar .char c11).toInt8.toInt32)) = (nar .byte ((nar .char c21).toInt8.toInt32)) then (1 : Int32) else (0 : Int32)) else (0 : Int32)) rk1 rk2))])) := fun t_ k_ => (gcT p441 st450) t_ (by
      refine XS.iload X450.here hx rfl (hb hby at_214) rfl ?_
      exact k_)
    have c453 : ((own_se (if (nar .byte ((nar .char c10).toInt8.toInt32)) = (nar .byte ((nar .char c20).toInt8.toInt32)) then (if (nar .byte ((nar .char c11).toInt8.toInt32)) = (nar .byte ((nar .char c21).toInt8.toInt32)) then (1 : Int32) else (0 : Int32)) else (0 : Int32)) rk1 rk2) = ex) := (own_f2 q10 q20 q11 q21 hsn hex).1
    have p454 : Go p.tables e below _ (T450.setTop (mkF m 225 #[.val (.int p1), .val (.int p2), .val (.int p3), .val (.int p4), .val (.int p5), .val (.int (2 : Int32)), .val (.int (2 : Int32)), .val (.int c10), .val (.int c11), .val (.int c20), .val (.int c21), .val (.int rk1), .val (.int rk2), .val (.ref x371), .val (.ref x378), .val (.ref b383), .val (.ref b399), .val (.int sn), .val (.int ex)] [(.ref b383), (.ref b399)])) := fun t_ k_ => p452 t_ (by
      refine XS.icmpYes X450.here hx rfl (pc0 := 216) (pc' := 221) rfl (hb hby at_216) rfl (teq c453).1 (by decide) (by decide) ?_
      refine XS.aload X450.here hx rfl (hb hby at_221) rfl rfl ?_
      refine XS.aload X450.here hx rfl (hb hby at_223) rfl rfl ?_
      exact k_)
    obtain ⟨cq455, kq455, q455a, q455b, q455c⟩ := isOf hZ q450_hh q413_E
    obtain ⟨_, _, ⟨T455, L455, k455, n455⟩, -, X455, ⟨Lc455, hQ455, l455, y455, z455⟩, st455⟩ := X450.virtualBack hx (y := (⟨"com/example/kuusi/kuusi/core/Symbol", "equals", "(Ljava/lang/Object;)Z"⟩ : MethodName)) (z := (⟨"com/example/kuusi/kuusi/core/Symbol", "equals", "(Ljava/lang/Object;)Z"⟩ : MethodName)) hown (mvT hZ (own_w hw 71 rfl)) (mvT hZ (own_w hw 72 rfl)) (notFace_of_selects (args := #[]) (mvT hZ (own_w hw 74 rfl))) (mvT hZ (own_w hw 74 rfl)) (mvT hZ (own_w hw 73 rfl)) (by decide) (backOf (W := 0) (rm13_22 l Z a0 hw [] b399 b383 x378 x371 rk2 rk1 x379 x372 x380 x373 (nar .byte ((nar .char c20).toInt8.toInt32)) (nar .byte ((nar .char c21).toInt8.toInt32)) (nar .byte ((nar .char c10).toInt8.toInt32)) (nar .byte ((nar .char c11).toInt8.toInt32)) cs1 fm T413.heap n0 (Nat.le_trans Z0 K414.1) f442 G f451 (Ne.symm ne_b383_b399) q413_n f443 q413_r f444 (Ne.symm ne_x371_x378) q413_E2 f445 q413_c f446 q413_v f447 f449 f448) hZ (own_w hw 75 rfl) (own_w hw 37 rfl) (by decide) (by decide)) q455a q455c (g := (mkF m 225 #[.val (.int p1), .val (.int p2), .val (.int p3), .val (.int p4), .val (.int p5), .val (.int (2 : Int32)), .val (.int (2 : Int32)), .val (.int c10), .val (.int c11), .val (.int c20), .val (.int c21), .val (.int rk1), .val (.int rk2), .val (.ref x371), .val (.ref x378), .val (.ref b383), .val (.ref b399), .val (.int sn), .val (.int ex)] [(.ref b383), (.ref b399)])) rfl (by rw [hml]; rfl) (Steps.refl _) (argsL := [(.ref b383)]) (rest := []) (lenOf pd11 rfl) rfl (by show 2 * 0 + _ ≤ _; exact Nat.le_of_eq rfl) (hb hby at_225) (fun _ _ => ⟨rfl, q450_hh, (by decide : 8 + 0 ≤ _), (by decide : 22 + 0 ≤ _)⟩)
    dsimp only [Pt.U, Pt.locs, Pt.cells, Pt.slots] at X455 l455 y455 z455 st455 hQ455
    subst l455 y455 z455
    obtain ⟨rfl, N455q, q455_hh⟩ := hQ455
    have N455 := Fr.app N450 N455q
    have p456 : Go p.tables e below _ (T455.setTop (mkF m 230 #[.val (.int p1), .val (.int p2), .val (.int p3), .val (.int p4), .val (.int p5), .val (.int (2 : Int32)), .val (.int (2 : Int32)), .val (.int c10), .val (.int c11), .val (.int c20), .val (.int c21), .val (.int rk1), .val (.int rk2), .val (.ref x371), .val (.ref x378), .val (.ref b383), .val (.ref b399), .val (.int sn), .val (.int ex)] [(.int ex), (.int (own_se (if (nar .byte ((nar .char c20).toInt8.toInt32)) = (nar .byte ((nar .char c10).toInt8.toInt32)) then (if (nar .byte ((nar .char c21).toInt8.toInt32)) = (nar .byte ((nar .char c11).toInt8.toInt32)) then (1 : Int32) else (0 : Int32)) else (0 : Int32)) rk2 rk1))])) := fun t_ k_ => (gcT p454 st455) t_ (by
      refine XS.iload X455.here hx rfl (hb hby at_228) rfl ?_
      exact k_)
    have c457 : ((own_se (if (nar .byte ((nar .char c20).toInt8.toInt32)) = (nar .byte ((nar .char c10).toInt8.toInt32)) then (if (nar .byte ((nar .char c21).toInt8.toInt32)) = (nar .byte ((nar .char c11).toInt8.toInt32)) then (1 : Int32) else (0 : Int32)) else (0 : Int32)) rk2 rk1) = ex) := (own_f2 q10 q20 q11 q21 hsn hex).2
    have p458 : Go p.tables e below _ (T455.setTop (mkF m 239 #[.val (.int p1), .val (.int p2), .val (.int p3), .val (.int p4), .val (.int p5), .val (.int (2 : Int32)), .val (.int (2 : Int32)), .val (.int c10), .val (.int c11), .val (.int c20), .val (.int c21), .val (.int rk1), .val (.int rk2), .val (.ref x371), .val (.ref x378), .val (.ref b383), .val (.ref b399), .val (.int sn), .val (.int ex)] [(.ref b383), (.ref b383)])) := fun t_ k_ => p456 t_ (by
      refine XS.icmpYes X455.here hx rfl (pc0 := 230) (pc' := 235) rfl (hb hby at_230) rfl (teq c457).1 (by decide) (by decide) ?_
      refine XS.aload X455.here hx rfl (hb hby at_235) rfl rfl ?_
      refine XS.aload X455.here hx rfl (hb hby at_237) rfl rfl ?_
      exact k_)
    obtain ⟨cq459, kq459, q459a, q459b, q459c⟩ := isOf hZ q455_hh f451
    obtain ⟨_, _, ⟨T459, L459, k459, n459⟩, -, X459, ⟨Lc459, hQ459, l459, y459, z459⟩, st459⟩ := X455.virtualBack hx (y := (⟨"com/example/kuusi/kuusi/core/Symbol", "equals", "(Ljava/lang/Object;)Z"⟩ : MethodName)) (z := (⟨"com/example/kuusi/kuusi/core/Symbol", "equals", "(Ljava/lang/Object;)Z"⟩ : MethodName)) hown (mvT hZ (own_w hw 71 rfl)) (mvT hZ (own_w hw 72 rfl)) (notFace_of_selects (args := #[]) (mvT hZ (own_w hw 74 rfl))) (mvT hZ (own_w hw 74 rfl)) (mvT hZ (own_w hw 73 rfl)) (by decide) (backOf (W := 0) (rm13_s l Z a0 hw [] b383 T413.heap n0 (Nat.le_trans Z0 K414.1) ) hZ (own_w hw 75 rfl) (own_w hw 37 rfl) (by decide) (by decide)) q459a q459c (g := (mkF m 239 #[.val (.int p1), .val (.int p2), .val (.int p3), .val (.int p4), .val (.int p5), .val (.int (2 : Int32)), .val (.int (2 : Int32)), .val (.int c10), .val (.int c11), .val (.int c20), .val (.int c21), .val (.int rk1), .val (.int rk2), .val (.ref x371), .val (.ref x378), .val (.ref b383), .val (.ref b399), .val (.int sn), .val (.int ex)] [(.ref b383), (.ref b383)])) rfl (by rw [hml]; rfl) (Steps.refl _) (argsL := [(.ref b383)]) (rest := []) (lenOf pd11 rfl) rfl (by show 2 * 0 + _ ≤ _; exact Nat.le_of_eq rfl) (hb hby at_239) (fun _ _ => ⟨rfl, q455_hh, (by decide : 8 + 0 ≤ _), (by decide : 22 + 0 ≤ _)⟩)
    dsimp only [Pt.U, Pt.locs, Pt.cells, Pt.slots] at X459 l459 y459 z459 st459 hQ459
    subst l459 y459 z459
    obtain ⟨rfl, N459q, q459_hh⟩ := hQ459
    have N459 := Fr.app N455 N459q
    have p460 : Go p.tables e below _ (T459.setTop (mkF m 250 #[.val (.int p1), .val (.int p2), .val (.int p3), .val (.int p4), .val (.int p5), .val (.int (2 : Int32)), .val (.int (2 : Int32)), .val (.int c10), .val (.int c11), .val (.int c20), .val (.int c21), .val (.int rk1), .val (.int rk2), .val (.ref x371), .val (.ref x378), .val (.ref b383), .val (.ref b399), .val (.int sn), .val (.int ex)] [.null, (.ref b383)])) := fun t_ k_ => (gcT p458 st459) t_ (by
      refine XS.ifYes X459.here hx rfl (pc0 := 242) (pc' := 247) rfl (hb hby at_242) rfl ((if0 _ _).trans (feq (by decide : ¬ ((1 : Int32) = (0 : Int32)))).2) (by decide) (by decide) ?_
      refine XS.aload X459.here hx rfl (hb hby at_247) rfl rfl ?_
      refine XS.aconstNull X459.here hx rfl (hb hby at_249) ?_
      exact k_)
    obtain ⟨cq461, kq461, q461a, q461b, q461c⟩ := isOf hZ q459_hh f451
    obtain ⟨_, _, ⟨T461, L461, k461, n461⟩, -, X461, ⟨Lc461, hQ461, l461, y461, z461⟩, st461⟩ := X459.virtualBack hx (y := (⟨"com/example/kuusi/kuusi/core/Symbol", "equals", "(Ljava/lang/Object;)Z"⟩ : MethodName)) (z := (⟨"com/example/kuusi/kuusi/core/Symbol", "equals", "(Ljava/lang/Object;)Z"⟩ : MethodName)) hown (mvT hZ (own_w hw 71 rfl)) (mvT hZ (own_w hw 72 rfl)) (notFace_of_selects (args := #[]) (mvT hZ (own_w hw 74 rfl))) (mvT hZ (own_w hw 74 rfl)) (mvT hZ (own_w hw 73 rfl)) (by decide) (backOf (W := 0) (rm13_n l Z a0 hw [] b383 T413.heap n0 (Nat.le_trans Z0 K414.1) ) hZ (own_w hw 75 rfl) (own_w hw 37 rfl) (by decide) (by decide)) q461a q461c (g := (mkF m 250 #[.val (.int p1), .val (.int p2), .val (.int p3), .val (.int p4), .val (.int p5), .val (.int (2 : Int32)), .val (.int (2 : Int32)), .val (.int c10), .val (.int c11), .val (.int c20), .val (.int c21), .val (.int rk1), .val (.int rk2), .val (.ref x371), .val (.ref x378), .val (.ref b383), .val (.ref b399), .val (.int sn), .val (.int ex)] [.null, (.ref b383)])) rfl (by rw [hml]; rfl) (Steps.refl _) (argsL := [.null]) (rest := []) (lenOf pd11 rfl) rfl (by show 2 * 0 + _ ≤ _; exact Nat.le_of_eq rfl) (hb hby at_250) (fun _ _ => ⟨rfl, q459_hh, (by decide : 8 + 0 ≤ _), (by decide : 22 + 0 ≤ _)⟩)
    dsimp only [Pt.U, Pt.locs, Pt.cells, Pt.slots] at X461 l461 y461 z461 st461 hQ461
    subst l461 y461 z461
    obtain ⟨rfl, N461q, q461_hh⟩ := hQ461
    have N461 := Fr.app N459 N461q
    have p462 : Go p.tables e below _ (T461.setTop (mkF m 262 #[.val (.int p1), .val (.int p2), .val (.int p3), .val (.int p4), .val (.int p5), .val (.int (2 : Int32)), .val (.int (2 : Int32)), .val (.int c10), .val (.int c11), .val (.int c20), .val (.int c21), .val (.int rk1), .val (.int rk2), .val (.ref x371), .val (.ref x378), .val (.ref b383), .val (.ref b399), .val (.int sn), .val (.int ex)] [(.ref x371), (.ref b383)])) := fun t_ k_ => (gcT p460 st461) t_ (by
      refine XS.ifYes X461.here hx rfl (pc0 := 253) (pc' := 258) rfl (hb hby at_253) rfl ((if0 _ _).trans (teq (by decide : ((0 : Int32) = (0 : Int32)))).1) (by decide) (by decide) ?_
      refine XS.aload X461.here hx rfl (hb hby at_258) rfl rfl ?_
      refine XS.aload X461.here hx rfl (hb hby at_260) rfl rfl ?_
      exact k_)
    obtain ⟨cq463, kq463, q463a, q463b, q463c⟩ := isOf hZ q461_hh f451
    obtain ⟨_, _, ⟨T463, L463, k463, n463⟩, -, X463, ⟨Lc463, hQ463, l463, y463, z463⟩, st463⟩ := X461.virtualBack hx (y := (⟨"com/example/kuusi/kuusi/core/Symbol", "equals", "(Ljava/lang/Object;)Z"⟩ : MethodName)) (z := (⟨"com/example/kuusi/kuusi/core/Symbol", "equals", "(Ljava/lang/Object;)Z"⟩ : MethodName)) hown (mvT hZ (own_w hw 71 rfl)) (mvT hZ (own_w hw 72 rfl)) (notFace_of_selects (args := #[]) (mvT hZ (own_w hw 74 rfl))) (mvT hZ (own_w hw 74 rfl)) (mvT hZ (own_w hw 73 rfl)) (by decide) (backOf (W := 0) (rm13_o l Z a0 hw [] b383 x371 T413.heap n0 (Nat.le_trans Z0 K414.1) f445 (Ne.symm ne_x371_b383)) hZ (own_w hw 75 rfl) (own_w hw 37 rfl) (by decide) (by decide)) q463a q463c (g := (mkF m 262 #[.val (.int p1), .val (.int p2), .val (.int p3), .val (.int p4), .val (.int p5), .val (.int (2 : Int32)), .val (.int (2 : Int32)), .val (.int c10), .val (.int c11), .val (.int c20), .val (.int c21), .val (.int rk1), .val (.int rk2), .val (.ref x371), .val (.ref x378), .val (.ref b383), .val (.ref b399), .val (.int sn), .val (.int ex)] [(.ref x371), (.ref b383)])) rfl (by rw [hml]; rfl) (Steps.refl _) (argsL := [(.ref x371)]) (rest := []) (lenOf pd11 rfl) rfl (by show 2 * 0 + _ ≤ _; exact Nat.le_of_eq rfl) (hb hby at_262) (fun _ _ => ⟨rfl, q461_hh, (by decide : 8 + 0 ≤ _), (by decide : 22 + 0 ≤ _)⟩)
    dsimp only [Pt.U, Pt.locs, Pt.cells, Pt.slots] at X463 l463 y463 z463 st463 hQ463
    subst l463 y463 z463
    obtain ⟨rfl, N463q, q463_hh⟩ := hQ463
    have N463 := Fr.app N461 N463q
    have p464 : Go p.tables e below _ (T463.setTop (mkF m 271 #[.val (.int p1), .val (.int p2), .val (.int p3), .val (.int p4), .val (.int p5), .val (.int (2 : Int32)), .val (.int (2 : Int32)), .val (.int c10), .val (.int c11), .val (.int c20), .val (.int c21), .val (.int rk1), .val (.int rk2), .val (.ref x371), .val (.ref x378), .val (.ref b383), .val (.ref b399), .val (.int sn), .val (.int ex)] [(.int (1 : Int32))])) := fun t_ k_ => (gcT p462 st463) t_ (by
      refine XS.ifYes X463.here hx rfl (pc0 := 265) (pc' := 270) rfl (hb hby at_265) rfl ((if0 _ _).trans (teq (by decide : ((0 : Int32) = (0 : Int32)))).1) (by decide) (by decide) ?_
      refine XS.iconst X463.here hx rfl (hb hby at_270) ?_
      exact k_)
    obtain ⟨fs, hr, hrun, hended, hW, hsame⟩ := X463.leave (v := some (.int (1 : Int32))) (fun h => by rw [Bd.returns] at h; cases h)
    refine ⟨_, _, p464 _ (retN X463 hx (t := .boolean) Bd.returns (by simp) (hb hby at_271) hr), hrun, hended, _, _, rfl, ?_, ⟨_, rfl⟩, hW, hsame.mono (by decide) (by decide)⟩
    show Q0 Z p1 p2 p3 p4 p5 cs1 fm h0 n0 _ T463.heap _
    rw [q463_hh]
    exact ⟨rfl, N463⟩
set_option maxRecDepth 65536 in
set_option maxHeartbeats 40000000 in
theorem comes_1 {Post : Tables → Env → Array Value → State → Outcome → State → Prop} (hpost : ∀ tb e args s v u, (limb_1_1.after args s (.returned v) u = true ∧ limb_1_2.after args s (.returned v) u = true ∧ True) → FrameEnd s (.returned v) u (Jvm.fieldLocs frame_1_writes args s ++ Jvm.arrayLocs frame_1_arrays args s ++ Jvm.staticLocs frame_1_statics s) 24 128 → Post tb e args s (.returned v) u) :
    ArmFor flags0 classFile x code maxLocals ret World_1 tables_1 room_1 Calls_1 rest_1 Pre_1 Post := by
  intro l hfl _ _ p e ha hc hk s m args below hf hA hF happ hP
  obtain ⟨hcalls, hrest, hpre⟩ := hP
  obtain ⟨-, -, -, hnamed, -, -, -, hat⟩ := (Spec.applies_iff hf).mp happ
  obtain ⟨hg, hn⟩ := and_e (Cond.before_iff.mp (show (Jvm.Cond.and given_1 narrow_1).before args s = true from hpre))
  obtain ⟨ga, gb0⟩ := and_e hg
  obtain ⟨gi0, gb1⟩ := and_e gb0
  obtain ⟨gi1, gb2⟩ := and_e gb1
  obtain ⟨gi2, gb3⟩ := and_e gb2
  obtain ⟨gi3, gb4⟩ := and_e gb3
  have gi4 := gb4
  obtain ⟨w0, w1, w2, w3, w4, rfl⟩ : ∃ w0 w1 w2 w3 w4 : Value, args = #[w0, w1, w2, w3, w4] := by
    have hs : args.size = 5 := by simpa [Cond.value, given_1] using ga
    obtain ⟨L⟩ := args
    match L, hs with
    | [w0, w1, w2, w3, w4], _ => exact ⟨w0, w1, w2, w3, w4, rfl⟩
  have hw := fun d (hd : d ∈ tables_1) => atoms_spec (ws := Jvm.Cond.code x code maxLocals ret :: tables_1) hat d (List.mem_cons_of_mem _ hd)
  have hfit : Fit s := fun {y c} hc i hi => by
    obtain ⟨ha, rfl⟩ := Array.getElem?_eq_some_iff.mp hc
    have q := List.all_eq_true.mp ((Array.all_eq_true_iff_forall_mem.mp hF) _ (Array.getElem_mem ha)) i (List.mem_range.mpr hi)
    simpa [Array.getElem?_eq_getElem hi] using q
  obtain ⟨hsets, hown0⟩ := atoms_of _ (rest_1_c_eq ▸ (show rest_1_c.before _ s = true from hrest))
  have hr0 := Cond.before_iff.mp hown0
  obtain ⟨i0, ei0⟩ := is_v gi0
  obtain rfl : w0 = (.int i0) := Option.some.inj ei0
  obtain ⟨i1, ei1⟩ := is_v gi1
  obtain rfl : w1 = (.int i1) := Option.some.inj ei1
  obtain ⟨i2, ei2⟩ := is_v gi2
  obtain rfl : w2 = (.int i2) := Option.some.inj ei2
  obtain ⟨i3, ei3⟩ := is_v gi3
  obtain rfl : w3 = (.int i3) := Option.some.inj ei3
  obtain ⟨i4, ei4⟩ := is_v gi4
  obtain rfl : w4 = (.int i4) := Option.some.inj ei4
  obtain ⟨cs1, evc⟩ := is_v (Cond.before_iff.mp (hsets _ (List.mem_of_getElem? (i := 1) rfl)))
  have SC := Sta.start evc (Or.inl (hsets _ (List.mem_of_getElem? (i := 0) rfl)))
  have hcs : ¬ (cs1 = (0 : Int32)) := neqInt evc (Cond.before_iff.mp (hsets _ (List.mem_of_getElem? (i := 2) rfl)))
  obtain ⟨fm, evf, hfm⟩ := isR_v (Cond.before_iff.mp (hsets _ (List.mem_of_getElem? (i := 8) rfl)))
  have SF := Sta.start evf (Or.inl (hsets _ (List.mem_of_getElem? (i := 7) rfl)))
  obtain ⟨n, o, h1, h2, h3, _, L, rfl, ⟨rfl, N⟩, hq⟩ := rm0 l s _ hw tables_1 i0 i1 i2 i3 i4 cs1 fm s.heap s.heap.size (Nat.le_refl _) (Old.start s) ⟨SC, hcs, SF, hfm⟩ p e ha hc hk s m _ below hf ((Spec.applies_iff_loose hf).mp happ).1 ⟨rfl, State.Warmed39.refl s, rfl⟩ trivial
  refine ⟨n, _, h1, h2, h3, hpost _ _ _ _ _ _ ⟨Cond.after_iff.mpr rfl, Cond.after_iff.mpr (eq_i res_at (Term.int_eval (1)) rfl), trivial⟩ ⟨hq.1, hq.2.1, (hq.2.2.sift fun y hy => Or.inr (N y hy)).mono (by decide) (by decide)⟩⟩
theorem main_1_1 : Claimed_1_1 := comes_1 fun _ _ _ _ _ _ h hF => ⟨h.1, hF⟩
theorem main_1_2 : Claimed_1_2 := comes_1 fun _ _ _ _ _ _ h hF => ⟨h.2.1, hF⟩
end Jvm.Pilot.@@N@@
namespace Jvm.Pilot.@@N@@
open Jvm Jvm.ClassFile Sem Op Lib Jvm.Free Jvm.Stand Jvm.Pilot.@@N@@.Jvm.D
/-! MADE BY PROGRAM (witnessworld.py) out of the Statement's table words and the real class files: 20 classes; the members and pool entries that the words name. The judged class is class 1, her method 2. -/
namespace start1
open Jvm.ClassFile
def u (s : String) : CpInfo := .utf8 (stringToUtf16 s)
/-- a pool by its gaps: so many unusable entries, then the entry; so many at the end -/
def gap : Nat → List CpInfo → List CpInfo
  | 0, r => r
  | n + 1, r => .unusable :: gap n r
def poolList (es : List (Nat × CpInfo)) (last : Nat) : List CpInfo := es.foldr (fun e r => gap e.1 (e.2 :: r)) (gap last [])
def pool (es : List (Nat × CpInfo)) (last : Nat) : Array CpInfo := ⟨poolList es last⟩
def fileOf (pool : Array CpInfo) (this : Nat) (attrs : Array Attribute := #[]) (ms : Array MethodInfo := #[]) (fl : Nat := 33) (sup : Nat := 0) (ifs : Array Nat := #[]) (fds : Array FieldInfo := #[]) : ClassFile where
  minorVersion := 0
  majorVersion := 65
  constantPool := pool
  accessFlags := fl
  thisClass := this
  superClass := sup
  interfaces := ifs
  fields := fds
  methods := ms
  attributes := attrs
def plain (name : String) (sup : Option ClassId) : Class where
  name := name
  kind := .ordinary
  loader := none
  accessFlags := 33
  super := sup
  interfaces := #[]
  cf := none
  fields := #[]
  methods := #[]
  instanceTypes := #[]
  staticTypes := #[]
  resolved := #[]
  callSites := []
  init := .initialized
  statics := none
  mirror := none

def pool0 : Array CpInfo := pool [(5, u "<init>"), (0, u "()V"), (1, .class_ 10), (1, u "java/lang/Object")] 113

def k0c0 : Code := { maxStack := 0, maxLocals := 1, code := object_method_1_code, exceptionTable := #[], attributes := #[] }
def k0m0 : Method := { name := "<init>", desc := "()V", sig := { parameters := [], returnType := none }, accessFlags := 1, code := some k0c0 }
/-- java/lang/Object -/
def k0 : Class := { plain "java/lang/Object" none with
  accessFlags := 33
  interfaces := #[]
  cf := some (fileOf pool0 8 #[] #[{ accessFlags := 1, nameIndex := 5, descriptorIndex := 6, attributes := #[] }] 33 0 #[] #[])
  fields := #[]
  methods := #[k0m0]
  instanceTypes := #[]
  staticTypes := #[]
  resolved := Array.replicate 124 none
  statics := none }

def pool1 : Array CpInfo := pool [(2, .class_ 4), (1, u "java/lang/Object"), (0, u "<init>"), (0, u "()V"), (0, .class_ 8), (0, u "java/lang/String"), (0, .methodref 7 10), (0, .nameAndType 5 11), (0, u "([C)V"), (0, .integer 2147483647), (0, .methodref 14 15), (0, .class_ 16), (0, .nameAndType 17 18), (0, u "com/example/kuusi/kuusi/core/SymbolEqualsPinLaw"), (0, u "mk"), (0, u "(ICC)Ljava/lang/String;"), (0, .class_ 20), (0, u "com/example/kuusi/kuusi/core/Symbol"), (0, .methodref 19 22), (0, .nameAndType 5 23), (0, u "(Ljava/lang/String;I)V"), (0, .methodref 19 25), (0, .nameAndType 26 27), (0, u "equals"), (0, u "(Ljava/lang/Object;)Z"), (3, u "law"), (0, u "(IIIII)Z")] 2

def k1m0 : Method := { name := "<init>", desc := "()V", sig := { parameters := [], returnType := none }, accessFlags := 1, code := none }
def k1c1 : Code := { maxStack := 6, maxLocals := 3, code := method_2_code, exceptionTable := #[], attributes := #[] }
def k1m1 : Method := { name := "mk", desc := "(ICC)Ljava/lang/String;", sig := { parameters := [.int, .char, .char], returnType := some (.object "java/lang/String") }, accessFlags := 10, code := some k1c1 }
def k1c2 : Code := { maxStack := 4, maxLocals := 19, code := code, exceptionTable := #[], attributes := #[] }
def k1m2 : Method := { name := "law", desc := "(IIIII)Z", sig := { parameters := [.int, .int, .int, .int, .int], returnType := some .boolean }, accessFlags := 9, code := some k1c2 }
/-- com/example/kuusi/kuusi/core/SymbolEqualsPinLaw -/
def k1 : Class := { plain "com/example/kuusi/kuusi/core/SymbolEqualsPinLaw" (some 0) with
  accessFlags := 49
  interfaces := #[]
  cf := some (fileOf pool1 14 #[] #[{ accessFlags := 1, nameIndex := 5, descriptorIndex := 6, attributes := #[] }, { accessFlags := 10, nameIndex := 17, descriptorIndex := 18, attributes := #[] }, { accessFlags := 9, nameIndex := 31, descriptorIndex := 32, attributes := #[] }] 49 2 #[] #[])
  fields := #[]
  methods := #[k1m0, k1m1, k1m2]
  instanceTypes := #[]
  staticTypes := #[]
  resolved := Array.replicate 35 none
  statics := none }

def pool2 : Array CpInfo := pool [(1, .class_ 2), (0, u "java/io/Serializable"), (0, .class_ 4), (0, u "java/lang/Object")] 2

/-- java/io/Serializable -/
def k2 : Class := { plain "java/io/Serializable" (some 0) with
  accessFlags := 1537
  interfaces := #[]
  cf := some (fileOf pool2 1 #[] #[] 1537 3 #[] #[])
  fields := #[]
  methods := #[]
  instanceTypes := #[]
  staticTypes := #[]
  resolved := Array.replicate 7 none
  statics := none }

def pool3 : Array CpInfo := pool [(1, .class_ 2), (0, u "java/lang/Comparable"), (0, .class_ 4), (0, u "java/lang/Object")] 7

/-- java/lang/Comparable -/
def k3 : Class := { plain "java/lang/Comparable" (some 0) with
  accessFlags := 1537
  interfaces := #[]
  cf := some (fileOf pool3 1 #[] #[] 1537 3 #[] #[])
  fields := #[]
  methods := #[]
  instanceTypes := #[]
  staticTypes := #[]
  resolved := Array.replicate 12 none
  statics := none }

def pool4 : Array CpInfo := pool [(2, .class_ 4), (1, u "java/lang/CharSequence"), (42, .class_ 48), (0, u "java/lang/CharSequence$1CodePointIterator"), (10, .class_ 60), (0, u "java/lang/CharSequence$1CharIterator"), (5, .class_ 67), (0, u "java/lang/Object")] 63

/-- java/lang/CharSequence -/
def k4 : Class := { plain "java/lang/CharSequence" (some 0) with
  accessFlags := 1537
  interfaces := #[]
  cf := some (fileOf pool4 2 #[.nestMembers #[47, 59]] #[] 1537 66 #[] #[])
  fields := #[]
  methods := #[]
  instanceTypes := #[]
  staticTypes := #[]
  resolved := Array.replicate 131 none
  statics := none }

def pool5 : Array CpInfo := pool [(1, .class_ 2), (0, u "java/lang/constant/Constable"), (0, .class_ 4), (0, u "java/lang/Object")] 6

/-- java/lang/constant/Constable -/
def k5 : Class := { plain "java/lang/constant/Constable" (some 0) with
  accessFlags := 1537
  interfaces := #[]
  cf := some (fileOf pool5 1 #[] #[] 1537 3 #[] #[])
  fields := #[]
  methods := #[]
  instanceTypes := #[]
  staticTypes := #[]
  resolved := Array.replicate 11 none
  statics := none }

def pool6 : Array CpInfo := pool [(1, .class_ 2), (0, u "java/lang/constant/ConstantDesc"), (0, .class_ 4), (0, u "java/lang/Object")] 32

/-- java/lang/constant/ConstantDesc -/
def k6 : Class := { plain "java/lang/constant/ConstantDesc" (some 0) with
  accessFlags := 1537
  interfaces := #[]
  cf := some (fileOf pool6 1 #[] #[] 1537 3 #[] #[])
  fields := #[]
  methods := #[]
  instanceTypes := #[]
  staticTypes := #[]
  resolved := Array.replicate 37 none
  statics := none }

def pool7 : Array CpInfo := pool [(1, .methodref 2 3), (0, .class_ 4), (0, .nameAndType 5 6), (0, u "java/lang/Object"), (0, u "<init>"), (0, u "()V"), (2, .fieldref 10 11), (0, .class_ 12), (0, .nameAndType 13 14), (0, u "java/lang/String"), (0, u "value"), (0, u "[B"), (0, .fieldref 10 16), (0, .nameAndType 17 18), (0, u "coder"), (0, u "B"), (0, .fieldref 10 20), (0, .nameAndType 21 22), (0, u "hash"), (0, u "I"), (0, .fieldref 10 24), (0, .nameAndType 25 26), (0, u "hashIsZero"), (0, u "Z"), (0, .methodref 10 28), (0, .nameAndType 5 29), (0, u "([CIILjava/lang/Void;)V"), (8, .fieldref 10 39), (0, .nameAndType 40 26), (0, u "COMPACT_STRINGS"), (1, .class_ 44), (1, u "java/lang/StringUTF16"), (0, u "compress"), (1, .methodref 42 48), (0, .nameAndType 49 50), (0, u "coderFromArrayLen"), (0, u "([BI)B"), (56, .class_ 109), (1, u "java/lang/StringLatin1"), (32, u "()Z"), (34, .methodref 42 178), (0, .nameAndType 45 179), (0, u "([CII)[B"), (154, u "()I"), (157, .methodref 10 493), (0, .nameAndType 494 142), (0, u "isLatin1"), (46, .methodref 107 542), (0, .nameAndType 543 544), (0, u "equals"), (0, u "([B[B)Z"), (28, u "(Ljava/lang/Object;)Z"), (1, .class_ 576), (0, u "java/lang/CharSequence"), (22, u "CASE_INSENSITIVE_ORDER"), (0, u "Ljava/util/Comparator;"), (27, .methodref 107 629), (0, .nameAndType 630 631), (0, u "hashCode"), (0, u "([B)I"), (60, u "isEmpty"), (317, u "([C)V"), (90, u "serialPersistentFields"), (0, u "[Ljava/io/ObjectStreamField;"), (0, .class_ 1104), (0, u "java/lang/String$CaseInsensitiveComparator"), (1, .class_ 1107), (0, u "java/io/Serializable"), (0, .class_ 1109), (0, u "java/lang/Comparable"), (0, .class_ 1111), (0, u "java/lang/constant/Constable"), (0, .class_ 1113), (0, u "java/lang/constant/ConstantDesc"), (2, u "serialVersionUID"), (0, u "J"), (3, u "REPL"), (0, u "C"), (2, u "LATIN1"), (1, u "UTF16")] 323

def k7m0 : Method := { name := "<init>", desc := "()V", sig := { parameters := [], returnType := none }, accessFlags := 1, code := none }
def k7c1 : Code := { maxStack := 5, maxLocals := 2, code := jdk_42_method_3_code, exceptionTable := #[], attributes := #[] }
def k7m1 : Method := { name := "<init>", desc := "([C)V", sig := { parameters := [(.array .char)], returnType := none }, accessFlags := 1, code := some k7c1 }
def k7c2 : Code := { maxStack := 1, maxLocals := 1, code := jdk_42_method_55_code, exceptionTable := #[], attributes := #[] }
def k7m2 : Method := { name := "isEmpty", desc := "()Z", sig := { parameters := [], returnType := some .boolean }, accessFlags := 1, code := some k7c2 }
def k7c3 : Code := { maxStack := 2, maxLocals := 3, code := jdk_42_method_66_code, exceptionTable := #[], attributes := #[] }
def k7m3 : Method := { name := "equals", desc := "(Ljava/lang/Object;)Z", sig := { parameters := [(.object "java/lang/Object")], returnType := some .boolean }, accessFlags := 1, code := some k7c3 }
def k7c4 : Code := { maxStack := 2, maxLocals := 2, code := jdk_42_method_78_code, exceptionTable := #[], attributes := #[] }
def k7m4 : Method := { name := "hashCode", desc := "()I", sig := { parameters := [], returnType := some .int }, accessFlags := 1, code := some k7c4 }
def k7c5 : Code := { maxStack := 4, maxLocals := 6, code := jdk_42_method_149_code, exceptionTable := #[], attributes := #[] }
def k7m5 : Method := { name := "<init>", desc := "([CIILjava/lang/Void;)V", sig := { parameters := [(.array .char), .int, .int, (.object "java/lang/Void")], returnType := none }, accessFlags := 2, code := some k7c5 }
def k7c6 : Code := { maxStack := 1, maxLocals := 1, code := jdk_42_method_154_code, exceptionTable := #[], attributes := #[] }
def k7m6 : Method := { name := "isLatin1", desc := "()Z", sig := { parameters := [], returnType := some .boolean }, accessFlags := 0, code := some k7c6 }
/-- java/lang/String -/
def k7 : Class := { plain "java/lang/String" (some 0) with
  accessFlags := 49
  interfaces := #[2, 3, 4, 5, 6]
  cf := some (fileOf pool7 10 #[.nestMembers #[1103]] #[{ accessFlags := 1, nameIndex := 5, descriptorIndex := 6, attributes := #[] }, { accessFlags := 1, nameIndex := 5, descriptorIndex := 1010, attributes := #[] }, { accessFlags := 1, nameIndex := 692, descriptorIndex := 142, attributes := #[] }, { accessFlags := 1, nameIndex := 543, descriptorIndex := 573, attributes := #[] }, { accessFlags := 1, nameIndex := 630, descriptorIndex := 334, attributes := #[] }, { accessFlags := 2, nameIndex := 5, descriptorIndex := 29, attributes := #[] }, { accessFlags := 0, nameIndex := 494, descriptorIndex := 142, attributes := #[] }] 49 2 #[1106, 1108, 575, 1110, 1112] #[{ accessFlags := 18, nameIndex := 13, descriptorIndex := 14, attributes := #[] }, { accessFlags := 18, nameIndex := 17, descriptorIndex := 18, attributes := #[] }, { accessFlags := 2, nameIndex := 21, descriptorIndex := 22, attributes := #[] }, { accessFlags := 2, nameIndex := 25, descriptorIndex := 26, attributes := #[] }, { accessFlags := 26, nameIndex := 1116, descriptorIndex := 1117, attributes := #[] }, { accessFlags := 24, nameIndex := 40, descriptorIndex := 26, attributes := #[] }, { accessFlags := 26, nameIndex := 1101, descriptorIndex := 1102, attributes := #[] }, { accessFlags := 26, nameIndex := 1121, descriptorIndex := 1122, attributes := #[] }, { accessFlags := 25, nameIndex := 599, descriptorIndex := 600, attributes := #[] }, { accessFlags := 24, nameIndex := 1125, descriptorIndex := 18, attributes := #[] }, { accessFlags := 24, nameIndex := 1127, descriptorIndex := 18, attributes := #[] }])
  fields := #[{ name := "value", type := (.array .byte), accessFlags := 18, slot := 0, constantValue := 0 }, { name := "coder", type := .byte, accessFlags := 18, slot := 1, constantValue := 0 }, { name := "hash", type := .int, accessFlags := 2, slot := 2, constantValue := 0 }, { name := "hashIsZero", type := .boolean, accessFlags := 2, slot := 3, constantValue := 0 }, { name := "serialVersionUID", type := .long, accessFlags := 26, slot := 0, constantValue := 0 }, { name := "COMPACT_STRINGS", type := .boolean, accessFlags := 24, slot := 1, constantValue := 0 }, { name := "serialPersistentFields", type := (.array (.object "java/io/ObjectStreamField")), accessFlags := 26, slot := 2, constantValue := 0 }, { name := "REPL", type := .char, accessFlags := 26, slot := 3, constantValue := 0 }, { name := "CASE_INSENSITIVE_ORDER", type := (.object "java/util/Comparator"), accessFlags := 25, slot := 4, constantValue := 0 }, { name := "LATIN1", type := .byte, accessFlags := 24, slot := 5, constantValue := 0 }, { name := "UTF16", type := .byte, accessFlags := 24, slot := 6, constantValue := 0 }]
  methods := #[k7m0, k7m1, k7m2, k7m3, k7m4, k7m5, k7m6]
  instanceTypes := #[(.array .byte), .byte, .int, .boolean]
  staticTypes := #[.long, .boolean, (.array (.object "java/io/ObjectStreamField")), .char, (.object "java/util/Comparator"), .byte, .byte]
  resolved := Array.replicate 1451 none
  statics := some 0 }

def pool8 : Array CpInfo := pool [(6, .class_ 8), (1, u "java/lang/Object"), (0, u "<init>"), (0, u "()V"), (1, .class_ 14), (1, u "java/lang/StringUTF16"), (31, u "$assertionsDisabled"), (0, u "Z"), (13, u "HI_BYTE_SHIFT"), (0, u "I"), (2, u "LO_BYTE_SHIFT"), (49, .methodref 12 116), (0, .nameAndType 117 118), (0, u "compress"), (0, u "([CI[BII)I"), (3, u "([CII)[B"), (138, u "coderFromArrayLen"), (0, u "([BI)B"), (106, .class_ 371), (1, u "java/lang/StringUTF16$LinesSpliterator"), (58, u "MAX_LENGTH"), (196, .class_ 628), (0, u "java/lang/StringUTF16$CodePointsSpliterator"), (0, .class_ 630), (0, u "java/lang/StringUTF16$CharsSpliterator")] 4

def k8m0 : Method := { name := "<init>", desc := "()V", sig := { parameters := [], returnType := none }, accessFlags := 0, code := none }
def k8c1 : Code := { maxStack := 2, maxLocals := 2, code := jdk_52_method_15_code, exceptionTable := #[], attributes := #[] }
def k8m1 : Method := { name := "coderFromArrayLen", desc := "([BI)B", sig := { parameters := [(.array .byte), .int], returnType := some .byte }, accessFlags := 8, code := some k8c1 }
def k8c2 : Code := { maxStack := 5, maxLocals := 6, code := jdk_52_method_16_code, exceptionTable := #[], attributes := #[] }
def k8m2 : Method := { name := "compress", desc := "([CII)[B", sig := { parameters := [(.array .char), .int, .int], returnType := some (.array .byte) }, accessFlags := 9, code := some k8c2 }
def k8c3 : Code := { maxStack := 3, maxLocals := 7, code := jdk_52_method_21_code, exceptionTable := #[], attributes := #[] }
def k8m3 : Method := { name := "compress", desc := "([CI[BII)I", sig := { parameters := [(.array .char), .int, (.array .byte), .int, .int], returnType := some .int }, accessFlags := 9, code := some k8c3 }
/-- java/lang/StringUTF16 -/
def k8 : Class := { plain "java/lang/StringUTF16" (some 0) with
  accessFlags := 48
  interfaces := #[]
  cf := some (fileOf pool8 12 #[.nestMembers #[627, 629, 369]] #[{ accessFlags := 0, nameIndex := 9, descriptorIndex := 10, attributes := #[] }, { accessFlags := 8, nameIndex := 261, descriptorIndex := 262, attributes := #[] }, { accessFlags := 9, nameIndex := 117, descriptorIndex := 122, attributes := #[] }, { accessFlags := 9, nameIndex := 117, descriptorIndex := 118, attributes := #[] }] 48 6 #[] #[{ accessFlags := 26, nameIndex := 61, descriptorIndex := 62, attributes := #[] }, { accessFlags := 26, nameIndex := 65, descriptorIndex := 62, attributes := #[] }, { accessFlags := 24, nameIndex := 430, descriptorIndex := 62, attributes := #[] }, { accessFlags := 4120, nameIndex := 46, descriptorIndex := 47, attributes := #[] }])
  fields := #[{ name := "HI_BYTE_SHIFT", type := .int, accessFlags := 26, slot := 0, constantValue := 0 }, { name := "LO_BYTE_SHIFT", type := .int, accessFlags := 26, slot := 1, constantValue := 0 }, { name := "MAX_LENGTH", type := .int, accessFlags := 24, slot := 2, constantValue := 0 }, { name := "$assertionsDisabled", type := .boolean, accessFlags := 4120, slot := 3, constantValue := 0 }]
  methods := #[k8m0, k8m1, k8m2, k8m3]
  instanceTypes := #[]
  staticTypes := #[.int, .int, .int, .boolean]
  resolved := Array.replicate 635 none
  statics := none }

def pool9 : Array CpInfo := pool [(1, .methodref 2 3), (0, .class_ 4), (0, .nameAndType 5 6), (0, u "java/lang/Object"), (0, u "<init>"), (0, u "()V"), (0, .methodref 8 9), (0, .class_ 10), (0, .nameAndType 11 12), (0, u "java/lang/String"), (0, u "isEmpty"), (0, u "()Z"), (11, .fieldref 25 26), (0, .class_ 27), (0, .nameAndType 28 29), (0, u "com/example/kuusi/kuusi/core/Symbol"), (0, u "name"), (0, u "Ljava/lang/String;"), (0, .fieldref 25 31), (0, .nameAndType 32 33), (0, u "rank"), (0, u "I"), (0, .methodref 8 35), (0, .nameAndType 36 37), (0, u "hashCode"), (0, u "()I"), (0, .fieldref 25 39), (0, .nameAndType 40 33), (0, u "hash"), (3, .methodref 8 45), (0, .nameAndType 46 47), (0, u "equals"), (0, u "(Ljava/lang/Object;)Z"), (1, u "(Ljava/lang/String;I)V")] 28

def k9c0 : Code := { maxStack := 4, maxLocals := 3, code := prog_78_method_1_code, exceptionTable := #[], attributes := #[] }
def k9m0 : Method := { name := "<init>", desc := "(Ljava/lang/String;I)V", sig := { parameters := [(.object "java/lang/String"), .int], returnType := none }, accessFlags := 1, code := some k9c0 }
def k9c1 : Code := { maxStack := 2, maxLocals := 3, code := prog_78_method_5_code, exceptionTable := #[], attributes := #[] }
def k9m1 : Method := { name := "equals", desc := "(Ljava/lang/Object;)Z", sig := { parameters := [(.object "java/lang/Object")], returnType := some .boolean }, accessFlags := 1, code := some k9c1 }
/-- com/example/kuusi/kuusi/core/Symbol -/
def k9 : Class := { plain "com/example/kuusi/kuusi/core/Symbol" (some 0) with
  accessFlags := 49
  interfaces := #[]
  cf := some (fileOf pool9 25 #[] #[{ accessFlags := 1, nameIndex := 5, descriptorIndex := 49, attributes := #[] }, { accessFlags := 1, nameIndex := 46, descriptorIndex := 47, attributes := #[] }] 49 2 #[] #[{ accessFlags := 18, nameIndex := 28, descriptorIndex := 29, attributes := #[] }, { accessFlags := 18, nameIndex := 32, descriptorIndex := 33, attributes := #[] }, { accessFlags := 18, nameIndex := 40, descriptorIndex := 33, attributes := #[] }])
  fields := #[{ name := "name", type := (.object "java/lang/String"), accessFlags := 18, slot := 0, constantValue := 0 }, { name := "rank", type := .int, accessFlags := 18, slot := 1, constantValue := 0 }, { name := "hash", type := .int, accessFlags := 18, slot := 2, constantValue := 0 }]
  methods := #[k9m0, k9m1]
  instanceTypes := #[(.object "java/lang/String"), .int, .int]
  staticTypes := #[]
  resolved := Array.replicate 78 none
  statics := none }

def pool10 : Array CpInfo := pool [(4, .class_ 6), (1, u "java/lang/Object"), (0, u "<init>"), (0, u "()V"), (5, .class_ 16), (1, u "java/lang/StringLatin1"), (28, .class_ 47), (1, u "jdk/internal/util/ArraysSupport"), (9, u "([B)I"), (26, .methodref 45 85), (0, .nameAndType 86 87), (0, u "vectorizedHashCode"), (0, u "(Ljava/lang/Object;IIII)I"), (33, u "$assertionsDisabled"), (0, u "Z"), (98, .class_ 223), (1, u "java/lang/StringLatin1$LinesSpliterator"), (57, u "equals"), (0, u "([B[B)Z"), (15, u "hashCode"), (91, .class_ 391), (0, u "java/lang/StringLatin1$CharsSpliterator")] 3

def k10m0 : Method := { name := "<init>", desc := "()V", sig := { parameters := [], returnType := none }, accessFlags := 0, code := none }
def k10c1 : Code := { maxStack := 3, maxLocals := 3, code := jdk_43_method_13_code, exceptionTable := #[], attributes := #[] }
def k10m1 : Method := { name := "equals", desc := "([B[B)Z", sig := { parameters := [(.array .byte), (.array .byte)], returnType := some .boolean }, accessFlags := 9, code := some k10c1 }
def k10c2 : Code := { maxStack := 5, maxLocals := 1, code := jdk_43_method_21_code, exceptionTable := #[], attributes := #[] }
def k10m2 : Method := { name := "hashCode", desc := "([B)I", sig := { parameters := [(.array .byte)], returnType := some .int }, accessFlags := 9, code := some k10c2 }
/-- java/lang/StringLatin1 -/
def k10 : Class := { plain "java/lang/StringLatin1" (some 0) with
  accessFlags := 48
  interfaces := #[]
  cf := some (fileOf pool10 14 #[.nestMembers #[390, 221]] #[{ accessFlags := 0, nameIndex := 7, descriptorIndex := 8, attributes := #[] }, { accessFlags := 9, nameIndex := 281, descriptorIndex := 282, attributes := #[] }, { accessFlags := 9, nameIndex := 298, descriptorIndex := 57, attributes := #[] }] 48 4 #[] #[{ accessFlags := 4120, nameIndex := 121, descriptorIndex := 122, attributes := #[] }])
  fields := #[{ name := "$assertionsDisabled", type := .boolean, accessFlags := 4120, slot := 0, constantValue := 0 }]
  methods := #[k10m0, k10m1, k10m2]
  instanceTypes := #[]
  staticTypes := #[.boolean]
  resolved := Array.replicate 395 none
  statics := none }

def pool11 : Array CpInfo := pool [(9, u "<init>"), (6, .class_ 18), (1, u "java/lang/Object"), (0, u "()V"), (1, .class_ 23), (1, u "jdk/internal/util/ArraysSupport"), (0, u "LOG2_ARRAY_LONG_INDEX_SCALE"), (0, u "I"), (2, u "U"), (0, u "Ljdk/internal/misc/Unsafe;"), (8, u "BIG_ENDIAN"), (0, u "Z"), (8, u "LOG2_BYTE_BIT_SIZE"), (4, u "LOG2_ARRAY_INT_INDEX_SCALE"), (6, .class_ 61), (0, u "[B"), (0, .methodref 21 63), (0, .nameAndType 64 65), (0, u "signedHashCode"), (0, u "(I[BII)I"), (42, u "JLA"), (0, u "Ljdk/internal/access/JavaLangAccess;"), (11, u "LOG2_ARRAY_BOOLEAN_INDEX_SCALE"), (9, u "LOG2_ARRAY_BYTE_INDEX_SCALE"), (5, u "LOG2_ARRAY_CHAR_INDEX_SCALE"), (5, u "LOG2_ARRAY_SHORT_INDEX_SCALE"), (18, u "LOG2_ARRAY_FLOAT_INDEX_SCALE"), (24, u "LOG2_ARRAY_DOUBLE_INDEX_SCALE"), (89, u "T_BOOLEAN"), (2, u "T_CHAR"), (1, u "T_FLOAT"), (1, u "T_DOUBLE"), (1, u "T_BYTE"), (1, u "T_SHORT"), (1, u "T_INT"), (1, u "T_LONG"), (1, u "SOFT_MAX_ARRAY_LENGTH"), (26, u "vectorizedHashCode"), (0, u "(Ljava/lang/Object;IIII)I")] 55

def k11m0 : Method := { name := "<init>", desc := "()V", sig := { parameters := [], returnType := none }, accessFlags := 2, code := none }
def k11c1 : Code := { maxStack := 4, maxLocals := 5, code := jdk_48_method_4_code, exceptionTable := #[], attributes := #[] }
def k11m1 : Method := { name := "vectorizedHashCode", desc := "(Ljava/lang/Object;IIII)I", sig := { parameters := [(.object "java/lang/Object"), .int, .int, .int, .int], returnType := some .int }, accessFlags := 9, code := some k11c1 }
def k11c2 : Code := { maxStack := 3, maxLocals := 6, code := jdk_48_method_5_code, exceptionTable := #[], attributes := #[] }
def k11m2 : Method := { name := "signedHashCode", desc := "(I[BII)I", sig := { parameters := [.int, (.array .byte), .int, .int], returnType := some .int }, accessFlags := 10, code := some k11c2 }
/-- jdk/internal/util/ArraysSupport -/
def k11 : Class := { plain "jdk/internal/util/ArraysSupport" (some 0) with
  accessFlags := 33
  interfaces := #[]
  cf := some (fileOf pool11 21 #[] #[{ accessFlags := 2, nameIndex := 9, descriptorIndex := 19, attributes := #[] }, { accessFlags := 9, nameIndex := 321, descriptorIndex := 322, attributes := #[] }, { accessFlags := 10, nameIndex := 64, descriptorIndex := 65, attributes := #[] }] 33 16 #[] #[{ accessFlags := 24, nameIndex := 28, descriptorIndex := 29, attributes := #[] }, { accessFlags := 26, nameIndex := 38, descriptorIndex := 39, attributes := #[] }, { accessFlags := 25, nameIndex := 121, descriptorIndex := 25, attributes := #[] }, { accessFlags := 25, nameIndex := 131, descriptorIndex := 25, attributes := #[] }, { accessFlags := 25, nameIndex := 137, descriptorIndex := 25, attributes := #[] }, { accessFlags := 25, nameIndex := 143, descriptorIndex := 25, attributes := #[] }, { accessFlags := 25, nameIndex := 53, descriptorIndex := 25, attributes := #[] }, { accessFlags := 25, nameIndex := 24, descriptorIndex := 25, attributes := #[] }, { accessFlags := 25, nameIndex := 162, descriptorIndex := 25, attributes := #[] }, { accessFlags := 25, nameIndex := 187, descriptorIndex := 25, attributes := #[] }, { accessFlags := 26, nameIndex := 48, descriptorIndex := 25, attributes := #[] }, { accessFlags := 25, nameIndex := 277, descriptorIndex := 25, attributes := #[] }, { accessFlags := 25, nameIndex := 280, descriptorIndex := 25, attributes := #[] }, { accessFlags := 25, nameIndex := 282, descriptorIndex := 25, attributes := #[] }, { accessFlags := 25, nameIndex := 284, descriptorIndex := 25, attributes := #[] }, { accessFlags := 25, nameIndex := 286, descriptorIndex := 25, attributes := #[] }, { accessFlags := 25, nameIndex := 288, descriptorIndex := 25, attributes := #[] }, { accessFlags := 25, nameIndex := 290, descriptorIndex := 25, attributes := #[] }, { accessFlags := 25, nameIndex := 292, descriptorIndex := 25, attributes := #[] }, { accessFlags := 26, nameIndex := 108, descriptorIndex := 109, attributes := #[] }, { accessFlags := 25, nameIndex := 294, descriptorIndex := 25, attributes := #[] }])
  fields := #[{ name := "U", type := (.object "jdk/internal/misc/Unsafe"), accessFlags := 24, slot := 0, constantValue := 0 }, { name := "BIG_ENDIAN", type := .boolean, accessFlags := 26, slot := 1, constantValue := 0 }, { name := "LOG2_ARRAY_BOOLEAN_INDEX_SCALE", type := .int, accessFlags := 25, slot := 2, constantValue := 0 }, { name := "LOG2_ARRAY_BYTE_INDEX_SCALE", type := .int, accessFlags := 25, slot := 3, constantValue := 0 }, { name := "LOG2_ARRAY_CHAR_INDEX_SCALE", type := .int, accessFlags := 25, slot := 4, constantValue := 0 }, { name := "LOG2_ARRAY_SHORT_INDEX_SCALE", type := .int, accessFlags := 25, slot := 5, constantValue := 0 }, { name := "LOG2_ARRAY_INT_INDEX_SCALE", type := .int, accessFlags := 25, slot := 6, constantValue := 0 }, { name := "LOG2_ARRAY_LONG_INDEX_SCALE", type := .int, accessFlags := 25, slot := 7, constantValue := 0 }, { name := "LOG2_ARRAY_FLOAT_INDEX_SCALE", type := .int, accessFlags := 25, slot := 8, constantValue := 0 }, { name := "LOG2_ARRAY_DOUBLE_INDEX_SCALE", type := .int, accessFlags := 25, slot := 9, constantValue := 0 }, { name := "LOG2_BYTE_BIT_SIZE", type := .int, accessFlags := 26, slot := 10, constantValue := 0 }, { name := "T_BOOLEAN", type := .int, accessFlags := 25, slot := 11, constantValue := 0 }, { name := "T_CHAR", type := .int, accessFlags := 25, slot := 12, constantValue := 0 }, { name := "T_FLOAT", type := .int, accessFlags := 25, slot := 13, constantValue := 0 }, { name := "T_DOUBLE", type := .int, accessFlags := 25, slot := 14, constantValue := 0 }, { name := "T_BYTE", type := .int, accessFlags := 25, slot := 15, constantValue := 0 }, { name := "T_SHORT", type := .int, accessFlags := 25, slot := 16, constantValue := 0 }, { name := "T_INT", type := .int, accessFlags := 25, slot := 17, constantValue := 0 }, { name := "T_LONG", type := .int, accessFlags := 25, slot := 18, constantValue := 0 }, { name := "JLA", type := (.object "jdk/internal/access/JavaLangAccess"), accessFlags := 26, slot := 19, constantValue := 0 }, { name := "SOFT_MAX_ARRAY_LENGTH", type := .int, accessFlags := 25, slot := 20, constantValue := 0 }]
  methods := #[k11m0, k11m1, k11m2]
  instanceTypes := #[]
  staticTypes := #[(.object "jdk/internal/misc/Unsafe"), .boolean, .int, .int, .int, .int, .int, .int, .int, .int, .int, .int, .int, .int, .int, .int, .int, .int, .int, (.object "jdk/internal/access/JavaLangAccess"), .int]
  resolved := Array.replicate 378 none
  statics := none }

def pool12 : Array CpInfo := pool [(2, .class_ 4), (1, u "java/lang/Object"), (0, u "<init>"), (0, u "()V"), (17, .class_ 26), (1, u "jdk/internal/util/Preconditions"), (28, .class_ 56), (0, u "jdk/internal/util/Preconditions$4"), (57, .class_ 115), (0, u "jdk/internal/util/Preconditions$1"), (7, u "SIOOBE_FORMATTER"), (0, u "Ljava/util/function/BiFunction;"), (0, .class_ 126), (0, u "jdk/internal/util/Preconditions$2"), (3, u "AIOOBE_FORMATTER"), (0, .class_ 132), (0, u "jdk/internal/util/Preconditions$3"), (3, u "IOOBE_FORMATTER")] 57

def k12m0 : Method := { name := "<init>", desc := "()V", sig := { parameters := [], returnType := none }, accessFlags := 1, code := none }
/-- jdk/internal/util/Preconditions -/
def k12 : Class := { plain "jdk/internal/util/Preconditions" (some 0) with
  accessFlags := 33
  interfaces := #[]
  cf := some (fileOf pool12 24 #[.nestMembers #[55, 131, 125, 114]] #[{ accessFlags := 1, nameIndex := 5, descriptorIndex := 6, attributes := #[] }] 33 2 #[] #[{ accessFlags := 25, nameIndex := 123, descriptorIndex := 124, attributes := #[] }, { accessFlags := 25, nameIndex := 130, descriptorIndex := 124, attributes := #[] }, { accessFlags := 25, nameIndex := 136, descriptorIndex := 124, attributes := #[] }])
  fields := #[{ name := "SIOOBE_FORMATTER", type := (.object "java/util/function/BiFunction"), accessFlags := 25, slot := 0, constantValue := 0 }, { name := "AIOOBE_FORMATTER", type := (.object "java/util/function/BiFunction"), accessFlags := 25, slot := 1, constantValue := 0 }, { name := "IOOBE_FORMATTER", type := (.object "java/util/function/BiFunction"), accessFlags := 25, slot := 2, constantValue := 0 }]
  methods := #[k12m0]
  instanceTypes := #[]
  staticTypes := #[(.object "java/util/function/BiFunction"), (.object "java/util/function/BiFunction"), (.object "java/util/function/BiFunction")]
  resolved := Array.replicate 194 none
  statics := some 1 }

def pool13 : Array CpInfo := pool [(1, u "java/lang/Cloneable"), (0, .class_ 1), (0, u "java/lang/Object"), (0, .class_ 3)] 3

/-- java/lang/Cloneable -/
def k13 : Class := { plain "java/lang/Cloneable" (some 0) with
  accessFlags := 1537
  interfaces := #[]
  cf := some (fileOf pool13 2 #[] #[] 1537 4 #[] #[])
  fields := #[]
  methods := #[]
  instanceTypes := #[]
  staticTypes := #[]
  resolved := Array.replicate 8 none
  statics := none }

/-- the primitive byte -/
def k14 : Class := { plain "byte" none with kind := .primitive 'B', accessFlags := 0x411 }
/-- [B -/
def k15 : Class := { plain "[B" (some 0) with kind := .array 14 .byte, interfaces := #[13, 2], accessFlags := 1041 }

/-- the primitive char -/
def k16 : Class := { plain "char" none with kind := .primitive 'C', accessFlags := 0x411 }
/-- [C -/
def k17 : Class := { plain "[C" (some 0) with kind := .array 16 .char, interfaces := #[13, 2], accessFlags := 1041 }

/-- the primitive int -/
def k18 : Class := { plain "int" none with kind := .primitive 'I', accessFlags := 0x411 }
/-- [I -/
def k19 : Class := { plain "[I" (some 0) with kind := .array 18 .int, interfaces := #[13, 2], accessFlags := 1041 }

def heap : Heap := #[{ cls := 7, slots := #[.long 0, .int 1, .null, .int 0, .null, .int 0, .int 0], vm := .statics 7 },
  { cls := 12, slots := #[.null, .null, .null], vm := .statics 12 }]
def classes : Array Class := #[k0, k1, k2, k3, k4, k5, k6, k7, k8, k9, k10, k11, k12, k13, k14, k15, k16, k17, k18, k19]
def interned : List (Array UInt16 × Addr) := []
def slotsUsed : Nat := 10
def theMethod : MethodId := ⟨1, 2⟩
def args0 : Array Value := #[.int 300, .int 77, .int 5, .int 6, .int 7]
def aboutOver (below : List Frame) : State where
  vm := { classes := classes, interned := interned.toArray }
  heap := heap
  slotsUsed := slotsUsed
  threads := #[{ frames := .invoking theMethod args0 :: below }]
def below0 : List Frame := [.native { method := ⟨0, 0⟩, args := #[] }]
def about1 : State := aboutOver below0
def p0 : Program := .bare "" "" ""
def e0 : Env := launch0.env 0 0 0
theorem w_frames : about1.frames = Frame.invoking theMethod args0 :: below0 := rfl
set_option maxRecDepth 65536 in
theorem w_args : argsFit about1.vm theMethod args0 = true := by decide +kernel
set_option maxRecDepth 65536 in
theorem w_heap : heapFits about1 = true := by decide +kernel
set_option maxRecDepth 65536 in
theorem w_runnable : about1.curStatus? = some .runnable := by decide +kernel
set_option maxRecDepth 65536 in
theorem w_alone : about1.alone = true := by decide +kernel
set_option maxRecDepth 65536 in
theorem w_named : about1.methodNamed? x = some theMethod := by decide +kernel
set_option maxRecDepth 65536 in
theorem w_hears : about1.hears theMethod below0 = true := by decide +kernel
set_option maxRecDepth 65536 in
theorem w_ripe : about1.ripe theMethod args0 below0 = true := by decide +kernel
theorem w_running : about1.status = .running := rfl
set_option maxRecDepth 65536 in
theorem w_room : about1.hasRoom e0.platform room_1 = true :=
  launch0.hasRoom_least _ room_1 (by decide +kernel) (by decide +kernel) (by decide +kernel) (by decide +kernel) (by decide +kernel) (by decide +kernel)
theorem allAtoms_all (ts : List Jvm.Cond) (a : Array Jvm.Value) (st : Jvm.State) : (allAtoms ts).before a st = ts.all (fun c => c.before a st) := by
  induction ts with
  | nil => rfl
  | cons c t ih =>
    show (Jvm.Cond.and c (allAtoms t)).before a st = _
    rw [Jvm.Cond.before_and, ih, List.all_cons]
def words1 : List Jvm.Cond := Jvm.Cond.code x code maxLocals ret :: tables_1
/-- a 'code' word, met by the world's own term for the bytes: nothing is compared byte by byte -/
theorem code_word {y : MethodName} {bytes : ByteArray} {mx : Nat} {rt : Option FieldType} {a : Array Value} {s : State} {m : MethodId} {meth : Method} {c : Code} (h1 : s.methodNamed? y = some m) (h2 : s.vm.method? m = some meth) (h3 : meth.code = some c) (h4 : c.code = bytes)
    (h5 : (c.maxLocals == mx && c.exceptionTable.isEmpty && decide (c.maxStack ≤ mostOperands) && decide (meth.sig.returnType = rt) && !meth.locks && decide (parseMethodDescriptor y.desc = some meth.sig)) = true) : (Jvm.Cond.code y bytes mx rt).before a s = true := by
  simp only [Bool.and_eq_true, beq_iff_eq, Bool.not_eq_true', decide_eq_true_eq] at h5
  obtain ⟨⟨⟨⟨⟨g1, g2⟩, g3⟩, g4⟩, g5⟩, g6⟩ := h5
  simp [Cond.before, Cond.holds, Cond.value, h1, h2, h3, h4, g1, g2, g3, g4, g5, g6]
def isCode : Jvm.Cond → Bool
  | .code _ _ _ _ => true
  | _ => false
theorem all_split {L : List Jvm.Cond} {P : Jvm.Cond → Bool} (h1 : L.all (fun c => isCode c || P c) = true) (h2 : ∀ c ∈ L.filter isCode, P c = true) : L.all P = true := by
  refine List.all_eq_true.mpr fun c hc => ?_
  have h := List.all_eq_true.mp h1 c hc
  rcases Bool.eq_false_or_eq_true (isCode c) with hi | hi
  · exact h2 c (List.mem_filter.mpr ⟨hc, hi⟩)
  · simpa [hi] using h
set_option maxRecDepth 65536 in
theorem w_c0 : (Jvm.Cond.code x code maxLocals ret).before args0 about1 = true := code_word (m := ⟨1, 2⟩) (meth := k1m2) (c := k1c2) (by decide +kernel) rfl rfl rfl (by decide +kernel)
set_option maxRecDepth 65536 in
theorem w_c1 : (Jvm.Cond.code ({ cls := "com/example/kuusi/kuusi/core/SymbolEqualsPinLaw", name := "mk", desc := "(ICC)Ljava/lang/String;" } : Jvm.MethodName) method_2_code (3 : Nat) (Option.some (Jvm.ClassFile.FieldType.object "java/lang/String"))).before args0 about1 = true := code_word (m := ⟨1, 1⟩) (meth := k1m1) (c := k1c1) (by decide +kernel) rfl rfl rfl (by decide +kernel)
set_option maxRecDepth 65536 in
theorem w_c2 : (Jvm.Cond.code ({ cls := "java/lang/String", name := "<init>", desc := "([C)V" } : Jvm.MethodName) jdk_42_method_3_code (2 : Nat) (Option.none : Option Jvm.ClassFile.FieldType)).before args0 about1 = true := code_word (m := ⟨7, 1⟩) (meth := k7m1) (c := k7c1) (by decide +kernel) rfl rfl rfl (by decide +kernel)
set_option maxRecDepth 65536 in
theorem w_c3 : (Jvm.Cond.code ({ cls := "java/lang/String", name := "<init>", desc := "([CIILjava/lang/Void;)V" } : Jvm.MethodName) jdk_42_method_149_code (6 : Nat) (Option.none : Option Jvm.ClassFile.FieldType)).before args0 about1 = true := code_word (m := ⟨7, 5⟩) (meth := k7m5) (c := k7c5) (by decide +kernel) rfl rfl rfl (by decide +kernel)
set_option maxRecDepth 65536 in
theorem w_c4 : (Jvm.Cond.code ({ cls := "java/lang/Object", name := "<init>", desc := "()V" } : Jvm.MethodName) object_method_1_code (1 : Nat) (Option.none : Option Jvm.ClassFile.FieldType)).before args0 about1 = true := code_word (m := ⟨0, 0⟩) (meth := k0m0) (c := k0c0) (by decide +kernel) rfl rfl rfl (by decide +kernel)
set_option maxRecDepth 65536 in
theorem w_c5 : (Jvm.Cond.code ({ cls := "java/lang/StringUTF16", name := "compress", desc := "([CII)[B" } : Jvm.MethodName) jdk_52_method_16_code (6 : Nat) (Option.some (Jvm.ClassFile.FieldType.array Jvm.ClassFile.FieldType.byte))).before args0 about1 = true := code_word (m := ⟨8, 2⟩) (meth := k8m2) (c := k8c2) (by decide +kernel) rfl rfl rfl (by decide +kernel)
set_option maxRecDepth 65536 in
theorem w_c6 : (Jvm.Cond.code ({ cls := "java/lang/StringUTF16", name := "compress", desc := "([CI[BII)I" } : Jvm.MethodName) jdk_52_method_21_code (7 : Nat) (Option.some Jvm.ClassFile.FieldType.int)).before args0 about1 = true := code_word (m := ⟨8, 3⟩) (meth := k8m3) (c := k8c3) (by decide +kernel) rfl rfl rfl (by decide +kernel)
set_option maxRecDepth 65536 in
theorem w_c7 : (Jvm.Cond.code ({ cls := "java/lang/StringUTF16", name := "coderFromArrayLen", desc := "([BI)B" } : Jvm.MethodName) jdk_52_method_15_code (2 : Nat) (Option.some Jvm.ClassFile.FieldType.byte)).before args0 about1 = true := code_word (m := ⟨8, 1⟩) (meth := k8m1) (c := k8c1) (by decide +kernel) rfl rfl rfl (by decide +kernel)
set_option maxRecDepth 65536 in
theorem w_c8 : (Jvm.Cond.code ({ cls := "com/example/kuusi/kuusi/core/Symbol", name := "<init>", desc := "(Ljava/lang/String;I)V" } : Jvm.MethodName) prog_78_method_1_code (3 : Nat) (Option.none : Option Jvm.ClassFile.FieldType)).before args0 about1 = true := code_word (m := ⟨9, 0⟩) (meth := k9m0) (c := k9c0) (by decide +kernel) rfl rfl rfl (by decide +kernel)
set_option maxRecDepth 65536 in
theorem w_c9 : (Jvm.Cond.code ({ cls := "java/lang/String", name := "isEmpty", desc := "()Z" } : Jvm.MethodName) jdk_42_method_55_code (1 : Nat) (Option.some Jvm.ClassFile.FieldType.boolean)).before args0 about1 = true := code_word (m := ⟨7, 2⟩) (meth := k7m2) (c := k7c2) (by decide +kernel) rfl rfl rfl (by decide +kernel)
set_option maxRecDepth 65536 in
theorem w_c10 : (Jvm.Cond.code ({ cls := "java/lang/String", name := "hashCode", desc := "()I" } : Jvm.MethodName) jdk_42_method_78_code (2 : Nat) (Option.some Jvm.ClassFile.FieldType.int)).before args0 about1 = true := code_word (m := ⟨7, 4⟩) (meth := k7m4) (c := k7c4) (by decide +kernel) rfl rfl rfl (by decide +kernel)
set_option maxRecDepth 65536 in
theorem w_c11 : (Jvm.Cond.code ({ cls := "java/lang/String", name := "isLatin1", desc := "()Z" } : Jvm.MethodName) jdk_42_method_154_code (1 : Nat) (Option.some Jvm.ClassFile.FieldType.boolean)).before args0 about1 = true := code_word (m := ⟨7, 6⟩) (meth := k7m6) (c := k7c6) (by decide +kernel) rfl rfl rfl (by decide +kernel)
set_option maxRecDepth 65536 in
theorem w_c12 : (Jvm.Cond.code ({ cls := "java/lang/StringLatin1", name := "hashCode", desc := "([B)I" } : Jvm.MethodName) jdk_43_method_21_code (1 : Nat) (Option.some Jvm.ClassFile.FieldType.int)).before args0 about1 = true := code_word (m := ⟨10, 2⟩) (meth := k10m2) (c := k10c2) (by decide +kernel) rfl rfl rfl (by decide +kernel)
set_option maxRecDepth 65536 in
theorem w_c13 : (Jvm.Cond.code ({ cls := "com/example/kuusi/kuusi/core/Symbol", name := "equals", desc := "(Ljava/lang/Object;)Z" } : Jvm.MethodName) prog_78_method_5_code (3 : Nat) (Option.some Jvm.ClassFile.FieldType.boolean)).before args0 about1 = true := code_word (m := ⟨9, 1⟩) (meth := k9m1) (c := k9c1) (by decide +kernel) rfl rfl rfl (by decide +kernel)
set_option maxRecDepth 65536 in
theorem w_c14 : (Jvm.Cond.code ({ cls := "java/lang/String", name := "equals", desc := "(Ljava/lang/Object;)Z" } : Jvm.MethodName) jdk_42_method_66_code (3 : Nat) (Option.some Jvm.ClassFile.FieldType.boolean)).before args0 about1 = true := code_word (m := ⟨7, 3⟩) (meth := k7m3) (c := k7c3) (by decide +kernel) rfl rfl rfl (by decide +kernel)
set_option maxRecDepth 65536 in
theorem w_c15 : (Jvm.Cond.code ({ cls := "java/lang/StringLatin1", name := "equals", desc := "([B[B)Z" } : Jvm.MethodName) jdk_43_method_13_code (3 : Nat) (Option.some Jvm.ClassFile.FieldType.boolean)).before args0 about1 = true := code_word (m := ⟨10, 1⟩) (meth := k10m1) (c := k10c1) (by decide +kernel) rfl rfl rfl (by decide +kernel)
set_option maxRecDepth 65536 in
theorem w_c16 : (Jvm.Cond.code ({ cls := "jdk/internal/util/ArraysSupport", name := "vectorizedHashCode", desc := "(Ljava/lang/Object;IIII)I" } : Jvm.MethodName) jdk_48_method_4_code (5 : Nat) (Option.some Jvm.ClassFile.FieldType.int)).before args0 about1 = true := code_word (m := ⟨11, 1⟩) (meth := k11m1) (c := k11c1) (by decide +kernel) rfl rfl rfl (by decide +kernel)
set_option maxRecDepth 65536 in
theorem w_c17 : (Jvm.Cond.code ({ cls := "jdk/internal/util/ArraysSupport", name := "signedHashCode", desc := "(I[BII)I" } : Jvm.MethodName) jdk_48_method_5_code (6 : Nat) (Option.some Jvm.ClassFile.FieldType.int)).before args0 about1 = true := code_word (m := ⟨11, 2⟩) (meth := k11m2) (c := k11c2) (by decide +kernel) rfl rfl rfl (by decide +kernel)
def codes1 : List Jvm.Cond := [Jvm.Cond.code x code maxLocals ret, Jvm.Cond.code ({ cls := "com/example/kuusi/kuusi/core/SymbolEqualsPinLaw", name := "mk", desc := "(ICC)Ljava/lang/String;" } : Jvm.MethodName) method_2_code (3 : Nat) (Option.some (Jvm.ClassFile.FieldType.object "java/lang/String")), Jvm.Cond.code ({ cls := "java/lang/String", name := "<init>", desc := "([C)V" } : Jvm.MethodName) jdk_42_method_3_code (2 : Nat) (Option.none : Option Jvm.ClassFile.FieldType), Jvm.Cond.code ({ cls := "java/lang/String", name := "<init>", desc := "([CIILjava/lang/Void;)V" } : Jvm.MethodName) jdk_42_method_149_code (6 : Nat) (Option.none : Option Jvm.ClassFile.FieldType), Jvm.Cond.code ({ cls := "java/lang/Object", name := "<init>", desc := "()V" } : Jvm.MethodName) object_method_1_code (1 : Nat) (Option.none : Option Jvm.ClassFile.FieldType), Jvm.Cond.code ({ cls := "java/lang/StringUTF16", name := "compress", desc := "([CII)[B" } : Jvm.MethodName) jdk_52_method_16_code (6 : Nat) (Option.some (Jvm.ClassFile.FieldType.array Jvm.ClassFile.FieldType.byte)), Jvm.Cond.code ({ cls := "java/lang/StringUTF16", name := "compress", desc := "([CI[BII)I" } : Jvm.MethodName) jdk_52_method_21_code (7 : Nat) (Option.some Jvm.ClassFile.FieldType.int), Jvm.Cond.code ({ cls := "java/lang/StringUTF16", name := "coderFromArrayLen", desc := "([BI)B" } : Jvm.MethodName) jdk_52_method_15_code (2 : Nat) (Option.some Jvm.ClassFile.FieldType.byte), Jvm.Cond.code ({ cls := "com/example/kuusi/kuusi/core/Symbol", name := "<init>", desc := "(Ljava/lang/String;I)V" } : Jvm.MethodName) prog_78_method_1_code (3 : Nat) (Option.none : Option Jvm.ClassFile.FieldType), Jvm.Cond.code ({ cls := "java/lang/String", name := "isEmpty", desc := "()Z" } : Jvm.MethodName) jdk_42_method_55_code (1 : Nat) (Option.some Jvm.ClassFile.FieldType.boolean), Jvm.Cond.code ({ cls := "java/lang/String", name := "hashCode", desc := "()I" } : Jvm.MethodName) jdk_42_method_78_code (2 : Nat) (Option.some Jvm.ClassFile.FieldType.int), Jvm.Cond.code ({ cls := "java/lang/String", name := "isLatin1", desc := "()Z" } : Jvm.MethodName) jdk_42_method_154_code (1 : Nat) (Option.some Jvm.ClassFile.FieldType.boolean), Jvm.Cond.code ({ cls := "java/lang/StringLatin1", name := "hashCode", desc := "([B)I" } : Jvm.MethodName) jdk_43_method_21_code (1 : Nat) (Option.some Jvm.ClassFile.FieldType.int), Jvm.Cond.code ({ cls := "com/example/kuusi/kuusi/core/Symbol", name := "equals", desc := "(Ljava/lang/Object;)Z" } : Jvm.MethodName) prog_78_method_5_code (3 : Nat) (Option.some Jvm.ClassFile.FieldType.boolean), Jvm.Cond.code ({ cls := "java/lang/String", name := "equals", desc := "(Ljava/lang/Object;)Z" } : Jvm.MethodName) jdk_42_method_66_code (3 : Nat) (Option.some Jvm.ClassFile.FieldType.boolean), Jvm.Cond.code ({ cls := "java/lang/StringLatin1", name := "equals", desc := "([B[B)Z" } : Jvm.MethodName) jdk_43_method_13_code (3 : Nat) (Option.some Jvm.ClassFile.FieldType.boolean), Jvm.Cond.code ({ cls := "jdk/internal/util/ArraysSupport", name := "vectorizedHashCode", desc := "(Ljava/lang/Object;IIII)I" } : Jvm.MethodName) jdk_48_method_4_code (5 : Nat) (Option.some Jvm.ClassFile.FieldType.int), Jvm.Cond.code ({ cls := "jdk/internal/util/ArraysSupport", name := "signedHashCode", desc := "(I[BII)I" } : Jvm.MethodName) jdk_48_method_5_code (6 : Nat) (Option.some Jvm.ClassFile.FieldType.int)]
set_option maxRecDepth 65536 in
theorem codes_eq : words1.filter isCode = codes1 := rfl
theorem w_codes : ∀ c ∈ words1.filter isCode, c.before args0 about1 = true := by
  rw [codes_eq]
  intro c hc
  simp only [codes1, List.mem_cons, List.not_mem_nil, or_false] at hc
  rcases hc with rfl | rfl | rfl | rfl | rfl | rfl | rfl | rfl | rfl | rfl | rfl | rfl | rfl | rfl | rfl | rfl | rfl | rfl
  · exact w_c0
  · exact w_c1
  · exact w_c2
  · exact w_c3
  · exact w_c4
  · exact w_c5
  · exact w_c6
  · exact w_c7
  · exact w_c8
  · exact w_c9
  · exact w_c10
  · exact w_c11
  · exact w_c12
  · exact w_c13
  · exact w_c14
  · exact w_c15
  · exact w_c16
  · exact w_c17
set_option maxRecDepth 65536 in
theorem w_t1 : (words1.take 24).all (fun c => isCode c || c.before args0 about1) = true := by decide +kernel
set_option maxRecDepth 65536 in
theorem w_t2 : ((words1.drop 24).take 24).all (fun c => isCode c || c.before args0 about1) = true := by decide +kernel
set_option maxRecDepth 65536 in
theorem w_t3 : (((words1.drop 24).drop 24).take 24).all (fun c => isCode c || c.before args0 about1) = true := by decide +kernel
set_option maxRecDepth 65536 in
theorem w_t4 : ((((words1.drop 24).drop 24).drop 24).take 24).all (fun c => isCode c || c.before args0 about1) = true := by decide +kernel
set_option maxRecDepth 65536 in
theorem w_t5 : ((((words1.drop 24).drop 24).drop 24).drop 24).all (fun c => isCode c || c.before args0 about1) = true := by decide +kernel
theorem w_tables : (allAtoms (Jvm.Cond.code x code maxLocals ret :: tables_1)).before args0 about1 = true := by
  rw [allAtoms_all]
  show words1.all (fun c => c.before args0 about1) = true
  refine all_split ?_ w_codes
  rw [← List.take_append_drop 24 words1, List.all_append, w_t1, ← List.take_append_drop 24 (words1.drop 24), List.all_append, w_t2, ← List.take_append_drop 24 ((words1.drop 24).drop 24), List.all_append, w_t3, ← List.take_append_drop 24 (((words1.drop 24).drop 24).drop 24), List.all_append, w_t4, w_t5]
  rfl
set_option maxRecDepth 65536 in
theorem w_rest : rest_1_c.before args0 about1 = true := by decide +kernel
set_option maxRecDepth 65536 in
theorem w_case : (Jvm.Cond.and given_1 narrow_1).before args0 about1 = true := by decide +kernel
theorem w_applies : (headSpec (Jvm.Cond.code x code maxLocals ret :: tables_1) room_1).applies x e0.platform about1 = true :=
  (Spec.applies_iff w_frames).mpr ⟨w_running, w_runnable, w_alone, w_named, w_hears, w_ripe, w_room, w_tables⟩
theorem atStart : AtStart classFile x code maxLocals ret World_1 tables_1 room_1 Calls_1 rest_1 Pre_1 launch0 p0 e0 about1 theMethod args0 below0 :=
  ⟨lists_1, trivial, launch0.admits_env _ _ _, launch0.least_env, fairChoices_fair.cas, fairChoices_fair.clock, w_frames, w_args, w_heap, w_applies, trivial, w_rest, w_case⟩
end start1
theorem witness_1 : WitnessClaimed_1 := ⟨start1.p0, start1.e0, start1.about1, start1.theMethod, start1.args0, start1.below0, start1.atStart⟩
end Jvm.Pilot.@@N@@
