import JvmDerived
import JvmDerived.Pilot.@@N@@Statement
import JvmDerived.Pilot.@@N@@Code
set_option linter.unusedVariables false
set_option linter.unusedSimpArgs false
namespace Jvm.RoadKit
open Sem ClassFile Op Lib Jvm.Stand Jvm.Free Jvm.LawKit
section New
variable {p : Program} {l : Launch} {e : Env} {R : Room} {s : State} {m : MethodId} {args : Array Value} {below : List Frame} {meth : Method} {c : Code} {T : State} {locs : List Loc} {cells slots : Nat}
theorem retI (X : Stand p l e R s m args below meth c T locs cells slots) (hx : p.tables.exec = Jvm.exec) {pc : Nat} {Ls : Array Slot} {z : Int32} {rest : List Value} (hret : meth.sig.returnType = some .int) (hd : decode c.code pc = .ok (.ireturn, 1)) {fs : List Frame}
    (hl : ∀ (f : JFrame) (acts : List Action), f.method = m → f.locked = none → f.entered = [] → (doReturn e (T.setTop f) acts (some (.int z))).1 = T.setFrames fs) : Steps p.tables e below (T.setTop (mkF m pc Ls (.int z :: rest))) (T.setFrames fs) :=
  retOut X hx (w := .int z) (t := .int) hret rfl (Or.inl ⟨rfl, Or.inl rfl, _, rfl⟩) hd hl
end New
end Jvm.RoadKit
namespace Jvm.Own
open Sem ClassFile Op Lib Jvm.Stand Jvm.Free Jvm.LawKit Jvm.RoadKit
/-- from A on the run comes to B -/
abbrev Go (tb : Tables) (e : Env) (below : List Frame) (A B : State) : Prop := ∀ t, Steps tb e below B t → Steps tb e below A t
theorem gc {tb : Tables} {e : Env} {below : List Frame} {A B C : State} (h : Go tb e below A B) (k : ∀ t, Steps tb e below C t → Steps tb e below B t) : Go tb e below A C := fun t q => h t (k t q)
theorem gcT {tb : Tables} {e : Env} {below : List Frame} {A B C : State} (h : Go tb e below A B) (k : Steps tb e below B C) : Go tb e below A C := fun t q => h t (k.trans q)
theorem lremM {p : Program} {l : Launch} {e : Env} {R : Room} {s : State} {m : MethodId} {args : Array Value} {below : List Frame} {meth : Method} {c : Code} {T : State} {locs : List Loc} {cells slots : Nat} {g : JFrame} {target : State} (X : Stand p l e R s m args below meth c T locs cells slots) (hx : p.tables.exec = Jvm.exec) (hg : g.method = m) {x y : Int64} {rest : List Value} (hd : decode c.code g.pc = .ok (.lrem, 1)) (hs : g.stack = .long y :: .long x :: rest) (hy : y ≠ 0)
    (hr : Steps p.tables e below (T.setTop { g with pc := g.pc + 1, stack := .long (x % y) :: rest }) target) : Steps p.tables e below (T.setTop g) target :=
  XS.lrem X.here hx hg hd hs hy (by rw [lrem_mod]; exact hr)
theorem eqInt {s : State} {args : Array Value} {a : Term} {c : Int32} (h : (Cond.eq a (.int c)).value args s none s [] = some true) : a.eval args s none [] s = some (.int c) := by
  obtain ⟨x, y, hx, hy, k1, k2⟩ := cmp_v (Or.inl h)
  cases hy
  obtain ⟨z, rfl⟩ := k2
  simp [Cond.value, hx, Term.eval] at h
  subst h; exact hx
theorem neqInt {s : State} {args : Array Value} {a : Term} {c x : Int32} (hx : a.eval args s none [] s = some (.int x)) (h : (Cond.not (Cond.eq a (.int c))).value args s none s [] = some true) : ¬ x = c := by
  intro q
  have h2 := not_v h
  subst q
  simp [Cond.value, hx, Term.eval] at h2
theorem elAt {s : State} {args : Array Value} {t u : Term} {a w : Addr} {cl : Cell} {ty : FieldType} {i : Int32} (ht : t.eval args s none [] s = some (.ref a)) (A : Arr s s.heap a cl ty) (h : (Cond.eq (.elem t (.int i)) u).value args s none s [] = some true) (hu : u.eval args s none [] s = some (.ref w)) {j : Nat} (hj : i.toNatClampNeg = j) : cl.slots[j]? = some (.ref w) := by
  obtain ⟨x, y, hx, hy, k1, k2⟩ := cmp_v (Or.inl h)
  rw [hu] at hy; cases hy
  have hr : x.isRef = true := k2.2
  have e := gotT (eq_R hx hu hr rfl) h
  subst e
  have q := (elem_in hx ht (Term.int_eval i) A.1).2
  rw [hj] at q; exact q
theorem arvOf {s : State} {args : Array Value} {t : Term} {a : Addr} {cl : Cell} {ty : FieldType} {z : Int32} {vs : List Value} {dv : Value} (hf : Fit s) (ev : t.eval args s none [] s = some (.ref a)) (A : Arr s s.heap a cl ty) (hl : (Term.length t).eval args s none [] s = some (.int z)) (hz : ¬ z < 0) (hn : z.toNatClampNeg = vs.length) (H : HasL cl 0 vs) : Arv s s.heap a cl.cls ty z vs dv := by
  have ha : s.arrayAt? a = some cl := Arr.fin (Vm.Alike.refl _) A
  by_cases q : cl.slots.size < 2 ^ 31
  · rw [len_f ev ha q] at hl
    cases hl
    exact Arv.start hf A q rfl hz hn H
  · simp [Term.eval, ev, ha, q] at hl
theorem selPriv {s : State} {args : Array Value} {C : String} {z y : MethodName} (w : (Cond.selects C z z).before args s = true) (hc : z.cls = y.cls) (hp : s.PrivateAt y) (hi : (Cond.instanceMethod y).before args s = true) (hy : y.cls ≠ "java/lang/invoke/MethodHandle" ∧ y.cls ≠ "java/lang/invoke/VarHandle") : (Cond.selects y.cls y y).before args s = true := by
  obtain ⟨c2, r2, m2, -, -, q3, -, kP, hkP, hkPi⟩ := Cond.selects_spec w
  exact selects_self_of_private (hc ▸ findClass_of_methodNamed q3) hkP hkPi hp hi hy

theorem IB_same {Z : State} {vm vm1 : Vm} {Ts : List String} (I : IB Z vm Ts) (h : vm1.interned = vm.interned) : IB Z vm1 Ts := by
  obtain ⟨more, e, hm⟩ := I
  exact ⟨more, h.trans e, hm⟩
theorem backOfI {p : Program} {l : Launch} {e : Env} {R : Room} {s Z : State} {args a0 : Array Value} {below : List Frame} {h : Heap} {y : MethodName} {bytes : ByteArray} {maxL : Nat} {ret : Option FieldType} {rm : Room} {len W : Nat} {as' : Array Value} {Q : Option Value → Heap → List Loc → Prop} {Ts : List String}
    (hM : MetFree l y (head1 [Cond.code y bytes maxL ret] rm) (fun a U => a = as' ∧ Z.Warmed39 U.vm ∧ U.heap = h ∧ IB Z U.vm Ts) (fun _ _ _ _ _ => True) (fun _ U o U' => ∃ v L, o = .returned v ∧ Q v U'.heap L ∧ ReturnedEndW U o U' L rm.cells rm.slots))
    (hZ : Z.Warmed39 s.vm) (I : IB Z s.vm Ts) (wc : (Cond.code y bytes maxL ret).before a0 Z = true) (wz : (Cond.initialized y.cls).before a0 Z = true) (hf : rm.frames + 1 ≤ R.frames) (hl : W + (maxL + 11) + rm.locals ≤ R.locals) :
    BackS l R p e below s args y len W (fun A a => a = as' ∧ A.U.heap = h ∧ A.cells + rm.cells ≤ R.cells ∧ A.slots + rm.slots ≤ R.slots)
      (fun A _ v B => ∃ L, Q v B.U.heap L ∧ B.locs = A.locs ++ L ∧ B.cells = A.cells + rm.cells ∧ B.slots = A.slots + rm.slots) :=
  BackS.of_freeW (bytes := bytes) (maxL := maxL) (ret := ret) (E := fun _ _ o t L k n => k = rm.cells ∧ n = rm.slots ∧ ∃ v, o = .returned v ∧ Q v t.heap L) hM hf hl
    (fun m meth c A a Y hp => have hU : Z.Warmed39 A.U.vm := wtrans hZ Y.warmed
      ⟨by show (Cond.and _ .tt).before a A.U = true; rw [Cond.before_and, mv hU wc]; rfl, mv hU wc, mv hU wz, hp.2.2.1, hp.2.2.2⟩)
    (fun m meth c A a g mk Y hp => ⟨hp.1, wtrans hZ Y.warmed, hp.2.1, IB_same I Y.warmed.interned_eq⟩) (fun _ _ _ _ _ _ _ _ _ => trivial)
    (fun _ _ _ _ ⟨v, L, h1, h2, h3⟩ => ⟨L, _, _, h3, rfl, rfl, v, h1, h2⟩)
    (fun m meth c A a g mk v t L k n Y hp _ _ ⟨e1, e2, v', e3, e4⟩ => by cases e3; subst e1 e2; exact ⟨L, e4, rfl, rfl, rfl⟩)
theorem neAV {Z : State} {h : Heap} {a b : Addr} {C : String} {n : Nat} {a0 : Array Value} {k : ClassId} {ty : FieldType} {z : Int32} {vs : List Value} {dv : Value} (w : (Cond.instantiable C n).before a0 Z = true) (E : Exa Z h a C) (V : Arv Z h b k ty z vs dv) : a ≠ b := by
  rintro rfl
  obtain ⟨cell, k1, e1, e2, e3, -, -⟩ := E
  obtain ⟨cl, ⟨v1, ⟨-, k2, hk2, comp, hkind⟩, -⟩, -⟩ := V
  obtain ⟨cI, kI, hfI, hkI, hkindI, -⟩ := Cond.instantiable_spec w
  cases e1.symm.trans v1
  cases e2.symm.trans hfI
  cases hkI.symm.trans hk2
  rw [hkindI] at hkind; cases hkind
theorem neFF {Z : State} {h : Heap} {a b x : Addr} {C n d : String} (F : Fld Z h a C n d .null) (G : Fld Z h b C n d (.ref x)) : a ≠ b := by
  rintro rfl
  obtain ⟨c1, cf1, k1, i1, f1, g1, g2, -, -, -, -, g7⟩ := F
  obtain ⟨c2, cf2, k2, i2, f2, v1, v2, -, -, -, -, v7⟩ := G
  cases g1.symm.trans v1
  cases g2.symm.trans v2
  rw [g7] at v7; cases v7
end Jvm.Own
namespace Jvm.Pilot.@@N@@
open Jvm Jvm.ClassFile Sem Op Lib Jvm.Free Jvm.Stand Jvm.LawKit Jvm.RoadKit Jvm.Own Bundle Jvm.Pilot.@@N@@.Jvm.D
theorem own_w {Z : State} {a0 : Array Value} (hw : ∀ d ∈ tables_1, d.before a0 Z = true) (i : Nat) {d : Jvm.Cond} (h : tables_1[i]? = some d) : d.before a0 Z = true := hw _ (List.mem_of_getElem? h)
abbrev own_x0 (c : Int32) : Int32 := nar .byte ((c >>> (0 : Int32)).toInt8.toInt32)
abbrev own_x8 (c : Int32) : Int32 := nar .byte ((c >>> (8 : Int32)).toInt8.toInt32)
abbrev own_xl (c : Int32) : Int32 := nar .byte (c.toInt8.toInt32)

def own_c8 (b : Int32) : Int32 := nar .char ((b &&& (255 : Int32)).toUInt32.toUInt16.toUInt32.toInt32)
def own_c16 (b0 b1 : Int32) : Int32 := nar .char ((((b0 &&& (255 : Int32)) <<< (0 : Int32)) ||| ((b1 &&& (255 : Int32)) <<< (8 : Int32))).toUInt32.toUInt16.toUInt32.toInt32)
theorem own_255 (i : Nat) : (255#32).getLsbD i = decide (i < 8) := by
  rw [BitVec.getLsbD_ofNat, show (255 : Nat) = 2 ^ 8 - 1 from rfl, Nat.testBit_two_pow_sub_one]
  by_cases h : i < 8 <;> simp [h]
  omega
theorem own_narb (x : Int32) : (nar .byte x &&& (255 : Int32)).toBitVec = x.toBitVec &&& 255#32 := by
  apply BitVec.eq_of_getLsbD_eq
  intro i hi
  simp [nar, own_255, BitVec.getLsbD_signExtend]
  by_cases h : i < 8 <;> simp [h, hi]
theorem own_nb8 (x : Int32) : nar .byte (x.toInt8.toInt32) &&& (255 : Int32) = x &&& 255 := by
  apply Int32.toBitVec_inj.mp
  rw [own_narb]
  apply BitVec.eq_of_getLsbD_eq
  intro i hi
  simp [own_255, BitVec.getLsbD_signExtend]
  by_cases h : i < 8 <;> simp [h, hi]
theorem own_narc (x : Int32) (h1 : ¬ x < 0) (h2 : ¬ (65535 : Int32) < x) : nar .char x = x := by
  have h := c_i2c x
  rw [Int32.lt_iff_toInt_lt] at h1 h2
  rw [show (0 : Int32).toInt = 0 from rfl] at h1
  rw [show (65535 : Int32).toInt = 65535 from rfl] at h2
  apply Int32.toInt_inj.mp
  show (x.toUInt32.toUInt16.toUInt32.toInt32).toInt = x.toInt
  omega
theorem own_narcr (x : Int32) : ¬ nar .char x < 0 ∧ ¬ (65535 : Int32) < nar .char x := by
  have h := c_i2c x
  rw [Int32.lt_iff_toInt_lt, Int32.lt_iff_toInt_lt]
  rw [show (0 : Int32).toInt = 0 from rfl, show (65535 : Int32).toInt = 65535 from rfl]
  show ¬ (x.toUInt32.toUInt16.toUInt32.toInt32).toInt < 0 ∧ ¬ 65535 < (x.toUInt32.toUInt16.toUInt32.toInt32).toInt
  omega
theorem own_m255 (x : Int32) (h1 : ¬ x < 0) (h2 : ¬ (255 : Int32) < x) : x &&& (255 : Int32) = x := by
  have h := c_mask x 255 8 (by decide) (by decide)
  rw [Int32.lt_iff_toInt_lt] at h1 h2
  rw [show (0 : Int32).toInt = 0 from rfl] at h1
  rw [show (255 : Int32).toInt = 255 from rfl] at h2
  apply Int32.toInt_inj.mp
  rw [h]; omega
/-- a Latin-1 char comes back -/
theorem own_l8 (c : Int32) (h1 : ¬ c < 0) (h2 : ¬ (255 : Int32) < c) : own_c8 (nar .byte (c.toInt8.toInt32)) = c := by
  have e : nar .byte (c.toInt8.toInt32) &&& (255 : Int32) = c := by rw [own_nb8, own_m255 c h1 h2]
  have h3 : ¬ (65535 : Int32) < c := fun q => h2 (Int32.lt_trans (by decide) q)
  have e2 : c.toUInt32.toUInt16.toUInt32.toInt32 = c := own_narc c h1 h3
  unfold own_c8
  rw [e, e2, own_narc c h1 h3]
theorem own_l16 (c : Int32) (h1 : ¬ c < 0) (h2 : ¬ (65535 : Int32) < c) : own_c16 (nar .byte ((c >>> (0 : Int32)).toInt8.toInt32)) (nar .byte ((c >>> (8 : Int32)).toInt8.toInt32)) = c := by
  unfold own_c16
  rw [own_nb8, own_nb8]
  have e0 : c >>> (0 : Int32) = c := by simp
  rw [e0]
  have e : ((c &&& (255 : Int32)) <<< (0 : Int32)) ||| (((c >>> (8 : Int32)) &&& (255 : Int32)) <<< (8 : Int32)) = c := by
    have hb : ∀ i, 16 ≤ i → c.toBitVec.getLsbD i = false := by
      intro i hi
      rw [Int32.lt_iff_toInt_lt] at h1 h2
      rw [show (0 : Int32).toInt = 0 from rfl] at h1
      rw [show (65535 : Int32).toInt = 65535 from rfl] at h2
      have h3 : c.toInt = c.toBitVec.toInt := rfl
      have h4 : c.toBitVec.toNat < 65536 := by
        rw [h3, BitVec.toInt_eq_toNat_cond] at h1 h2
        split at h1 <;> simp_all <;> omega
      rw [BitVec.getLsbD, Nat.testBit_lt_two_pow]
      exact Nat.lt_of_lt_of_le h4 (Nat.le_trans (by decide : 65536 ≤ 2 ^ 16) (Nat.pow_le_pow_right (by decide) hi))
    apply Int32.toBitVec_inj.mp
    apply BitVec.eq_of_getLsbD_eq
    intro i hi
    have key : 8 ≤ i → 8 + (i - 8) = i := fun h => by omega
    simp [own_255, BitVec.getLsbD_sshiftRight]
    rcases Nat.lt_or_ge i 8 with a | a
    · simp [a]
    · rcases Nat.lt_or_ge i 16 with b | b
      · have q1 : ¬ i < 8 := by omega
        have q2 : i - 8 < 8 := by omega
        have q3 : i - 8 < 32 := by omega
        simp [hi, q1, q2, q3, key a]
      · have q1 : ¬ i < 8 := by omega
        have q2 : ¬ (i - 8 < 8) := by omega
        rw [hb i b]; simp [q1, q2]
  rw [e]
  have e2 : c.toUInt32.toUInt16.toUInt32.toInt32 = c := own_narc c h1 h2
  rw [e2, own_narc c h1 h2]

theorem own_nar2 (x : Int32) : nar .char (nar .char x) = nar .char x := own_narc _ (own_narcr x).1 (own_narcr x).2
def own_G (Z : State) (cs1 : Int32) (fm : Value) : Prop := Sta Z Z.heap "java/lang/String" "COMPACT_STRINGS" "Z" (.int cs1) ∧ ¬ (cs1 = (0 : Int32)) ∧ Sta Z Z.heap "jdk/internal/util/Preconditions" "SIOOBE_FORMATTER" "Ljava/util/function/BiFunction;" fm ∧ fm.isRef = true ∧ Sta Z Z.heap "java/lang/StringUTF16" "$assertionsDisabled" "Z" (.int (1 : Int32)) ∧ Sta Z Z.heap "java/lang/StringUTF16" "HI_BYTE_SHIFT" "I" (.int (0 : Int32)) ∧ Sta Z Z.heap "java/lang/StringUTF16" "LO_BYTE_SHIFT" "I" (.int (8 : Int32))

theorem own_sA {Z : State} {a0 : Array Value} (hw : ∀ d ∈ tables_1, d.before a0 Z = true) : ∀ a ∈ Bundle.stringAtoms, a.before a0 Z = true := fun a h => hw a ((by decide +kernel : ∀ w ∈ Bundle.stringAtoms, w ∈ tables_1) a h)

def own_bl (c : Int32) : Int32 := if c = 32 then 1 else if c = 9 then 1 else if c = 10 then 1 else if c = 11 then 1 else if c = 12 then 1 else if c = 13 then 1 else 0
theorem own_bl01 (c : Int32) : own_bl c = 0 ∨ own_bl c = 1 := by unfold own_bl; (repeat' split) <;> simp
theorem own_nbl (c : Int32) : nar .boolean (own_bl c) = own_bl c := by rcases own_bl01 c with q | q <;> rw [q] <;> rfl
theorem own_blbig {c : Int32} (h : ¬ c < (128 : Int32)) : own_bl c = 0 := by
  have key : ∀ x : Int32, x < 128 → ¬ c = x := fun x hx q => h (q ▸ hx)
  unfold own_bl
  rw [if_neg (key _ (by decide)), if_neg (key _ (by decide)), if_neg (key _ (by decide)), if_neg (key _ (by decide)), if_neg (key _ (by decide)), if_neg (key _ (by decide))]
def own_bt (j : Nat) : Int32 := if j = 32 then 1 else if 9 ≤ j ∧ j < 14 then 1 else 0
theorem own_btl : ∀ j : Fin 128, own_bt j.1 = own_bl (Int32.ofNat j.1) := by decide +kernel
theorem own_ofc {c : Int32} (h1 : ¬ c < 0) (h2 : c < (128 : Int32)) : c.toNatClampNeg < 128 ∧ Int32.ofNat c.toNatClampNeg = c := by
  rw [Int32.lt_iff_toInt_lt] at h1 h2
  rw [show (0 : Int32).toInt = 0 from rfl] at h1
  rw [show (128 : Int32).toInt = 128 from rfl] at h2
  have e : c.toNatClampNeg = c.toInt.toNat := rfl
  refine ⟨by omega, Int32.toInt_inj.mp ?_⟩
  rw [Int32.toInt_ofNat_small (by omega)]; omega
theorem own_bla {vs : List Value} (HT : ∀ j, j < 128 → vs.getD j (.int (0 : Int32)) = .int (own_bt j)) {c : Int32} (h1 : ¬ c < 0) (h2 : c < (128 : Int32)) : vs.getD (c).toNatClampNeg (.int (0 : Int32)) = .int (own_bl c) := by
  obtain ⟨q, e⟩ := own_ofc h1 h2
  rw [HT _ q, own_btl ⟨_, q⟩]; dsimp only; rw [e]
def own_at (cs : List Int32) (i : Nat) : Int32 := cs.getD i 0
def own_ac (cs : List Int32) : Nat → Int32
  | 0 => 1
  | i + 1 => if own_ac cs i = 0 then 0 else own_bl (own_at cs i)
theorem own_ac_s (cs : List Int32) (i : Nat) : own_ac cs (i + 1) = if own_ac cs i = 0 then 0 else own_bl (own_at cs i) := rfl
theorem own_ac01 (cs : List Int32) (i : Nat) : own_ac cs i = 0 ∨ own_ac cs i = 1 := by
  cases i with
  | zero => exact Or.inr rfl
  | succ i => rw [own_ac_s]; split
              · exact Or.inl rfl
              · exact own_bl01 _
theorem own_nac (cs : List Int32) (i : Nat) : nar .boolean (own_ac cs i) = own_ac cs i := by rcases own_ac01 cs i with q | q <;> rw [q] <;> rfl
theorem own_ac0 (cs : List Int32) (i n : Nat) (h : i ≤ n) (q : own_ac cs i = 0) : own_ac cs n = 0 := by
  obtain ⟨k, rfl⟩ : ∃ k, n = i + k := ⟨n - i, by omega⟩
  clear h
  induction k with
  | zero => exact q
  | succ k ih => rw [← Nat.add_assoc, own_ac_s, if_pos ih]
theorem own_ac1 (x0 : Int32) : own_ac [x0] 1 = (if (own_bl x0) = (0 : Int32) then (0 : Int32) else (1 : Int32)) := by
  simp only [own_ac, own_at, List.getD_cons_zero, List.getD_cons_succ]
  rcases own_bl01 x0 with q0 | q0 <;> simp [q0]
theorem own_ac2 (x0 x1 : Int32) : own_ac [x0, x1] 2 = (if (own_bl x0) = (0 : Int32) then (0 : Int32) else (if (own_bl x1) = (0 : Int32) then (0 : Int32) else (1 : Int32))) := by
  simp only [own_ac, own_at, List.getD_cons_zero, List.getD_cons_succ]
  rcases own_bl01 x0 with q0 | q0 <;> rcases own_bl01 x1 with q1 | q1 <;> simp [q0, q1]
theorem own_ac3 (x0 x1 x2 : Int32) : own_ac [x0, x1, x2] 3 = (if (own_bl x0) = (0 : Int32) then (0 : Int32) else (if (own_bl x1) = (0 : Int32) then (0 : Int32) else (if (own_bl x2) = (0 : Int32) then (0 : Int32) else (1 : Int32)))) := by
  simp only [own_ac, own_at, List.getD_cons_zero, List.getD_cons_succ]
  rcases own_bl01 x0 with q0 | q0 <;> rcases own_bl01 x1 with q1 | q1 <;> rcases own_bl01 x2 with q2 | q2 <;> simp [q0, q1, q2]
theorem own_ac4 (x0 x1 x2 x3 : Int32) : own_ac [x0, x1, x2, x3] 4 = (if (own_bl x0) = (0 : Int32) then (0 : Int32) else (if (own_bl x1) = (0 : Int32) then (0 : Int32) else (if (own_bl x2) = (0 : Int32) then (0 : Int32) else (if (own_bl x3) = (0 : Int32) then (0 : Int32) else (1 : Int32))))) := by
  simp only [own_ac, own_at, List.getD_cons_zero, List.getD_cons_succ]
  rcases own_bl01 x0 with q0 | q0 <;> rcases own_bl01 x1 with q1 | q1 <;> rcases own_bl01 x2 with q2 | q2 <;> rcases own_bl01 x3 with q3 | q3 <;> simp [q0, q1, q2, q3]
theorem own_lt32 {a b : Nat} (ha : a < 32) (hb : b < 32) : (Int32.ofNat a < Int32.ofNat b ↔ a < b) := by
  have : ∀ x y : Fin 32, (Int32.ofNat x.val < Int32.ofNat y.val ↔ x.val < y.val) := by decide +kernel
  exact this ⟨a, ha⟩ ⟨b, hb⟩
theorem own_cl32 {a : Nat} (ha : a < 32) : (Int32.ofNat a).toNatClampNeg = a := by
  have : ∀ x : Fin 32, (Int32.ofNat x.val).toNatClampNeg = x.val := by decide +kernel
  exact this ⟨a, ha⟩
theorem own_nn32 {a : Nat} (ha : a < 32) : ¬ Int32.ofNat a < (0 : Int32) := by
  have : ∀ x : Fin 32, ¬ Int32.ofNat x.val < (0 : Int32) := by decide +kernel
  exact this ⟨a, ha⟩
theorem own_up1 (a : Nat) : Int32.ofNat (a + 1) = Int32.ofNat a + (1 : Int32) := by
  apply Int32.toBitVec_inj.mp
  simp
theorem own_rem5 (x : Int32) : (x &&& 2147483647) % 5 = 0 ∨ (x &&& 2147483647) % 5 = 1 ∨ (x &&& 2147483647) % 5 = 2 ∨ (x &&& 2147483647) % 5 = 3 ∨ (x &&& 2147483647) % 5 = 4 := by
  have h0 := c_mask x 2147483647 31 (by decide) (by decide)
  have h1 := (c_irem (x &&& 2147483647) 5 5 (by decide)).1 (by omega)
  have h2 : ((x &&& 2147483647) % 5).toInt = 0 ∨ ((x &&& 2147483647) % 5).toInt = 1 ∨ ((x &&& 2147483647) % 5).toInt = 2 ∨ ((x &&& 2147483647) % 5).toInt = 3 ∨ ((x &&& 2147483647) % 5).toInt = 4 := by omega
  rcases h2 with h | h | h | h | h
  · exact Or.inl (Int32.toInt_inj.mp h)
  · exact Or.inr (Or.inl (Int32.toInt_inj.mp h))
  · exact Or.inr (Or.inr (Or.inl (Int32.toInt_inj.mp h)))
  · exact Or.inr (Or.inr (Or.inr (Or.inl (Int32.toInt_inj.mp h))))
  · exact Or.inr (Or.inr (Or.inr (Or.inr (Int32.toInt_inj.mp h))))

theorem own_eqI {s : State} {args : Array Value} {idx : List Nat} {a : Term} {c : Int32} (h : (Cond.eq a (.int c)).value args s none s idx = some true) : a.eval args s none idx s = some (.int c) := by
  obtain ⟨x, y, hx, hy, k1, k2⟩ := cmp_v (Or.inl h)
  cases hy
  obtain ⟨z, rfl⟩ := k2
  simp [Cond.value, hx, Term.eval] at h
  subst h; exact hx
theorem own_elI {s : State} {args : Array Value} {t : Term} {a : Addr} {cl : Cell} {j : Nat} {v : Int32} (ev : t.eval args s none [j] s = some (.ref a)) (A : Arr s s.heap a cl .boolean) (hj : j < 128) (h : (Cond.eq (.elem t (.index 0)) (.int v)).value args s none s [j] = some true) : cl.slots[j]? = some (.int v) := by
  have hi : (Term.index 0).eval args s none [j] s = some (.int j.toInt32) := by simp [Term.eval]
  have q := (elem_in (own_eqI h) ev hi A.1).2
  have e : (j.toInt32).toNatClampNeg = j := by
    have : ∀ x : Fin 128, (x.1.toInt32).toNatClampNeg = x.1 := by decide +kernel
    exact this ⟨j, hj⟩
  rw [e] at q; exact q
theorem own_hasL (cl : Cell) : ∀ (l : List Value) (i : Nat), (∀ j, j < l.length → cl.slots[i + j]? = l[j]?) → HasL cl i l
  | [], _, _ => trivial
  | v :: r, i, h => ⟨by have z := h 0 (by simp); simpa using z, own_hasL cl r (i + 1) fun j hj => by
      have z := h (j + 1) (by simp; omega)
      rw [show i + (j + 1) = i + 1 + j by omega] at z; simpa using z⟩
theorem own_lei {s : State} {args : Array Value} {j : Nat} (k : Int32) : (Cond.le (.int k) (.index 0)).value args s none s [j] = some (decide (k ≤ j.toInt32)) := by simp [Cond.value, Term.eval]
theorem own_lti {s : State} {args : Array Value} {j : Nat} (k : Int32) : (Cond.lt (.index 0) (.int k)).value args s none s [j] = some (decide (j.toInt32 < k)) := by simp [Cond.value, Term.eval]
theorem own_orv {s : State} {args : Array Value} {idx : List Nat} {c d : Cond} {P : Prop} [Decidable P] (h1 : c.value args s none s idx = some (decide P)) (h : (Cond.or c d).value args s none s idx = some true) (hP : ¬ P) : d.value args s none s idx = some true := by
  simpa [Cond.value, h1, hP] using h
theorem own_tab {s : State} {args : Array Value} {t : Term} {a : Addr} {cl : Cell} (hf : Fit s) (ev : ∀ idx, t.eval args s none idx s = some (.ref a)) (A : Arr s s.heap a cl .boolean) (hl : (Term.length t).eval args s none [] s = some (.int 128))
    (h1 : (Cond.all t (.or (.le (.int 9) (.index 0)) (.eq (.elem t (.index 0)) (.int 0)))).value args s none s [] = some true)
    (h2 : (Cond.all t (.or (.lt (.index 0) (.int 9)) (.or (.le (.int 14) (.index 0)) (.eq (.elem t (.index 0)) (.int 1))))).value args s none s [] = some true)
    (h3 : (Cond.all t (.or (.lt (.index 0) (.int 14)) (.or (.le (.int 32) (.index 0)) (.eq (.elem t (.index 0)) (.int 0))))).value args s none s [] = some true)
    (h4 : (Cond.all t (.or (.lt (.index 0) (.int 33)) (.eq (.elem t (.index 0)) (.int 0)))).value args s none s [] = some true)
    (h5 : (Cond.eq (.elem t (.int 32)) (.int 1)).value args s none s [] = some true) :
    ∃ vs : List Value, Arv s s.heap a cl.cls .boolean 128 vs (.int (0 : Int32)) ∧ ∀ j, j < 128 → vs.getD j (.int (0 : Int32)) = .int (own_bt j) := by
  have ha : s.arrayAt? a = some cl := Arr.fin (Vm.Alike.refl _) A
  have hq : cl.slots.size < 2 ^ 31 := by
    by_cases q : cl.slots.size < 2 ^ 31
    · exact q
    · simp [Term.eval, ev [], ha, q] at hl
  have hs : cl.slots.size = 128 := by
    rw [len_f (ev []) ha hq] at hl
    have e : cl.slots.size.toInt32 = 128 := by injection hl with hl; injection hl
    have e2 := congrArg Int32.toInt e
    rw [show cl.slots.size.toInt32 = Int32.ofNat cl.slots.size from rfl, Int32.toInt_ofNat_small hq] at e2
    have e3 : (128 : Int32).toInt = 128 := by decide
    omega
  have key : ∀ j, j < 128 → cl.slots[j]? = some (.int (own_bt j)) := by
    intro j hj
    have B : ∀ x : Fin 128, ((9 : Int32) ≤ x.1.toInt32 ↔ 9 ≤ x.1) ∧ (x.1.toInt32 < (9 : Int32) ↔ x.1 < 9) ∧ ((14 : Int32) ≤ x.1.toInt32 ↔ 14 ≤ x.1) ∧ (x.1.toInt32 < (14 : Int32) ↔ x.1 < 14) ∧ ((32 : Int32) ≤ x.1.toInt32 ↔ 32 ≤ x.1) ∧ (x.1.toInt32 < (33 : Int32) ↔ x.1 < 33) := by decide +kernel
    obtain ⟨b1, b2, b3, b4, b5, b6⟩ := B ⟨j, hj⟩
    dsimp only at b1 b2 b3 b4 b5 b6
    have g1 := Cond.all_elim (ev []) ha h1 j (by omega)
    have g2 := Cond.all_elim (ev []) ha h2 j (by omega)
    have g3 := Cond.all_elim (ev []) ha h3 j (by omega)
    have g4 := Cond.all_elim (ev []) ha h4 j (by omega)
    unfold own_bt
    by_cases q : j = 32
    · subst q
      rw [if_pos rfl]
      exact (elem_in (own_eqI h5) (ev []) (Term.int_eval 32) A.1).2
    · rw [if_neg q]
      by_cases q9 : j < 9
      · rw [if_neg (by omega)]
        exact own_elI (ev _) A hj (own_orv (own_lei 9) g1 (by rw [b1]; omega))
      · by_cases q14 : j < 14
        · rw [if_pos (by omega)]
          exact own_elI (ev _) A hj (own_orv (own_lei 14) (own_orv (own_lti 9) g2 (by rw [b2]; omega)) (by rw [b3]; omega))
        · rw [if_neg (by omega)]
          by_cases q32 : j < 32
          · exact own_elI (ev _) A hj (own_orv (own_lei 32) (own_orv (own_lti 14) g3 (by rw [b4]; omega)) (by rw [b5]; omega))
          · exact own_elI (ev _) A hj (own_orv (own_lti 33) g4 (by rw [b6]; omega))
  refine ⟨cl.slots.toList, Arv.start hf A hq (by rw [hs]; rfl) (by decide) (by simp [hs]) ?_, fun j hj => ?_⟩
  · exact own_hasL cl _ 0 fun j hj => by simp
  · have z := key j hj
    simp [z]

def own_ds (cs : List Int32) (n : Nat) : Nat → List Int32
  | 0 => List.replicate n 0
  | i + 1 => (own_ds cs n i).set i (nar .byte ((own_at cs i).toInt8.toInt32))
theorem own_ds_len (cs : List Int32) (n : Nat) : ∀ i, (own_ds cs n i).length = n := by
  intro i; induction i with
  | zero => simp [own_ds]
  | succ i ih => unfold own_ds; simp [ih]
theorem own_mg (cs : List Int32) (i : Nat) (h : i < 32) : (cs.map Value.int).getD ((Int32.ofNat i)).toNatClampNeg (.int (0 : Int32)) = .int (own_at cs i) := by
  rw [own_cl32 h]; unfold own_at
  simp only [List.getD_eq_getElem?_getD, List.getElem?_map]
  cases cs[i]? <;> rfl

theorem d13_0 : decode jdk_42_method_154_code 0 = .ok (.getstatic 38, 3) := by decide +kernel
theorem d13_3 : decode jdk_42_method_154_code 3 = .ok (.ifCond .eq 14, 3) := by decide +kernel
theorem d13_6 : decode jdk_42_method_154_code 6 = .ok (.aload_n 0, 1) := by decide +kernel
theorem d13_7 : decode jdk_42_method_154_code 7 = .ok (.getfield 15, 3) := by decide +kernel
theorem d13_10 : decode jdk_42_method_154_code 10 = .ok (.ifCond .ne 7, 3) := by decide +kernel
theorem d13_13 : decode jdk_42_method_154_code 13 = .ok (.iconst 1, 1) := by decide +kernel
theorem d13_14 : decode jdk_42_method_154_code 14 = .ok (.goto 4, 3) := by decide +kernel
theorem d13_18 : decode jdk_42_method_154_code 18 = .ok (.ireturn, 1) := by decide +kernel
theorem pn13 : plainFor (⟨"java/lang/String", "isLatin1", "()Z"⟩ : MethodName) = true := plainFor_of_name (by first | (simp [plainName, overriddenIn]; done) | decide +kernel)
theorem ef_rm13_0 (m : MethodId) (a1 : Addr) (cs1 : Int32) (fm : Value) : entryFrame m #[(.ref a1)] 1 = mkF m 0 #[.val (.ref a1)] [] := by first | (simp [entryFrame, mkF, argsToLocals, Value.category]; done) | rfl
def Q13_0 (Z : State) (a1 : Addr) (cs1 : Int32) (fm : Value) (h0 : Heap) (n0 : Nat) (v : Option Value) (h : Heap) (L : List Loc) : Prop := v = some (.int (1 : Int32)) ∧ Fr n0 L ∧ (h = h0)
set_option maxRecDepth 65536 in
set_option maxHeartbeats 40000000 in
theorem rm13_0 (l : Launch) (Z : State) (a0 : Array Value) (hw : ∀ d ∈ tables_1, d.before a0 Z = true) (ws : List Jvm.Cond) (a1 : Addr) (cs1 : Int32) (fm : Value) (h0 : Heap) (n0 : Nat) (Z0 : n0 ≤ h0.size) (O1 : Old Z n0 h0) (G : own_G Z cs1 fm) (F1 : Fld Z h0 a1 "java/lang/String" "coder" "B" (.int (0 : Int32))) :
  MetFree l (⟨"java/lang/String", "isLatin1", "()Z"⟩ : MethodName) (head1 (Jvm.Cond.code (⟨"java/lang/String", "isLatin1", "()Z"⟩ : MethodName) jdk_42_method_154_code 1 (some .boolean) :: ws) ({ frames := 0, cells := 0, slots := 0, locals := 0 } : Room)) (fun a U => a = #[(.ref a1)] ∧ Z.Warmed39 U.vm ∧ U.heap = h0) (fun _ _ _ _ _ => True) (fun _ U o U' => ∃ v L, o = .returned v ∧ Q13_0 Z a1 cs1 fm h0 n0 v U'.heap L ∧ FrameEnd U o U' L ({ frames := 0, cells := 0, slots := 0, locals := 0 } : Room).cells ({ frames := 0, cells := 0, slots := 0, locals := 0 } : Room).slots) := by
 refine MetFree.of_bodySF pn13 hisR ?_
 intro p e s m args below meth c s₁ Bd hml0 hP hK
 obtain ⟨rfl, hZ, hh⟩ := hP
 have hx := Bd.exec
 have hby := Bd.bytes
 have hml : c.maxLocals = 1 := hml0
 have hown : s.vm.findClass "java/lang/String" = some m.cls := findClass_of_methodNamed Bd.named
 have hnm := (name_of_methodNamed Bd.named Bd.method).1
 have X0 : Stand p l e ({ frames := 0, cells := 0, slots := 0, locals := 0 } : Room) s m #[(.ref a1)] below meth c s₁ [] 0 0 := Stand.of_body Bd
 have e0 : s₁.heap = h0 := by rw [← hh, Bd.state]; rfl
 have N0 := Fr.nil n0
 have p0 : Go p.tables e below (s₁.setTop (entryFrame m #[(.ref a1)] 1)) (s₁.setTop (mkF m 0 #[.val (.ref a1)] [])) := fun t_ k_ => castTop (ef_rm13_0 m a1 cs1 fm) k_
 obtain ⟨T101, X101, e101, st101⟩ := getS2 X0 hx hZ hown (host := "") (Or.inl (own_w hw 41 rfl)) Via.refl e0 (G.1.ext O1.2) (g := (mkF m 0 #[.val (.ref a1)] [])) rfl (hb hby d13_0)
 have c102 : ¬ (cs1 = (0 : Int32)) := G.2.1
 have p103 : Go p.tables e below _ (T101.setTop (mkF m 7 #[.val (.ref a1)] [(.ref a1)])) := fun t_ k_ => (gc p0 st101) t_ (by
  refine XS.ifNo X101.here hx rfl (hb hby d13_3) rfl ((if0 _ _).trans (feq c102).1) ?_
  refine XS.aloadN X101.here hx rfl (hb hby d13_6) rfl rfl ?_
  exact k_)
 obtain ⟨T104, X104, e104, st104⟩ := getF X101 hx hZ hown (host := "") (Or.inl (own_w hw 26 rfl)) Via.refl e101 F1 (g := (mkF m 7 #[.val (.ref a1)] [(.ref a1)])) rfl rfl (hb hby d13_7)
 have p105 : Go p.tables e below _ (T104.setTop (mkF m 18 #[.val (.ref a1)] [(.int (1 : Int32))])) := fun t_ k_ => (gc p103 st104) t_ (by
  refine XS.ifNo X104.here hx rfl (hb hby d13_10) rfl ((if0 _ _).trans (teq (by decide : ((0 : Int32) = (0 : Int32)))).2) ?_
  refine XS.iconst X104.here hx rfl (hb hby d13_13) ?_
  refine XS.goto X104.here hx rfl (pc0 := 14) (pc' := 18) rfl (hb hby d13_14) (by decide) (by decide) ?_
  exact k_)
 obtain ⟨fs, hr, hrun, hended, hW, hsame⟩ := X104.leave (v := some (.int (1 : Int32))) (fun h => by rw [Bd.returns] at h; cases h)
 refine ⟨_, _, p105 _ (retN X104 hx (t := .boolean) Bd.returns (by simp) (hb hby d13_18) hr), hrun, hended, _, _, rfl, ?_, ⟨_, rfl⟩, hW, hsame.mono (by decide) (by decide)⟩
 show Q13_0 Z a1 cs1 fm h0 n0 _ T104.heap _
 rw [e104]
 exact ⟨rfl, N0, rfl⟩
theorem d7_0 : decode jdk_42_method_152_code 0 = .ok (.getstatic 38, 3) := by decide +kernel
theorem d7_3 : decode jdk_42_method_152_code 3 = .ok (.ifCond .eq 10, 3) := by decide +kernel
theorem d7_6 : decode jdk_42_method_152_code 6 = .ok (.aload_n 0, 1) := by decide +kernel
theorem d7_7 : decode jdk_42_method_152_code 7 = .ok (.getfield 15, 3) := by decide +kernel
theorem d7_10 : decode jdk_42_method_152_code 10 = .ok (.goto 4, 3) := by decide +kernel
theorem d7_14 : decode jdk_42_method_152_code 14 = .ok (.ireturn, 1) := by decide +kernel
theorem pn7 : plainFor (⟨"java/lang/String", "coder", "()B"⟩ : MethodName) = true := plainFor_of_name (by first | (simp [plainName, overriddenIn]; done) | decide +kernel)
theorem ef_rm7_0 (m : MethodId) (a1 : Addr) (cs1 : Int32) (fm : Value) : entryFrame m #[(.ref a1)] 1 = mkF m 0 #[.val (.ref a1)] [] := by first | (simp [entryFrame, mkF, argsToLocals, Value.category]; done) | rfl
def Q7_0 (Z : State) (a1 : Addr) (cs1 : Int32) (fm : Value) (h0 : Heap) (n0 : Nat) (v : Option Value) (h : Heap) (L : List Loc) : Prop := v = some (.int (0 : Int32)) ∧ Fr n0 L ∧ (h = h0)
set_option maxRecDepth 65536 in
set_option maxHeartbeats 40000000 in
theorem rm7_0 (l : Launch) (Z : State) (a0 : Array Value) (hw : ∀ d ∈ tables_1, d.before a0 Z = true) (ws : List Jvm.Cond) (a1 : Addr) (cs1 : Int32) (fm : Value) (h0 : Heap) (n0 : Nat) (Z0 : n0 ≤ h0.size) (O1 : Old Z n0 h0) (G : own_G Z cs1 fm) (F1 : Fld Z h0 a1 "java/lang/String" "coder" "B" (.int (0 : Int32))) :
  MetFree l (⟨"java/lang/String", "coder", "()B"⟩ : MethodName) (head1 (Jvm.Cond.code (⟨"java/lang/String", "coder", "()B"⟩ : MethodName) jdk_42_method_152_code 1 (some .byte) :: ws) ({ frames := 0, cells := 0, slots := 0, locals := 0 } : Room)) (fun a U => a = #[(.ref a1)] ∧ Z.Warmed39 U.vm ∧ U.heap = h0) (fun _ _ _ _ _ => True) (fun _ U o U' => ∃ v L, o = .returned v ∧ Q7_0 Z a1 cs1 fm h0 n0 v U'.heap L ∧ FrameEnd U o U' L ({ frames := 0, cells := 0, slots := 0, locals := 0 } : Room).cells ({ frames := 0, cells := 0, slots := 0, locals := 0 } : Room).slots) := by
 refine MetFree.of_bodySF pn7 hisR ?_
 intro p e s m args below meth c s₁ Bd hml0 hP hK
 obtain ⟨rfl, hZ, hh⟩ := hP
 have hx := Bd.exec
 have hby := Bd.bytes
 have hml : c.maxLocals = 1 := hml0
 have hown : s.vm.findClass "java/lang/String" = some m.cls := findClass_of_methodNamed Bd.named
 have hnm := (name_of_methodNamed Bd.named Bd.method).1
 have X0 : Stand p l e ({ frames := 0, cells := 0, slots := 0, locals := 0 } : Room) s m #[(.ref a1)] below meth c s₁ [] 0 0 := Stand.of_body Bd
 have e0 : s₁.heap = h0 := by rw [← hh, Bd.state]; rfl
 have N0 := Fr.nil n0
 have p0 : Go p.tables e below (s₁.setTop (entryFrame m #[(.ref a1)] 1)) (s₁.setTop (mkF m 0 #[.val (.ref a1)] [])) := fun t_ k_ => castTop (ef_rm7_0 m a1 cs1 fm) k_
 obtain ⟨T101, X101, e101, st101⟩ := getS2 X0 hx hZ hown (host := "") (Or.inl (own_w hw 41 rfl)) Via.refl e0 (G.1.ext O1.2) (g := (mkF m 0 #[.val (.ref a1)] [])) rfl (hb hby d7_0)
 have c102 : ¬ (cs1 = (0 : Int32)) := G.2.1
 have p103 : Go p.tables e below _ (T101.setTop (mkF m 7 #[.val (.ref a1)] [(.ref a1)])) := fun t_ k_ => (gc p0 st101) t_ (by
  refine XS.ifNo X101.here hx rfl (hb hby d7_3) rfl ((if0 _ _).trans (feq c102).1) ?_
  refine XS.aloadN X101.here hx rfl (hb hby d7_6) rfl rfl ?_
  exact k_)
 obtain ⟨T104, X104, e104, st104⟩ := getF X101 hx hZ hown (host := "") (Or.inl (own_w hw 26 rfl)) Via.refl e101 F1 (g := (mkF m 7 #[.val (.ref a1)] [(.ref a1)])) rfl rfl (hb hby d7_7)
 have p105 : Go p.tables e below _ (T104.setTop (mkF m 14 #[.val (.ref a1)] [(.int (0 : Int32))])) := fun t_ k_ => (gc p103 st104) t_ (by
  refine XS.goto X104.here hx rfl (pc0 := 10) (pc' := 14) rfl (hb hby d7_10) (by decide) (by decide) ?_
  exact k_)
 obtain ⟨fs, hr, hrun, hended, hW, hsame⟩ := X104.leave (v := some (.int (0 : Int32))) (fun h => by rw [Bd.returns] at h; cases h)
 refine ⟨_, _, p105 _ (retN X104 hx (t := .byte) Bd.returns (by simp) (hb hby d7_14) hr), hrun, hended, _, _, rfl, ?_, ⟨_, rfl⟩, hW, hsame.mono (by decide) (by decide)⟩
 show Q7_0 Z a1 cs1 fm h0 n0 _ T104.heap _
 rw [e104]
 exact ⟨rfl, N0, rfl⟩
theorem d6_0 : decode jdk_42_method_54_code 0 = .ok (.aload_n 0, 1) := by decide +kernel
theorem d6_1 : decode jdk_42_method_54_code 1 = .ok (.getfield 9, 3) := by decide +kernel
theorem d6_4 : decode jdk_42_method_54_code 4 = .ok (.arraylength, 1) := by decide +kernel
theorem d6_5 : decode jdk_42_method_54_code 5 = .ok (.aload_n 0, 1) := by decide +kernel
theorem d6_6 : decode jdk_42_method_54_code 6 = .ok (.invokevirtual 335, 3) := by decide +kernel
theorem d6_9 : decode jdk_42_method_54_code 9 = .ok (.ishr, 1) := by decide +kernel
theorem d6_10 : decode jdk_42_method_54_code 10 = .ok (.ireturn, 1) := by decide +kernel
theorem pd0 : parseMethodDescriptor "()B" = some ⟨[], some .byte⟩ := by decide +kernel
theorem pn6 : plainFor (⟨"java/lang/String", "length", "()I"⟩ : MethodName) = true := plainFor_of_name (by first | (simp [plainName, overriddenIn]; done) | decide +kernel)
theorem ef_rm6_0 (m : MethodId) (a1 : Addr) (n1 : Int32) (bv : Addr) (kv : ClassId) (z : Int32) (vs : List Value) (cs1 : Int32) (fm : Value) : entryFrame m #[(.ref a1)] 1 = mkF m 0 #[.val (.ref a1)] [] := by first | (simp [entryFrame, mkF, argsToLocals, Value.category]; done) | rfl
def Q6_0 (Z : State) (a1 : Addr) (n1 : Int32) (bv : Addr) (kv : ClassId) (z : Int32) (vs : List Value) (cs1 : Int32) (fm : Value) (h0 : Heap) (n0 : Nat) (v : Option Value) (h : Heap) (L : List Loc) : Prop := v = some (.int n1) ∧ Fr n0 L ∧ (h = h0)
set_option maxRecDepth 65536 in
set_option maxHeartbeats 40000000 in
theorem rm6_0 (l : Launch) (Z : State) (a0 : Array Value) (hw : ∀ d ∈ tables_1, d.before a0 Z = true) (ws : List Jvm.Cond) (a1 : Addr) (n1 : Int32) (bv : Addr) (kv : ClassId) (z : Int32) (vs : List Value) (cs1 : Int32) (fm : Value) (h0 : Heap) (n0 : Nat) (Z0 : n0 ≤ h0.size) (O1 : Old Z n0 h0) (G : own_G Z cs1 fm) (E1 : Exa Z h0 a1 "java/lang/String") (F1 : Fld Z h0 a1 "java/lang/String" "coder" "B" (.int (0 : Int32))) (F2 : Fld Z h0 a1 "java/lang/String" "value" "[B" (.ref bv)) (V1 : Arv Z h0 bv kv .byte z vs (.int (0 : Int32))) (hz : (z >>> (0 : Int32)) = n1) :
  MetFree l (⟨"java/lang/String", "length", "()I"⟩ : MethodName) (head1 (Jvm.Cond.code (⟨"java/lang/String", "length", "()I"⟩ : MethodName) jdk_42_method_54_code 1 (some .int) :: ws) ({ frames := 1, cells := 0, slots := 0, locals := 13 } : Room)) (fun a U => a = #[(.ref a1)] ∧ Z.Warmed39 U.vm ∧ U.heap = h0) (fun _ _ _ _ _ => True) (fun _ U o U' => ∃ v L, o = .returned v ∧ Q6_0 Z a1 n1 bv kv z vs cs1 fm h0 n0 v U'.heap L ∧ FrameEnd U o U' L ({ frames := 1, cells := 0, slots := 0, locals := 13 } : Room).cells ({ frames := 1, cells := 0, slots := 0, locals := 13 } : Room).slots) := by
 refine MetFree.of_bodySF pn6 hisR ?_
 intro p e s m args below meth c s₁ Bd hml0 hP hK
 obtain ⟨rfl, hZ, hh⟩ := hP
 have hx := Bd.exec
 have hby := Bd.bytes
 have hml : c.maxLocals = 1 := hml0
 have hown : s.vm.findClass "java/lang/String" = some m.cls := findClass_of_methodNamed Bd.named
 have hnm := (name_of_methodNamed Bd.named Bd.method).1
 have X0 : Stand p l e ({ frames := 1, cells := 0, slots := 0, locals := 13 } : Room) s m #[(.ref a1)] below meth c s₁ [] 0 0 := Stand.of_body Bd
 have e0 : s₁.heap = h0 := by rw [← hh, Bd.state]; rfl
 have N0 := Fr.nil n0
 have p0 : Go p.tables e below (s₁.setTop (entryFrame m #[(.ref a1)] 1)) (s₁.setTop (mkF m 0 #[.val (.ref a1)] [])) := fun t_ k_ => castTop (ef_rm6_0 m a1 n1 bv kv z vs cs1 fm) k_
 have p101 : Go p.tables e below _ (s₁.setTop (mkF m 1 #[.val (.ref a1)] [(.ref a1)])) := fun t_ k_ => p0 t_ (by
  refine XS.aloadN X0.here hx rfl (hb hby d6_0) rfl rfl ?_
  exact k_)
 obtain ⟨T102, X102, e102, st102⟩ := getF X0 hx hZ hown (host := "") (Or.inl (own_w hw 25 rfl)) Via.refl e0 F2 (g := (mkF m 1 #[.val (.ref a1)] [(.ref a1)])) rfl rfl (hb hby d6_1)
 obtain ⟨cl103, Ar103, -, S103, Ng103, -, -⟩ := id V1
 have p104 : Go p.tables e below _ (T102.setTop (mkF m 6 #[.val (.ref a1)] [(.ref a1), (.int z)])) := fun t_ k_ => (gc p101 st102) t_ (by
  refine X102.arraylength hx (by rw [e102]; exact Ar103.1) (State.isArrayOf_alike hZ.alike Ar103.2.1) (g := (mkF m 4 #[.val (.ref a1)] [(.ref bv)])) rfl rfl (hb hby d6_4) _ ?_
  rw [len_of S103 Ng103]
  show Steps p.tables e below (T102.setTop (mkF m 5 #[.val (.ref a1)] [(.int z)])) _
  refine XS.aloadN X102.here hx rfl (hb hby d6_5) rfl rfl ?_
  exact k_)
 obtain ⟨cq105, kq105, q105a, q105b, q105c⟩ := isOf hZ e102 E1
 obtain ⟨_, _, ⟨T105, L105, k105, n105⟩, -, X105, ⟨Lc105, hQ105, l105, y105, z105⟩, st105⟩ := X102.virtualBack hx (y := (⟨"java/lang/String", "coder", "()B"⟩ : MethodName)) (z := (⟨"java/lang/String", "coder", "()B"⟩ : MethodName)) hown (mvT hZ (own_w hw 36 rfl)) (mvT hZ (own_w hw 37 rfl)) (notFace_of_selects (args := #[]) (mvT hZ (own_w hw 39 rfl))) (mvT hZ (own_w hw 39 rfl)) (mvT hZ (own_w hw 38 rfl)) (by decide) (backOf (W := 1) (rm7_0 l Z a0 hw [] a1 cs1 fm h0 n0 (Nat.le_trans Z0 (Keep.refl h0 []).1) O1 G F1) hZ (own_w hw 40 rfl) (own_w hw 8 rfl) (by decide) (by decide)) q105a q105c (g := (mkF m 6 #[.val (.ref a1)] [(.ref a1), (.int z)])) rfl (by rw [hml]; rfl) (Steps.refl _) (argsL := []) (rest := [(.int z)]) (lenOf pd0 rfl) rfl (by show 2 * 0 + _ ≤ _; exact Nat.le_of_eq rfl) (hb hby d6_6) (fun _ _ => ⟨rfl, e102, (by decide : 0 + 0 ≤ _), (by decide : 0 + 0 ≤ _)⟩)
 dsimp only [Pt.U, Pt.locs, Pt.cells, Pt.slots] at X105 l105 y105 z105 st105 hQ105
 subst l105 y105 z105
 obtain ⟨rfl, N105q, q105_hh⟩ := hQ105
 have N105 := Fr.app N0 N105q
 have p106 : Go p.tables e below _ (T105.setTop (mkF m 10 #[.val (.ref a1)] [(.int (z >>> (0 : Int32)))])) := fun t_ k_ => (gcT p104 st105) t_ (by
  refine XS.ishr X105.here hx rfl (hb hby d6_9) rfl ?_
  exact k_)
 obtain ⟨fs, hr, hrun, hended, hW, hsame⟩ := X105.leave (v := some (.int (z >>> (0 : Int32)))) (fun h => by rw [Bd.returns] at h; cases h)
 refine ⟨_, _, p106 _ (retI X105 hx Bd.returns (hb hby d6_10) hr), hrun, hended, _, _, rfl, ?_, ⟨_, rfl⟩, hW, hsame.mono (by decide) (by decide)⟩
 show Q6_0 Z a1 n1 bv kv z vs cs1 fm h0 n0 _ T105.heap _
 rw [q105_hh]
 exact ⟨congrArg (fun q => some (Value.int q)) hz, N105, rfl⟩
theorem d13_17 : decode jdk_42_method_154_code 17 = .ok (.iconst 0, 1) := by decide +kernel
theorem ef_rm13_1 (m : MethodId) (a1 : Addr) (cs1 : Int32) (fm : Value) : entryFrame m #[(.ref a1)] 1 = mkF m 0 #[.val (.ref a1)] [] := by first | (simp [entryFrame, mkF, argsToLocals, Value.category]; done) | rfl
def Q13_1 (Z : State) (a1 : Addr) (cs1 : Int32) (fm : Value) (h0 : Heap) (n0 : Nat) (v : Option Value) (h : Heap) (L : List Loc) : Prop := v = some (.int (0 : Int32)) ∧ Fr n0 L ∧ (h = h0)
set_option maxRecDepth 65536 in
set_option maxHeartbeats 40000000 in
theorem rm13_1 (l : Launch) (Z : State) (a0 : Array Value) (hw : ∀ d ∈ tables_1, d.before a0 Z = true) (ws : List Jvm.Cond) (a1 : Addr) (cs1 : Int32) (fm : Value) (h0 : Heap) (n0 : Nat) (Z0 : n0 ≤ h0.size) (O1 : Old Z n0 h0) (G : own_G Z cs1 fm) (F1 : Fld Z h0 a1 "java/lang/String" "coder" "B" (.int (1 : Int32))) :
  MetFree l (⟨"java/lang/String", "isLatin1", "()Z"⟩ : MethodName) (head1 (Jvm.Cond.code (⟨"java/lang/String", "isLatin1", "()Z"⟩ : MethodName) jdk_42_method_154_code 1 (some .boolean) :: ws) ({ frames := 0, cells := 0, slots := 0, locals := 0 } : Room)) (fun a U => a = #[(.ref a1)] ∧ Z.Warmed39 U.vm ∧ U.heap = h0) (fun _ _ _ _ _ => True) (fun _ U o U' => ∃ v L, o = .returned v ∧ Q13_1 Z a1 cs1 fm h0 n0 v U'.heap L ∧ FrameEnd U o U' L ({ frames := 0, cells := 0, slots := 0, locals := 0 } : Room).cells ({ frames := 0, cells := 0, slots := 0, locals := 0 } : Room).slots) := by
 refine MetFree.of_bodySF pn13 hisR ?_
 intro p e s m args below meth c s₁ Bd hml0 hP hK
 obtain ⟨rfl, hZ, hh⟩ := hP
 have hx := Bd.exec
 have hby := Bd.bytes
 have hml : c.maxLocals = 1 := hml0
 have hown : s.vm.findClass "java/lang/String" = some m.cls := findClass_of_methodNamed Bd.named
 have hnm := (name_of_methodNamed Bd.named Bd.method).1
 have X0 : Stand p l e ({ frames := 0, cells := 0, slots := 0, locals := 0 } : Room) s m #[(.ref a1)] below meth c s₁ [] 0 0 := Stand.of_body Bd
 have e0 : s₁.heap = h0 := by rw [← hh, Bd.state]; rfl
 have N0 := Fr.nil n0
 have p0 : Go p.tables e below (s₁.setTop (entryFrame m #[(.ref a1)] 1)) (s₁.setTop (mkF m 0 #[.val (.ref a1)] [])) := fun t_ k_ => castTop (ef_rm13_1 m a1 cs1 fm) k_
 obtain ⟨T101, X101, e101, st101⟩ := getS2 X0 hx hZ hown (host := "") (Or.inl (own_w hw 41 rfl)) Via.refl e0 (G.1.ext O1.2) (g := (mkF m 0 #[.val (.ref a1)] [])) rfl (hb hby d13_0)
 have c102 : ¬ (cs1 = (0 : Int32)) := G.2.1
 have p103 : Go p.tables e below _ (T101.setTop (mkF m 7 #[.val (.ref a1)] [(.ref a1)])) := fun t_ k_ => (gc p0 st101) t_ (by
  refine XS.ifNo X101.here hx rfl (hb hby d13_3) rfl ((if0 _ _).trans (feq c102).1) ?_
  refine XS.aloadN X101.here hx rfl (hb hby d13_6) rfl rfl ?_
  exact k_)
 obtain ⟨T104, X104, e104, st104⟩ := getF X101 hx hZ hown (host := "") (Or.inl (own_w hw 26 rfl)) Via.refl e101 F1 (g := (mkF m 7 #[.val (.ref a1)] [(.ref a1)])) rfl rfl (hb hby d13_7)
 have p105 : Go p.tables e below _ (T104.setTop (mkF m 18 #[.val (.ref a1)] [(.int (0 : Int32))])) := fun t_ k_ => (gc p103 st104) t_ (by
  refine XS.ifYes X104.here hx rfl (pc0 := 10) (pc' := 17) rfl (hb hby d13_10) rfl ((if0 _ _).trans (feq (by decide : ¬ ((1 : Int32) = (0 : Int32)))).2) (by decide) (by decide) ?_
  refine XS.iconst X104.here hx rfl (hb hby d13_17) ?_
  exact k_)
 obtain ⟨fs, hr, hrun, hended, hW, hsame⟩ := X104.leave (v := some (.int (0 : Int32))) (fun h => by rw [Bd.returns] at h; cases h)
 refine ⟨_, _, p105 _ (retN X104 hx (t := .boolean) Bd.returns (by simp) (hb hby d13_18) hr), hrun, hended, _, _, rfl, ?_, ⟨_, rfl⟩, hW, hsame.mono (by decide) (by decide)⟩
 show Q13_1 Z a1 cs1 fm h0 n0 _ T104.heap _
 rw [e104]
 exact ⟨rfl, N0, rfl⟩
theorem ef_rm7_1 (m : MethodId) (a1 : Addr) (cs1 : Int32) (fm : Value) : entryFrame m #[(.ref a1)] 1 = mkF m 0 #[.val (.ref a1)] [] := by first | (simp [entryFrame, mkF, argsToLocals, Value.category]; done) | rfl
def Q7_1 (Z : State) (a1 : Addr) (cs1 : Int32) (fm : Value) (h0 : Heap) (n0 : Nat) (v : Option Value) (h : Heap) (L : List Loc) : Prop := v = some (.int (1 : Int32)) ∧ Fr n0 L ∧ (h = h0)
set_option maxRecDepth 65536 in
set_option maxHeartbeats 40000000 in
theorem rm7_1 (l : Launch) (Z : State) (a0 : Array Value) (hw : ∀ d ∈ tables_1, d.before a0 Z = true) (ws : List Jvm.Cond) (a1 : Addr) (cs1 : Int32) (fm : Value) (h0 : Heap) (n0 : Nat) (Z0 : n0 ≤ h0.size) (O1 : Old Z n0 h0) (G : own_G Z cs1 fm) (F1 : Fld Z h0 a1 "java/lang/String" "coder" "B" (.int (1 : Int32))) :
  MetFree l (⟨"java/lang/String", "coder", "()B"⟩ : MethodName) (head1 (Jvm.Cond.code (⟨"java/lang/String", "coder", "()B"⟩ : MethodName) jdk_42_method_152_code 1 (some .byte) :: ws) ({ frames := 0, cells := 0, slots := 0, locals := 0 } : Room)) (fun a U => a = #[(.ref a1)] ∧ Z.Warmed39 U.vm ∧ U.heap = h0) (fun _ _ _ _ _ => True) (fun _ U o U' => ∃ v L, o = .returned v ∧ Q7_1 Z a1 cs1 fm h0 n0 v U'.heap L ∧ FrameEnd U o U' L ({ frames := 0, cells := 0, slots := 0, locals := 0 } : Room).cells ({ frames := 0, cells := 0, slots := 0, locals := 0 } : Room).slots) := by
 refine MetFree.of_bodySF pn7 hisR ?_
 intro p e s m args below meth c s₁ Bd hml0 hP hK
 obtain ⟨rfl, hZ, hh⟩ := hP
 have hx := Bd.exec
 have hby := Bd.bytes
 have hml : c.maxLocals = 1 := hml0
 have hown : s.vm.findClass "java/lang/String" = some m.cls := findClass_of_methodNamed Bd.named
 have hnm := (name_of_methodNamed Bd.named Bd.method).1
 have X0 : Stand p l e ({ frames := 0, cells := 0, slots := 0, locals := 0 } : Room) s m #[(.ref a1)] below meth c s₁ [] 0 0 := Stand.of_body Bd
 have e0 : s₁.heap = h0 := by rw [← hh, Bd.state]; rfl
 have N0 := Fr.nil n0
 have p0 : Go p.tables e below (s₁.setTop (entryFrame m #[(.ref a1)] 1)) (s₁.setTop (mkF m 0 #[.val (.ref a1)] [])) := fun t_ k_ => castTop (ef_rm7_1 m a1 cs1 fm) k_
 obtain ⟨T101, X101, e101, st101⟩ := getS2 X0 hx hZ hown (host := "") (Or.inl (own_w hw 41 rfl)) Via.refl e0 (G.1.ext O1.2) (g := (mkF m 0 #[.val (.ref a1)] [])) rfl (hb hby d7_0)
 have c102 : ¬ (cs1 = (0 : Int32)) := G.2.1
 have p103 : Go p.tables e below _ (T101.setTop (mkF m 7 #[.val (.ref a1)] [(.ref a1)])) := fun t_ k_ => (gc p0 st101) t_ (by
  refine XS.ifNo X101.here hx rfl (hb hby d7_3) rfl ((if0 _ _).trans (feq c102).1) ?_
  refine XS.aloadN X101.here hx rfl (hb hby d7_6) rfl rfl ?_
  exact k_)
 obtain ⟨T104, X104, e104, st104⟩ := getF X101 hx hZ hown (host := "") (Or.inl (own_w hw 26 rfl)) Via.refl e101 F1 (g := (mkF m 7 #[.val (.ref a1)] [(.ref a1)])) rfl rfl (hb hby d7_7)
 have p105 : Go p.tables e below _ (T104.setTop (mkF m 14 #[.val (.ref a1)] [(.int (1 : Int32))])) := fun t_ k_ => (gc p103 st104) t_ (by
  refine XS.goto X104.here hx rfl (pc0 := 10) (pc' := 14) rfl (hb hby d7_10) (by decide) (by decide) ?_
  exact k_)
 obtain ⟨fs, hr, hrun, hended, hW, hsame⟩ := X104.leave (v := some (.int (1 : Int32))) (fun h => by rw [Bd.returns] at h; cases h)
 refine ⟨_, _, p105 _ (retN X104 hx (t := .byte) Bd.returns (by simp) (hb hby d7_14) hr), hrun, hended, _, _, rfl, ?_, ⟨_, rfl⟩, hW, hsame.mono (by decide) (by decide)⟩
 show Q7_1 Z a1 cs1 fm h0 n0 _ T104.heap _
 rw [e104]
 exact ⟨rfl, N0, rfl⟩
theorem ef_rm6_1 (m : MethodId) (a1 : Addr) (n1 : Int32) (bv : Addr) (kv : ClassId) (z : Int32) (vs : List Value) (cs1 : Int32) (fm : Value) : entryFrame m #[(.ref a1)] 1 = mkF m 0 #[.val (.ref a1)] [] := by first | (simp [entryFrame, mkF, argsToLocals, Value.category]; done) | rfl
def Q6_1 (Z : State) (a1 : Addr) (n1 : Int32) (bv : Addr) (kv : ClassId) (z : Int32) (vs : List Value) (cs1 : Int32) (fm : Value) (h0 : Heap) (n0 : Nat) (v : Option Value) (h : Heap) (L : List Loc) : Prop := v = some (.int n1) ∧ Fr n0 L ∧ (h = h0)
set_option maxRecDepth 65536 in
set_option maxHeartbeats 40000000 in
theorem rm6_1 (l : Launch) (Z : State) (a0 : Array Value) (hw : ∀ d ∈ tables_1, d.before a0 Z = true) (ws : List Jvm.Cond) (a1 : Addr) (n1 : Int32) (bv : Addr) (kv : ClassId) (z : Int32) (vs : List Value) (cs1 : Int32) (fm : Value) (h0 : Heap) (n0 : Nat) (Z0 : n0 ≤ h0.size) (O1 : Old Z n0 h0) (G : own_G Z cs1 fm) (E1 : Exa Z h0 a1 "java/lang/String") (F1 : Fld Z h0 a1 "java/lang/String" "coder" "B" (.int (1 : Int32))) (F2 : Fld Z h0 a1 "java/lang/String" "value" "[B" (.ref bv)) (V1 : Arv Z h0 bv kv .byte z vs (.int (0 : Int32))) (hz : (z >>> (1 : Int32)) = n1) :
  MetFree l (⟨"java/lang/String", "length", "()I"⟩ : MethodName) (head1 (Jvm.Cond.code (⟨"java/lang/String", "length", "()I"⟩ : MethodName) jdk_42_method_54_code 1 (some .int) :: ws) ({ frames := 1, cells := 0, slots := 0, locals := 13 } : Room)) (fun a U => a = #[(.ref a1)] ∧ Z.Warmed39 U.vm ∧ U.heap = h0) (fun _ _ _ _ _ => True) (fun _ U o U' => ∃ v L, o = .returned v ∧ Q6_1 Z a1 n1 bv kv z vs cs1 fm h0 n0 v U'.heap L ∧ FrameEnd U o U' L ({ frames := 1, cells := 0, slots := 0, locals := 13 } : Room).cells ({ frames := 1, cells := 0, slots := 0, locals := 13 } : Room).slots) := by
 refine MetFree.of_bodySF pn6 hisR ?_
 intro p e s m args below meth c s₁ Bd hml0 hP hK
 obtain ⟨rfl, hZ, hh⟩ := hP
 have hx := Bd.exec
 have hby := Bd.bytes
 have hml : c.maxLocals = 1 := hml0
 have hown : s.vm.findClass "java/lang/String" = some m.cls := findClass_of_methodNamed Bd.named
 have hnm := (name_of_methodNamed Bd.named Bd.method).1
 have X0 : Stand p l e ({ frames := 1, cells := 0, slots := 0, locals := 13 } : Room) s m #[(.ref a1)] below meth c s₁ [] 0 0 := Stand.of_body Bd
 have e0 : s₁.heap = h0 := by rw [← hh, Bd.state]; rfl
 have N0 := Fr.nil n0
 have p0 : Go p.tables e below (s₁.setTop (entryFrame m #[(.ref a1)] 1)) (s₁.setTop (mkF m 0 #[.val (.ref a1)] [])) := fun t_ k_ => castTop (ef_rm6_1 m a1 n1 bv kv z vs cs1 fm) k_
 have p101 : Go p.tables e below _ (s₁.setTop (mkF m 1 #[.val (.ref a1)] [(.ref a1)])) := fun t_ k_ => p0 t_ (by
  refine XS.aloadN X0.here hx rfl (hb hby d6_0) rfl rfl ?_
  exact k_)
 obtain ⟨T102, X102, e102, st102⟩ := getF X0 hx hZ hown (host := "") (Or.inl (own_w hw 25 rfl)) Via.refl e0 F2 (g := (mkF m 1 #[.val (.ref a1)] [(.ref a1)])) rfl rfl (hb hby d6_1)
 obtain ⟨cl103, Ar103, -, S103, Ng103, -, -⟩ := id V1
 have p104 : Go p.tables e below _ (T102.setTop (mkF m 6 #[.val (.ref a1)] [(.ref a1), (.int z)])) := fun t_ k_ => (gc p101 st102) t_ (by
  refine X102.arraylength hx (by rw [e102]; exact Ar103.1) (State.isArrayOf_alike hZ.alike Ar103.2.1) (g := (mkF m 4 #[.val (.ref a1)] [(.ref bv)])) rfl rfl (hb hby d6_4) _ ?_
  rw [len_of S103 Ng103]
  show Steps p.tables e below (T102.setTop (mkF m 5 #[.val (.ref a1)] [(.int z)])) _
  refine XS.aloadN X102.here hx rfl (hb hby d6_5) rfl rfl ?_
  exact k_)
 obtain ⟨cq105, kq105, q105a, q105b, q105c⟩ := isOf hZ e102 E1
 obtain ⟨_, _, ⟨T105, L105, k105, n105⟩, -, X105, ⟨Lc105, hQ105, l105, y105, z105⟩, st105⟩ := X102.virtualBack hx (y := (⟨"java/lang/String", "coder", "()B"⟩ : MethodName)) (z := (⟨"java/lang/String", "coder", "()B"⟩ : MethodName)) hown (mvT hZ (own_w hw 36 rfl)) (mvT hZ (own_w hw 37 rfl)) (notFace_of_selects (args := #[]) (mvT hZ (own_w hw 39 rfl))) (mvT hZ (own_w hw 39 rfl)) (mvT hZ (own_w hw 38 rfl)) (by decide) (backOf (W := 1) (rm7_1 l Z a0 hw [] a1 cs1 fm h0 n0 (Nat.le_trans Z0 (Keep.refl h0 []).1) O1 G F1) hZ (own_w hw 40 rfl) (own_w hw 8 rfl) (by decide) (by decide)) q105a q105c (g := (mkF m 6 #[.val (.ref a1)] [(.ref a1), (.int z)])) rfl (by rw [hml]; rfl) (Steps.refl _) (argsL := []) (rest := [(.int z)]) (lenOf pd0 rfl) rfl (by show 2 * 0 + _ ≤ _; exact Nat.le_of_eq rfl) (hb hby d6_6) (fun _ _ => ⟨rfl, e102, (by decide : 0 + 0 ≤ _), (by decide : 0 + 0 ≤ _)⟩)
 dsimp only [Pt.U, Pt.locs, Pt.cells, Pt.slots] at X105 l105 y105 z105 st105 hQ105
 subst l105 y105 z105
 obtain ⟨rfl, N105q, q105_hh⟩ := hQ105
 have N105 := Fr.app N0 N105q
 have p106 : Go p.tables e below _ (T105.setTop (mkF m 10 #[.val (.ref a1)] [(.int (z >>> (1 : Int32)))])) := fun t_ k_ => (gcT p104 st105) t_ (by
  refine XS.ishr X105.here hx rfl (hb hby d6_9) rfl ?_
  exact k_)
 obtain ⟨fs, hr, hrun, hended, hW, hsame⟩ := X105.leave (v := some (.int (z >>> (1 : Int32)))) (fun h => by rw [Bd.returns] at h; cases h)
 refine ⟨_, _, p106 _ (retI X105 hx Bd.returns (hb hby d6_10) hr), hrun, hended, _, _, rfl, ?_, ⟨_, rfl⟩, hW, hsame.mono (by decide) (by decide)⟩
 show Q6_1 Z a1 n1 bv kv z vs cs1 fm h0 n0 _ T105.heap _
 rw [q105_hh]
 exact ⟨congrArg (fun q => some (Value.int q)) hz, N105, rfl⟩
theorem d16_0 : decode jdk_41_method_11_code 0 = .ok (.iload_n 0, 1) := by decide +kernel
theorem d16_1 : decode jdk_41_method_11_code 1 = .ok (.ifCond .lt 8, 3) := by decide +kernel
theorem d16_4 : decode jdk_41_method_11_code 4 = .ok (.iload_n 0, 1) := by decide +kernel
theorem d16_5 : decode jdk_41_method_11_code 5 = .ok (.iload_n 1, 1) := by decide +kernel
theorem d16_6 : decode jdk_41_method_11_code 6 = .ok (.if_icmp .lt 10, 3) := by decide +kernel
theorem d16_16 : decode jdk_41_method_11_code 16 = .ok (.iload_n 0, 1) := by decide +kernel
theorem d16_17 : decode jdk_41_method_11_code 17 = .ok (.ireturn, 1) := by decide +kernel
theorem pn16 : plainFor (⟨"jdk/internal/util/Preconditions", "checkIndex", "(IILjava/util/function/BiFunction;)I"⟩ : MethodName) = true := plainFor_of_name (by first | (simp [plainName, overriddenIn]; done) | decide +kernel)
theorem ef_rm16 (m : MethodId) (p1 : Int32) (p2 : Int32) (fm : Value) (hfm : fm.isRef = true) : entryFrame m #[(.int p1), (.int p2), fm] 3 = mkF m 0 #[.val (.int p1), .val (.int p2), .val fm] [] := by
 rcases ref_cases hfm with rfl | ⟨a_, rfl⟩ <;> rfl
def Q16 (Z : State) (p1 : Int32) (p2 : Int32) (fm : Value) (h0 : Heap) (n0 : Nat) (v : Option Value) (h : Heap) (L : List Loc) : Prop := v = some (.int p1) ∧ Fr n0 L ∧ (h = h0)
set_option maxRecDepth 65536 in
set_option maxHeartbeats 40000000 in
theorem rm16 (l : Launch) (Z : State) (a0 : Array Value) (hw : ∀ d ∈ tables_1, d.before a0 Z = true) (ws : List Jvm.Cond) (p1 : Int32) (p2 : Int32) (fm : Value) (h0 : Heap) (n0 : Nat) (Z0 : n0 ≤ h0.size) (hfm : fm.isRef = true) (h1 : ¬ (p1 < (0 : Int32))) (h2 : p1 < p2) :
  MetFree l (⟨"jdk/internal/util/Preconditions", "checkIndex", "(IILjava/util/function/BiFunction;)I"⟩ : MethodName) (head1 (Jvm.Cond.code (⟨"jdk/internal/util/Preconditions", "checkIndex", "(IILjava/util/function/BiFunction;)I"⟩ : MethodName) jdk_41_method_11_code 3 (some .int) :: ws) ({ frames := 0, cells := 0, slots := 0, locals := 0 } : Room)) (fun a U => a = #[(.int p1), (.int p2), fm] ∧ Z.Warmed39 U.vm ∧ U.heap = h0) (fun _ _ _ _ _ => True) (fun _ U o U' => ∃ v L, o = .returned v ∧ Q16 Z p1 p2 fm h0 n0 v U'.heap L ∧ FrameEnd U o U' L ({ frames := 0, cells := 0, slots := 0, locals := 0 } : Room).cells ({ frames := 0, cells := 0, slots := 0, locals := 0 } : Room).slots) := by
 refine MetFree.of_bodySF pn16 hisR ?_
 intro p e s m args below meth c s₁ Bd hml0 hP hK
 obtain ⟨rfl, hZ, hh⟩ := hP
 have hx := Bd.exec
 have hby := Bd.bytes
 have hml : c.maxLocals = 3 := hml0
 have hown : s.vm.findClass "jdk/internal/util/Preconditions" = some m.cls := findClass_of_methodNamed Bd.named
 have hnm := (name_of_methodNamed Bd.named Bd.method).1
 have X0 : Stand p l e ({ frames := 0, cells := 0, slots := 0, locals := 0 } : Room) s m #[(.int p1), (.int p2), fm] below meth c s₁ [] 0 0 := Stand.of_body Bd
 have e0 : s₁.heap = h0 := by rw [← hh, Bd.state]; rfl
 have N0 := Fr.nil n0
 have p0 : Go p.tables e below (s₁.setTop (entryFrame m #[(.int p1), (.int p2), fm] 3)) (s₁.setTop (mkF m 0 #[.val (.int p1), .val (.int p2), .val fm] [])) := fun t_ k_ => castTop (ef_rm16 m p1 p2 fm hfm) k_
 have p101 : Go p.tables e below _ (s₁.setTop (mkF m 1 #[.val (.int p1), .val (.int p2), .val fm] [(.int p1)])) := fun t_ k_ => p0 t_ (by
  refine XS.iloadN X0.here hx rfl (hb hby d16_0) rfl ?_
  exact k_)
 have c102 : ¬ (p1 < (0 : Int32)) := h1
 have p103 : Go p.tables e below _ (s₁.setTop (mkF m 6 #[.val (.int p1), .val (.int p2), .val fm] [(.int p2), (.int p1)])) := fun t_ k_ => p101 t_ (by
  refine XS.ifNo X0.here hx rfl (hb hby d16_1) rfl ((if0 _ _).trans (flt c102).1) ?_
  refine XS.iloadN X0.here hx rfl (hb hby d16_4) rfl ?_
  refine XS.iloadN X0.here hx rfl (hb hby d16_5) rfl ?_
  exact k_)
 have c104 : (p1 < p2) := h2
 have p105 : Go p.tables e below _ (s₁.setTop (mkF m 17 #[.val (.int p1), .val (.int p2), .val fm] [(.int p1)])) := fun t_ k_ => p103 t_ (by
  refine XS.icmpYes X0.here hx rfl (pc0 := 6) (pc' := 16) rfl (hb hby d16_6) rfl (tlt c104).1 (by decide) (by decide) ?_
  refine XS.iloadN X0.here hx rfl (hb hby d16_16) rfl ?_
  exact k_)
 obtain ⟨fs, hr, hrun, hended, hW, hsame⟩ := X0.leave (v := some (.int p1)) (fun h => by rw [Bd.returns] at h; cases h)
 refine ⟨_, _, p105 _ (retI X0 hx Bd.returns (hb hby d16_17) hr), hrun, hended, _, _, rfl, ?_, ⟨_, rfl⟩, hW, hsame.mono (by decide) (by decide)⟩
 show Q16 Z p1 p2 fm h0 n0 _ s₁.heap _
 rw [e0]
 exact ⟨rfl, N0, rfl⟩
theorem d15_0 : decode jdk_42_method_155_code 0 = .ok (.iload_n 0, 1) := by decide +kernel
theorem d15_1 : decode jdk_42_method_155_code 1 = .ok (.iload_n 1, 1) := by decide +kernel
theorem d15_2 : decode jdk_42_method_155_code 2 = .ok (.getstatic 1053, 3) := by decide +kernel
theorem d15_5 : decode jdk_42_method_155_code 5 = .ok (.invokestatic 1059, 3) := by decide +kernel
theorem d15_8 : decode jdk_42_method_155_code 8 = .ok (.pop, 1) := by decide +kernel
theorem d15_9 : decode jdk_42_method_155_code 9 = .ok (.return_, 1) := by decide +kernel
theorem pd1 : parseMethodDescriptor "(IILjava/util/function/BiFunction;)I" = some ⟨[.int, .int, (.object "java/util/function/BiFunction")], some .int⟩ := by decide +kernel
theorem pn15 : plainFor (⟨"java/lang/String", "checkIndex", "(II)V"⟩ : MethodName) = true := plainFor_of_name (by first | (simp [plainName, overriddenIn]; done) | decide +kernel)
theorem ef_rm15 (m : MethodId) (p1 : Int32) (p2 : Int32) (cs1 : Int32) (fm : Value) : entryFrame m #[(.int p1), (.int p2)] 2 = mkF m 0 #[.val (.int p1), .val (.int p2)] [] := by first | (simp [entryFrame, mkF, argsToLocals, Value.category]; done) | rfl
def Q15 (Z : State) (p1 : Int32) (p2 : Int32) (cs1 : Int32) (fm : Value) (h0 : Heap) (n0 : Nat) (v : Option Value) (h : Heap) (L : List Loc) : Prop := v = none ∧ Fr n0 L ∧ (h = h0)
set_option maxRecDepth 65536 in
set_option maxHeartbeats 40000000 in
theorem rm15 (l : Launch) (Z : State) (a0 : Array Value) (hw : ∀ d ∈ tables_1, d.before a0 Z = true) (ws : List Jvm.Cond) (p1 : Int32) (p2 : Int32) (cs1 : Int32) (fm : Value) (h0 : Heap) (n0 : Nat) (Z0 : n0 ≤ h0.size) (O1 : Old Z n0 h0) (G : own_G Z cs1 fm) (h1 : ¬ (p1 < (0 : Int32))) (h2 : p1 < p2) :
  MetFree l (⟨"java/lang/String", "checkIndex", "(II)V"⟩ : MethodName) (head1 (Jvm.Cond.code (⟨"java/lang/String", "checkIndex", "(II)V"⟩ : MethodName) jdk_42_method_155_code 2 none :: ws) ({ frames := 1, cells := 0, slots := 0, locals := 14 } : Room)) (fun a U => a = #[(.int p1), (.int p2)] ∧ Z.Warmed39 U.vm ∧ U.heap = h0) (fun _ _ _ _ _ => True) (fun _ U o U' => ∃ v L, o = .returned v ∧ Q15 Z p1 p2 cs1 fm h0 n0 v U'.heap L ∧ FrameEnd U o U' L ({ frames := 1, cells := 0, slots := 0, locals := 14 } : Room).cells ({ frames := 1, cells := 0, slots := 0, locals := 14 } : Room).slots) := by
 refine MetFree.of_bodySF pn15 hisR ?_
 intro p e s m args below meth c s₁ Bd hml0 hP hK
 obtain ⟨rfl, hZ, hh⟩ := hP
 have hx := Bd.exec
 have hby := Bd.bytes
 have hml : c.maxLocals = 2 := hml0
 have hown : s.vm.findClass "java/lang/String" = some m.cls := findClass_of_methodNamed Bd.named
 have hnm := (name_of_methodNamed Bd.named Bd.method).1
 have X0 : Stand p l e ({ frames := 1, cells := 0, slots := 0, locals := 14 } : Room) s m #[(.int p1), (.int p2)] below meth c s₁ [] 0 0 := Stand.of_body Bd
 have e0 : s₁.heap = h0 := by rw [← hh, Bd.state]; rfl
 have N0 := Fr.nil n0
 have p0 : Go p.tables e below (s₁.setTop (entryFrame m #[(.int p1), (.int p2)] 2)) (s₁.setTop (mkF m 0 #[.val (.int p1), .val (.int p2)] [])) := fun t_ k_ => castTop (ef_rm15 m p1 p2 cs1 fm) k_
 have p101 : Go p.tables e below _ (s₁.setTop (mkF m 2 #[.val (.int p1), .val (.int p2)] [(.int p2), (.int p1)])) := fun t_ k_ => p0 t_ (by
  refine XS.iloadN X0.here hx rfl (hb hby d15_0) rfl ?_
  refine XS.iloadN X0.here hx rfl (hb hby d15_1) rfl ?_
  exact k_)
 obtain ⟨T102, X102, e102, st102⟩ := getS2 X0 hx hZ hown (host := "") (Or.inl (own_w hw 72 rfl)) Via.refl e0 (G.2.2.1.ext O1.2) (g := (mkF m 2 #[.val (.int p1), .val (.int p2)] [(.int p2), (.int p1)])) rfl (hb hby d15_2)
 obtain ⟨_, _, ⟨T103, L103, k103, n103⟩, -, X103, ⟨Lc103, hQ103, l103, y103, z103⟩, st103⟩ := Jvm.LawKit.callS X102 hx (y := (⟨"jdk/internal/util/Preconditions", "checkIndex", "(IILjava/util/function/BiFunction;)I"⟩ : MethodName)) hown (mvT hZ (own_w hw 74 rfl)) (mvT hZ (own_w hw 75 rfl)) (mvT hZ (own_w hw 73 rfl)) (mvT hZ (own_w hw 76 rfl)) (by decide) (backOf (W := 0) (rm16 l Z a0 hw [] p1 p2 fm h0 n0 (Nat.le_trans Z0 (Keep.refl h0 []).1) G.2.2.2.1 h1 h2) hZ (own_w hw 76 rfl) (own_w hw 73 rfl) (by decide) (by decide)) (g := (mkF m 5 #[.val (.int p1), .val (.int p2)] [fm, (.int p2), (.int p1)])) rfl (by rw [hml]; rfl) (argsL := [(.int p1), (.int p2), fm]) (rest := []) (lenOf pd1 rfl) rfl (by show 2 * 0 + _ ≤ _; exact Nat.le_of_eq rfl) (hb hby d15_5) (fun _ _ => ⟨rfl, e102, (by decide : 0 + 0 ≤ _), (by decide : 0 + 0 ≤ _)⟩)
 dsimp only [Pt.U, Pt.locs, Pt.cells, Pt.slots] at X103 l103 y103 z103 st103 hQ103
 subst l103 y103 z103
 obtain ⟨rfl, N103q, q103_hh⟩ := hQ103
 have N103 := Fr.app N0 N103q
 have p104 : Go p.tables e below _ (T103.setTop (mkF m 9 #[.val (.int p1), .val (.int p2)] [])) := fun t_ k_ => (gc (gc p101 st102) st103) t_ (by
  refine XS.pop X103.here hx rfl (hb hby d15_8) rfl rfl ?_
  exact k_)
 obtain ⟨fs, hr, hrun, hended, hW, hsame⟩ := X103.leave (v := none) (fun _ => rfl)
 refine ⟨_, _, p104 _ (X103.returnOut hx Bd.returns (hb hby d15_9) hr), hrun, hended, _, _, rfl, ?_, ⟨_, rfl⟩, hW, hsame.mono (by decide) (by decide)⟩
 show Q15 Z p1 p2 cs1 fm h0 n0 _ T103.heap _
 rw [q103_hh]
 exact ⟨rfl, N103, rfl⟩
theorem d14_0 : decode jdk_43_method_2_code 0 = .ok (.iload_n 1, 1) := by decide +kernel
theorem d14_1 : decode jdk_43_method_2_code 1 = .ok (.aload_n 0, 1) := by decide +kernel
theorem d14_2 : decode jdk_43_method_2_code 2 = .ok (.arraylength, 1) := by decide +kernel
theorem d14_3 : decode jdk_43_method_2_code 3 = .ok (.invokestatic 9, 3) := by decide +kernel
theorem d14_6 : decode jdk_43_method_2_code 6 = .ok (.aload_n 0, 1) := by decide +kernel
theorem d14_7 : decode jdk_43_method_2_code 7 = .ok (.iload_n 1, 1) := by decide +kernel
theorem d14_8 : decode jdk_43_method_2_code 8 = .ok (.baload, 1) := by decide +kernel
theorem d14_9 : decode jdk_43_method_2_code 9 = .ok (.sipush 255, 3) := by decide +kernel
theorem d14_12 : decode jdk_43_method_2_code 12 = .ok (.iand, 1) := by decide +kernel
theorem d14_13 : decode jdk_43_method_2_code 13 = .ok (.i2c, 1) := by decide +kernel
theorem d14_14 : decode jdk_43_method_2_code 14 = .ok (.ireturn, 1) := by decide +kernel
theorem pd2 : parseMethodDescriptor "(II)V" = some ⟨[.int, .int], none⟩ := by decide +kernel
theorem pn14 : plainFor (⟨"java/lang/StringLatin1", "charAt", "([BI)C"⟩ : MethodName) = true := plainFor_of_name (by first | (simp [plainName, overriddenIn]; done) | decide +kernel)
theorem ef_rm14 (m : MethodId) (a1 : Addr) (p2 : Int32) (kv : ClassId) (z : Int32) (vs : List Value) (b : Int32) (cc : Int32) (cs1 : Int32) (fm : Value) : entryFrame m #[(.ref a1), (.int p2)] 2 = mkF m 0 #[.val (.ref a1), .val (.int p2)] [] := by first | (simp [entryFrame, mkF, argsToLocals, Value.category]; done) | rfl
def Q14 (Z : State) (a1 : Addr) (p2 : Int32) (kv : ClassId) (z : Int32) (vs : List Value) (b : Int32) (cc : Int32) (cs1 : Int32) (fm : Value) (h0 : Heap) (n0 : Nat) (v : Option Value) (h : Heap) (L : List Loc) : Prop := v = some (.int cc) ∧ Fr n0 L ∧ (h = h0)
set_option maxRecDepth 65536 in
set_option maxHeartbeats 40000000 in
theorem rm14 (l : Launch) (Z : State) (a0 : Array Value) (hw : ∀ d ∈ tables_1, d.before a0 Z = true) (ws : List Jvm.Cond) (a1 : Addr) (p2 : Int32) (kv : ClassId) (z : Int32) (vs : List Value) (b : Int32) (cc : Int32) (cs1 : Int32) (fm : Value) (h0 : Heap) (n0 : Nat) (Z0 : n0 ≤ h0.size) (O1 : Old Z n0 h0) (G : own_G Z cs1 fm) (V1 : Arv Z h0 a1 kv .byte z vs (.int (0 : Int32))) (h1 : ¬ (p2 < (0 : Int32))) (h2 : p2 < z) (hg : vs.getD (p2).toNatClampNeg (.int (0 : Int32)) = .int b) (hc : own_c8 b = cc) :
  MetFree l (⟨"java/lang/StringLatin1", "charAt", "([BI)C"⟩ : MethodName) (head1 (Jvm.Cond.code (⟨"java/lang/StringLatin1", "charAt", "([BI)C"⟩ : MethodName) jdk_43_method_2_code 2 (some .char) :: ws) ({ frames := 2, cells := 0, slots := 0, locals := 27 } : Room)) (fun a U => a = #[(.ref a1), (.int p2)] ∧ Z.Warmed39 U.vm ∧ U.heap = h0) (fun _ _ _ _ _ => True) (fun _ U o U' => ∃ v L, o = .returned v ∧ Q14 Z a1 p2 kv z vs b cc cs1 fm h0 n0 v U'.heap L ∧ FrameEnd U o U' L ({ frames := 2, cells := 0, slots := 0, locals := 27 } : Room).cells ({ frames := 2, cells := 0, slots := 0, locals := 27 } : Room).slots) := by
 refine MetFree.of_bodySF pn14 hisR ?_
 intro p e s m args below meth c s₁ Bd hml0 hP hK
 obtain ⟨rfl, hZ, hh⟩ := hP
 have hx := Bd.exec
 have hby := Bd.bytes
 have hml : c.maxLocals = 2 := hml0
 have hown : s.vm.findClass "java/lang/StringLatin1" = some m.cls := findClass_of_methodNamed Bd.named
 have hnm := (name_of_methodNamed Bd.named Bd.method).1
 have X0 : Stand p l e ({ frames := 2, cells := 0, slots := 0, locals := 27 } : Room) s m #[(.ref a1), (.int p2)] below meth c s₁ [] 0 0 := Stand.of_body Bd
 have e0 : s₁.heap = h0 := by rw [← hh, Bd.state]; rfl
 have N0 := Fr.nil n0
 have p0 : Go p.tables e below (s₁.setTop (entryFrame m #[(.ref a1), (.int p2)] 2)) (s₁.setTop (mkF m 0 #[.val (.ref a1), .val (.int p2)] [])) := fun t_ k_ => castTop (ef_rm14 m a1 p2 kv z vs b cc cs1 fm) k_
 have p101 : Go p.tables e below _ (s₁.setTop (mkF m 2 #[.val (.ref a1), .val (.int p2)] [(.ref a1), (.int p2)])) := fun t_ k_ => p0 t_ (by
  refine XS.iloadN X0.here hx rfl (hb hby d14_0) rfl ?_
  refine XS.aloadN X0.here hx rfl (hb hby d14_1) rfl rfl ?_
  exact k_)
 obtain ⟨cl102, Ar102, -, S102, Ng102, -, -⟩ := id V1
 have p103 : Go p.tables e below _ (s₁.setTop (mkF m 3 #[.val (.ref a1), .val (.int p2)] [(.int z), (.int p2)])) := fun t_ k_ => p101 t_ (by
  refine X0.arraylength hx (by rw [e0]; exact Ar102.1) (State.isArrayOf_alike hZ.alike Ar102.2.1) (g := (mkF m 2 #[.val (.ref a1), .val (.int p2)] [(.ref a1), (.int p2)])) rfl rfl (hb hby d14_2) _ ?_
  rw [len_of S102 Ng102]
  show Steps p.tables e below (s₁.setTop (mkF m 3 #[.val (.ref a1), .val (.int p2)] [(.int z), (.int p2)])) _
  exact k_)
 obtain ⟨_, _, ⟨T104, L104, k104, n104⟩, -, X104, ⟨Lc104, hQ104, l104, y104, z104⟩, st104⟩ := Jvm.LawKit.callS X0 hx (y := (⟨"java/lang/String", "checkIndex", "(II)V"⟩ : MethodName)) hown (mvT hZ (own_w hw 69 rfl)) (mvT hZ (own_w hw 70 rfl)) (mvT hZ (own_w hw 8 rfl)) (mvT hZ (own_w hw 71 rfl)) (by decide) (backOf (W := 0) (rm15 l Z a0 hw [] p2 z cs1 fm h0 n0 (Nat.le_trans Z0 (Keep.refl h0 []).1) O1 G h1 h2) hZ (own_w hw 71 rfl) (own_w hw 8 rfl) (by decide) (by decide)) (g := (mkF m 3 #[.val (.ref a1), .val (.int p2)] [(.int z), (.int p2)])) rfl (by rw [hml]; rfl) (argsL := [(.int p2), (.int z)]) (rest := []) (lenOf pd2 rfl) rfl (by show 2 * 0 + _ ≤ _; exact Nat.le_of_eq rfl) (hb hby d14_3) (fun _ _ => ⟨rfl, e0, (by decide : 0 + 0 ≤ _), (by decide : 0 + 0 ≤ _)⟩)
 dsimp only [Pt.U, Pt.locs, Pt.cells, Pt.slots] at X104 l104 y104 z104 st104 hQ104
 subst l104 y104 z104
 obtain ⟨rfl, N104q, q104_hh⟩ := hQ104
 have N104 := Fr.app N0 N104q
 have p105 : Go p.tables e below _ (T104.setTop (mkF m 8 #[.val (.ref a1), .val (.int p2)] [(.int p2), (.ref a1)])) := fun t_ k_ => (gc p103 st104) t_ (by
  refine XS.aloadN X104.here hx rfl (hb hby d14_6) rfl rfl ?_
  refine XS.iloadN X104.here hx rfl (hb hby d14_7) rfl ?_
  exact k_)
 obtain ⟨cl106, Ar106, q106, S106, Ng106, H106, G106⟩ := id V1
 have hin106 := inb_of S106 (j := p2) ⟨h1, h2⟩
 have hat106 := H106.at (v := (.int b)) hin106 hg
 have p107 : Go p.tables e below _ (T104.setTop (mkF m 14 #[.val (.ref a1), .val (.int p2)] [(.int ((b &&& (255 : Int32)).toUInt32.toUInt16.toUInt32.toInt32))])) := fun t_ k_ => p105 t_ (by
  refine X104.baloadBytes hx (j := p2) (v := (.int b)) (by rw [q104_hh]; exact Ar106.1) (State.isArrayOf_alike hZ.alike Ar106.2.1) Ar106.2.2 hin106 hat106 (g := (mkF m 8 #[.val (.ref a1), .val (.int p2)] [(.int p2), (.ref a1)])) rfl rfl (hb hby d14_8) _ ?_
  refine XS.sipush X104.here hx rfl (hb hby d14_9) ?_
  refine XS.iand X104.here hx rfl (hb hby d14_12) rfl ?_
  refine XS.i2c X104.here hx rfl (hb hby d14_13) rfl ?_
  exact k_)
 obtain ⟨fs, hr, hrun, hended, hW, hsame⟩ := X104.leave (v := some (.int (nar .char ((b &&& (255 : Int32)).toUInt32.toUInt16.toUInt32.toInt32)))) (fun h => by rw [Bd.returns] at h; cases h)
 refine ⟨_, _, p107 _ (retN X104 hx (t := .char) Bd.returns (by simp) (hb hby d14_14) hr), hrun, hended, _, _, rfl, ?_, ⟨_, rfl⟩, hW, hsame.mono (by decide) (by decide)⟩
 show Q14 Z a1 p2 kv z vs b cc cs1 fm h0 n0 _ T104.heap _
 rw [q104_hh]
 exact ⟨congrArg (fun q => some (Value.int q)) hc, N104, rfl⟩
theorem d12_0 : decode jdk_42_method_56_code 0 = .ok (.aload_n 0, 1) := by decide +kernel
theorem d12_1 : decode jdk_42_method_56_code 1 = .ok (.invokevirtual 492, 3) := by decide +kernel
theorem d12_4 : decode jdk_42_method_56_code 4 = .ok (.ifCond .eq 12, 3) := by decide +kernel
theorem d12_7 : decode jdk_42_method_56_code 7 = .ok (.aload_n 0, 1) := by decide +kernel
theorem d12_8 : decode jdk_42_method_56_code 8 = .ok (.getfield 9, 3) := by decide +kernel
theorem d12_11 : decode jdk_42_method_56_code 11 = .ok (.iload_n 1, 1) := by decide +kernel
theorem d12_12 : decode jdk_42_method_56_code 12 = .ok (.invokestatic 495, 3) := by decide +kernel
theorem d12_15 : decode jdk_42_method_56_code 15 = .ok (.ireturn, 1) := by decide +kernel
theorem pd3 : parseMethodDescriptor "()Z" = some ⟨[], some .boolean⟩ := by decide +kernel
theorem pd4 : parseMethodDescriptor "([BI)C" = some ⟨[(.array .byte), .int], some .char⟩ := by decide +kernel
theorem pn12 : plainFor (⟨"java/lang/String", "charAt", "(I)C"⟩ : MethodName) = true := plainFor_of_name (by first | (simp [plainName, overriddenIn]; done) | decide +kernel)
theorem ef_rm12_0 (m : MethodId) (a1 : Addr) (p2 : Int32) (bv : Addr) (kv : ClassId) (z : Int32) (vs : List Value) (b : Int32) (cc : Int32) (cs1 : Int32) (fm : Value) : entryFrame m #[(.ref a1), (.int p2)] 2 = mkF m 0 #[.val (.ref a1), .val (.int p2)] [] := by first | (simp [entryFrame, mkF, argsToLocals, Value.category]; done) | rfl
def Q12_0 (Z : State) (a1 : Addr) (p2 : Int32) (bv : Addr) (kv : ClassId) (z : Int32) (vs : List Value) (b : Int32) (cc : Int32) (cs1 : Int32) (fm : Value) (h0 : Heap) (n0 : Nat) (v : Option Value) (h : Heap) (L : List Loc) : Prop := v = some (.int cc) ∧ Fr n0 L ∧ (h = h0)
set_option maxRecDepth 65536 in
set_option maxHeartbeats 40000000 in
theorem rm12_0 (l : Launch) (Z : State) (a0 : Array Value) (hw : ∀ d ∈ tables_1, d.before a0 Z = true) (ws : List Jvm.Cond) (a1 : Addr) (p2 : Int32) (bv : Addr) (kv : ClassId) (z : Int32) (vs : List Value) (b : Int32) (cc : Int32) (cs1 : Int32) (fm : Value) (h0 : Heap) (n0 : Nat) (Z0 : n0 ≤ h0.size) (O1 : Old Z n0 h0) (G : own_G Z cs1 fm) (E1 : Exa Z h0 a1 "java/lang/String") (F1 : Fld Z h0 a1 "java/lang/String" "coder" "B" (.int (0 : Int32))) (F2 : Fld Z h0 a1 "java/lang/String" "value" "[B" (.ref bv)) (V1 : Arv Z h0 bv kv .byte z vs (.int (0 : Int32))) (h1 : ¬ (p2 < (0 : Int32))) (h2 : p2 < z) (hg : vs.getD (p2).toNatClampNeg (.int (0 : Int32)) = .int b) (hc : own_c8 b = cc) :
  MetFree l (⟨"java/lang/String", "charAt", "(I)C"⟩ : MethodName) (head1 (Jvm.Cond.code (⟨"java/lang/String", "charAt", "(I)C"⟩ : MethodName) jdk_42_method_56_code 2 (some .char) :: ws) ({ frames := 3, cells := 0, slots := 0, locals := 40 } : Room)) (fun a U => a = #[(.ref a1), (.int p2)] ∧ Z.Warmed39 U.vm ∧ U.heap = h0) (fun _ _ _ _ _ => True) (fun _ U o U' => ∃ v L, o = .returned v ∧ Q12_0 Z a1 p2 bv kv z vs b cc cs1 fm h0 n0 v U'.heap L ∧ FrameEnd U o U' L ({ frames := 3, cells := 0, slots := 0, locals := 40 } : Room).cells ({ frames := 3, cells := 0, slots := 0, locals := 40 } : Room).slots) := by
 refine MetFree.of_bodySF pn12 hisR ?_
 intro p e s m args below meth c s₁ Bd hml0 hP hK
 obtain ⟨rfl, hZ, hh⟩ := hP
 have hx := Bd.exec
 have hby := Bd.bytes
 have hml : c.maxLocals = 2 := hml0
 have hown : s.vm.findClass "java/lang/String" = some m.cls := findClass_of_methodNamed Bd.named
 have hnm := (name_of_methodNamed Bd.named Bd.method).1
 have X0 : Stand p l e ({ frames := 3, cells := 0, slots := 0, locals := 40 } : Room) s m #[(.ref a1), (.int p2)] below meth c s₁ [] 0 0 := Stand.of_body Bd
 have e0 : s₁.heap = h0 := by rw [← hh, Bd.state]; rfl
 have N0 := Fr.nil n0
 have p0 : Go p.tables e below (s₁.setTop (entryFrame m #[(.ref a1), (.int p2)] 2)) (s₁.setTop (mkF m 0 #[.val (.ref a1), .val (.int p2)] [])) := fun t_ k_ => castTop (ef_rm12_0 m a1 p2 bv kv z vs b cc cs1 fm) k_
 have p101 : Go p.tables e below _ (s₁.setTop (mkF m 1 #[.val (.ref a1), .val (.int p2)] [(.ref a1)])) := fun t_ k_ => p0 t_ (by
  refine XS.aloadN X0.here hx rfl (hb hby d12_0) rfl rfl ?_
  exact k_)
 obtain ⟨cq102, kq102, q102a, q102b, q102c⟩ := isOf hZ e0 E1
 obtain ⟨_, _, ⟨T102, L102, k102, n102⟩, -, X102, ⟨Lc102, hQ102, l102, y102, z102⟩, st102⟩ := X0.virtualBack hx (y := (⟨"java/lang/String", "isLatin1", "()Z"⟩ : MethodName)) (z := (⟨"java/lang/String", "isLatin1", "()Z"⟩ : MethodName)) hown (mvT hZ (own_w hw 60 rfl)) (mvT hZ (own_w hw 61 rfl)) (notFace_of_selects (args := #[]) (mvT hZ (own_w hw 63 rfl))) (mvT hZ (own_w hw 63 rfl)) (mvT hZ (own_w hw 62 rfl)) (by decide) (backOf (W := 0) (rm13_0 l Z a0 hw [] a1 cs1 fm h0 n0 (Nat.le_trans Z0 (Keep.refl h0 []).1) O1 G F1) hZ (own_w hw 64 rfl) (own_w hw 8 rfl) (by decide) (by decide)) q102a q102c (g := (mkF m 1 #[.val (.ref a1), .val (.int p2)] [(.ref a1)])) rfl (by rw [hml]; rfl) (Steps.refl _) (argsL := []) (rest := []) (lenOf pd3 rfl) rfl (by show 2 * 0 + _ ≤ _; exact Nat.le_of_eq rfl) (hb hby d12_1) (fun _ _ => ⟨rfl, e0, (by decide : 0 + 0 ≤ _), (by decide : 0 + 0 ≤ _)⟩)
 dsimp only [Pt.U, Pt.locs, Pt.cells, Pt.slots] at X102 l102 y102 z102 st102 hQ102
 subst l102 y102 z102
 obtain ⟨rfl, N102q, q102_hh⟩ := hQ102
 have N102 := Fr.app N0 N102q
 have p103 : Go p.tables e below _ (T102.setTop (mkF m 8 #[.val (.ref a1), .val (.int p2)] [(.ref a1)])) := fun t_ k_ => (gcT p101 st102) t_ (by
  refine XS.ifNo X102.here hx rfl (hb hby d12_4) rfl ((if0 _ _).trans (feq (by decide : ¬ ((1 : Int32) = (0 : Int32)))).1) ?_
  refine XS.aloadN X102.here hx rfl (hb hby d12_7) rfl rfl ?_
  exact k_)
 obtain ⟨T104, X104, e104, st104⟩ := getF X102 hx hZ hown (host := "") (Or.inl (own_w hw 25 rfl)) Via.refl q102_hh F2 (g := (mkF m 8 #[.val (.ref a1), .val (.int p2)] [(.ref a1)])) rfl rfl (hb hby d12_8)
 have p105 : Go p.tables e below _ (T104.setTop (mkF m 12 #[.val (.ref a1), .val (.int p2)] [(.int p2), (.ref bv)])) := fun t_ k_ => (gc p103 st104) t_ (by
  refine XS.iloadN X104.here hx rfl (hb hby d12_11) rfl ?_
  exact k_)
 obtain ⟨_, _, ⟨T106, L106, k106, n106⟩, -, X106, ⟨Lc106, hQ106, l106, y106, z106⟩, st106⟩ := Jvm.LawKit.callS X104 hx (y := (⟨"java/lang/StringLatin1", "charAt", "([BI)C"⟩ : MethodName)) hown (mvT hZ (own_w hw 65 rfl)) (mvT hZ (own_w hw 66 rfl)) (mvT hZ (own_w hw 67 rfl)) (mvT hZ (own_w hw 68 rfl)) (by decide) (backOf (W := 0) (rm14 l Z a0 hw [] bv p2 kv z vs b cc cs1 fm h0 n0 (Nat.le_trans Z0 (Keep.refl h0 []).1) O1 G V1 h1 h2 hg hc) hZ (own_w hw 68 rfl) (own_w hw 67 rfl) (by decide) (by decide)) (g := (mkF m 12 #[.val (.ref a1), .val (.int p2)] [(.int p2), (.ref bv)])) rfl (by rw [hml]; rfl) (argsL := [(.ref bv), (.int p2)]) (rest := []) (lenOf pd4 rfl) rfl (by show 2 * 0 + _ ≤ _; exact Nat.le_of_eq rfl) (hb hby d12_12) (fun _ _ => ⟨rfl, e104, (by decide : 0 + 0 ≤ _), (by decide : 0 + 0 ≤ _)⟩)
 dsimp only [Pt.U, Pt.locs, Pt.cells, Pt.slots] at X106 l106 y106 z106 st106 hQ106
 subst l106 y106 z106
 obtain ⟨rfl, N106q, q106_hh⟩ := hQ106
 have N106 := Fr.app N102 N106q
 obtain ⟨fs, hr, hrun, hended, hW, hsame⟩ := X106.leave (v := some (.int (nar .char cc))) (fun h => by rw [Bd.returns] at h; cases h)
 refine ⟨_, _, (gc p105 st106) _ (retN X106 hx (t := .char) Bd.returns (by simp) (hb hby d12_15) hr), hrun, hended, _, _, rfl, ?_, ⟨_, rfl⟩, hW, hsame.mono (by decide) (by decide)⟩
 show Q12_0 Z a1 p2 bv kv z vs b cc cs1 fm h0 n0 _ T106.heap _
 rw [q106_hh]
 exact ⟨by rw [← hc]; exact congrArg (fun q => some (Value.int q)) (own_nar2 _), N106, rfl⟩
theorem d25_0 : decode jdk_52_method_6_code 0 = .ok (.aload_n 0, 1) := by decide +kernel
theorem d25_1 : decode jdk_52_method_6_code 1 = .ok (.arraylength, 1) := by decide +kernel
theorem d25_2 : decode jdk_52_method_6_code 2 = .ok (.iconst 1, 1) := by decide +kernel
theorem d25_3 : decode jdk_52_method_6_code 3 = .ok (.ishr, 1) := by decide +kernel
theorem d25_4 : decode jdk_52_method_6_code 4 = .ok (.ireturn, 1) := by decide +kernel
theorem pn25 : plainFor (⟨"java/lang/StringUTF16", "length", "([B)I"⟩ : MethodName) = true := plainFor_of_name (by first | (simp [plainName, overriddenIn]; done) | decide +kernel)
theorem ef_rm25 (m : MethodId) (a1 : Addr) (kv : ClassId) (z : Int32) (vs : List Value) : entryFrame m #[(.ref a1)] 1 = mkF m 0 #[.val (.ref a1)] [] := by first | (simp [entryFrame, mkF, argsToLocals, Value.category]; done) | rfl
def Q25 (Z : State) (a1 : Addr) (kv : ClassId) (z : Int32) (vs : List Value) (h0 : Heap) (n0 : Nat) (v : Option Value) (h : Heap) (L : List Loc) : Prop := v = some (.int (z >>> (1 : Int32))) ∧ Fr n0 L ∧ (h = h0)
set_option maxRecDepth 65536 in
set_option maxHeartbeats 40000000 in
theorem rm25 (l : Launch) (Z : State) (a0 : Array Value) (hw : ∀ d ∈ tables_1, d.before a0 Z = true) (ws : List Jvm.Cond) (a1 : Addr) (kv : ClassId) (z : Int32) (vs : List Value) (h0 : Heap) (n0 : Nat) (Z0 : n0 ≤ h0.size) (V1 : Arv Z h0 a1 kv .byte z vs (.int (0 : Int32))) :
  MetFree l (⟨"java/lang/StringUTF16", "length", "([B)I"⟩ : MethodName) (head1 (Jvm.Cond.code (⟨"java/lang/StringUTF16", "length", "([B)I"⟩ : MethodName) jdk_52_method_6_code 1 (some .int) :: ws) ({ frames := 0, cells := 0, slots := 0, locals := 0 } : Room)) (fun a U => a = #[(.ref a1)] ∧ Z.Warmed39 U.vm ∧ U.heap = h0) (fun _ _ _ _ _ => True) (fun _ U o U' => ∃ v L, o = .returned v ∧ Q25 Z a1 kv z vs h0 n0 v U'.heap L ∧ FrameEnd U o U' L ({ frames := 0, cells := 0, slots := 0, locals := 0 } : Room).cells ({ frames := 0, cells := 0, slots := 0, locals := 0 } : Room).slots) := by
 refine MetFree.of_bodySF pn25 hisR ?_
 intro p e s m args below meth c s₁ Bd hml0 hP hK
 obtain ⟨rfl, hZ, hh⟩ := hP
 have hx := Bd.exec
 have hby := Bd.bytes
 have hml : c.maxLocals = 1 := hml0
 have hown : s.vm.findClass "java/lang/StringUTF16" = some m.cls := findClass_of_methodNamed Bd.named
 have hnm := (name_of_methodNamed Bd.named Bd.method).1
 have X0 : Stand p l e ({ frames := 0, cells := 0, slots := 0, locals := 0 } : Room) s m #[(.ref a1)] below meth c s₁ [] 0 0 := Stand.of_body Bd
 have e0 : s₁.heap = h0 := by rw [← hh, Bd.state]; rfl
 have N0 := Fr.nil n0
 have p0 : Go p.tables e below (s₁.setTop (entryFrame m #[(.ref a1)] 1)) (s₁.setTop (mkF m 0 #[.val (.ref a1)] [])) := fun t_ k_ => castTop (ef_rm25 m a1 kv z vs) k_
 have p101 : Go p.tables e below _ (s₁.setTop (mkF m 1 #[.val (.ref a1)] [(.ref a1)])) := fun t_ k_ => p0 t_ (by
  refine XS.aloadN X0.here hx rfl (hb hby d25_0) rfl rfl ?_
  exact k_)
 obtain ⟨cl102, Ar102, -, S102, Ng102, -, -⟩ := id V1
 have p103 : Go p.tables e below _ (s₁.setTop (mkF m 4 #[.val (.ref a1)] [(.int (z >>> (1 : Int32)))])) := fun t_ k_ => p101 t_ (by
  refine X0.arraylength hx (by rw [e0]; exact Ar102.1) (State.isArrayOf_alike hZ.alike Ar102.2.1) (g := (mkF m 1 #[.val (.ref a1)] [(.ref a1)])) rfl rfl (hb hby d25_1) _ ?_
  rw [len_of S102 Ng102]
  show Steps p.tables e below (s₁.setTop (mkF m 2 #[.val (.ref a1)] [(.int z)])) _
  refine XS.iconst X0.here hx rfl (hb hby d25_2) ?_
  refine XS.ishr X0.here hx rfl (hb hby d25_3) rfl ?_
  exact k_)
 obtain ⟨fs, hr, hrun, hended, hW, hsame⟩ := X0.leave (v := some (.int (z >>> (1 : Int32)))) (fun h => by rw [Bd.returns] at h; cases h)
 refine ⟨_, _, p103 _ (retI X0 hx Bd.returns (hb hby d25_4) hr), hrun, hended, _, _, rfl, ?_, ⟨_, rfl⟩, hW, hsame.mono (by decide) (by decide)⟩
 show Q25 Z a1 kv z vs h0 n0 _ s₁.heap _
 rw [e0]
 exact ⟨rfl, N0, rfl⟩
theorem d22_0 : decode jdk_52_method_5_code 0 = .ok (.getstatic 44, 3) := by decide +kernel
theorem d22_3 : decode jdk_52_method_5_code 3 = .ok (.ifCond .ne 25, 3) := by decide +kernel
theorem d22_28 : decode jdk_52_method_5_code 28 = .ok (.iload_n 1, 1) := by decide +kernel
theorem d22_29 : decode jdk_52_method_5_code 29 = .ok (.iconst 1, 1) := by decide +kernel
theorem d22_30 : decode jdk_52_method_5_code 30 = .ok (.ishl, 1) := by decide +kernel
theorem d22_31 : decode jdk_52_method_5_code 31 = .ok (.istore_n 1, 1) := by decide +kernel
theorem d22_32 : decode jdk_52_method_5_code 32 = .ok (.aload_n 0, 1) := by decide +kernel
theorem d22_33 : decode jdk_52_method_5_code 33 = .ok (.iload_n 1, 1) := by decide +kernel
theorem d22_34 : decode jdk_52_method_5_code 34 = .ok (.iinc 1 1, 3) := by decide +kernel
theorem d22_37 : decode jdk_52_method_5_code 37 = .ok (.baload, 1) := by decide +kernel
theorem d22_38 : decode jdk_52_method_5_code 38 = .ok (.sipush 255, 3) := by decide +kernel
theorem d22_41 : decode jdk_52_method_5_code 41 = .ok (.iand, 1) := by decide +kernel
theorem d22_42 : decode jdk_52_method_5_code 42 = .ok (.getstatic 59, 3) := by decide +kernel
theorem d22_45 : decode jdk_52_method_5_code 45 = .ok (.ishl, 1) := by decide +kernel
theorem d22_46 : decode jdk_52_method_5_code 46 = .ok (.aload_n 0, 1) := by decide +kernel
theorem d22_47 : decode jdk_52_method_5_code 47 = .ok (.iload_n 1, 1) := by decide +kernel
theorem d22_48 : decode jdk_52_method_5_code 48 = .ok (.baload, 1) := by decide +kernel
theorem d22_49 : decode jdk_52_method_5_code 49 = .ok (.sipush 255, 3) := by decide +kernel
theorem d22_52 : decode jdk_52_method_5_code 52 = .ok (.iand, 1) := by decide +kernel
theorem d22_53 : decode jdk_52_method_5_code 53 = .ok (.getstatic 63, 3) := by decide +kernel
theorem d22_56 : decode jdk_52_method_5_code 56 = .ok (.ishl, 1) := by decide +kernel
theorem d22_57 : decode jdk_52_method_5_code 57 = .ok (.ior, 1) := by decide +kernel
theorem d22_58 : decode jdk_52_method_5_code 58 = .ok (.i2c, 1) := by decide +kernel
theorem d22_59 : decode jdk_52_method_5_code 59 = .ok (.ireturn, 1) := by decide +kernel
theorem pn22 : plainFor (⟨"java/lang/StringUTF16", "getChar", "([BI)C"⟩ : MethodName) = true := plainFor_of_name (by first | (simp [plainName, overriddenIn]; done) | decide +kernel)
theorem ef_rm22 (m : MethodId) (a1 : Addr) (p2 : Int32) (kv : ClassId) (z : Int32) (vs : List Value) (b0 : Int32) (b1 : Int32) (cc : Int32) (cs1 : Int32) (fm : Value) : entryFrame m #[(.ref a1), (.int p2)] 2 = mkF m 0 #[.val (.ref a1), .val (.int p2)] [] := by first | (simp [entryFrame, mkF, argsToLocals, Value.category]; done) | rfl
def Q22 (Z : State) (a1 : Addr) (p2 : Int32) (kv : ClassId) (z : Int32) (vs : List Value) (b0 : Int32) (b1 : Int32) (cc : Int32) (cs1 : Int32) (fm : Value) (h0 : Heap) (n0 : Nat) (v : Option Value) (h : Heap) (L : List Loc) : Prop := v = some (.int cc) ∧ Fr n0 L ∧ (h = h0)
set_option maxRecDepth 65536 in
set_option maxHeartbeats 40000000 in
theorem rm22 (l : Launch) (Z : State) (a0 : Array Value) (hw : ∀ d ∈ tables_1, d.before a0 Z = true) (ws : List Jvm.Cond) (a1 : Addr) (p2 : Int32) (kv : ClassId) (z : Int32) (vs : List Value) (b0 : Int32) (b1 : Int32) (cc : Int32) (cs1 : Int32) (fm : Value) (h0 : Heap) (n0 : Nat) (Z0 : n0 ≤ h0.size) (O1 : Old Z n0 h0) (G : own_G Z cs1 fm) (V1 : Arv Z h0 a1 kv .byte z vs (.int (0 : Int32))) (i0 : ¬ (p2 <<< (1 : Int32)) < 0 ∧ (p2 <<< (1 : Int32)) < z) (i1 : ¬ ((p2 <<< (1 : Int32)) + (1 : Int32)) < 0 ∧ ((p2 <<< (1 : Int32)) + (1 : Int32)) < z) (g0 : vs.getD ((p2 <<< (1 : Int32))).toNatClampNeg (.int (0 : Int32)) = .int b0) (g1 : vs.getD (((p2 <<< (1 : Int32)) + (1 : Int32))).toNatClampNeg (.int (0 : Int32)) = .int b1) (hc : own_c16 b0 b1 = cc) :
  MetFree l (⟨"java/lang/StringUTF16", "getChar", "([BI)C"⟩ : MethodName) (head1 (Jvm.Cond.code (⟨"java/lang/StringUTF16", "getChar", "([BI)C"⟩ : MethodName) jdk_52_method_5_code 2 (some .char) :: ws) ({ frames := 0, cells := 0, slots := 0, locals := 0 } : Room)) (fun a U => a = #[(.ref a1), (.int p2)] ∧ Z.Warmed39 U.vm ∧ U.heap = h0) (fun _ _ _ _ _ => True) (fun _ U o U' => ∃ v L, o = .returned v ∧ Q22 Z a1 p2 kv z vs b0 b1 cc cs1 fm h0 n0 v U'.heap L ∧ FrameEnd U o U' L ({ frames := 0, cells := 0, slots := 0, locals := 0 } : Room).cells ({ frames := 0, cells := 0, slots := 0, locals := 0 } : Room).slots) := by
 refine MetFree.of_bodySF pn22 hisR ?_
 intro p e s m args below meth c s₁ Bd hml0 hP hK
 obtain ⟨rfl, hZ, hh⟩ := hP
 have hx := Bd.exec
 have hby := Bd.bytes
 have hml : c.maxLocals = 2 := hml0
 have hown : s.vm.findClass "java/lang/StringUTF16" = some m.cls := findClass_of_methodNamed Bd.named
 have hnm := (name_of_methodNamed Bd.named Bd.method).1
 have X0 : Stand p l e ({ frames := 0, cells := 0, slots := 0, locals := 0 } : Room) s m #[(.ref a1), (.int p2)] below meth c s₁ [] 0 0 := Stand.of_body Bd
 have e0 : s₁.heap = h0 := by rw [← hh, Bd.state]; rfl
 have N0 := Fr.nil n0
 have p0 : Go p.tables e below (s₁.setTop (entryFrame m #[(.ref a1), (.int p2)] 2)) (s₁.setTop (mkF m 0 #[.val (.ref a1), .val (.int p2)] [])) := fun t_ k_ => castTop (ef_rm22 m a1 p2 kv z vs b0 b1 cc cs1 fm) k_
 obtain ⟨T101, X101, e101, st101⟩ := getS2 X0 hx hZ hown (host := "") (Or.inl (own_w hw 95 rfl)) Via.refl e0 (G.2.2.2.2.1.ext O1.2) (g := (mkF m 0 #[.val (.ref a1), .val (.int p2)] [])) rfl (hb hby d22_0)
 have p102 : Go p.tables e below _ (T101.setTop (mkF m 37 #[.val (.ref a1), .val (.int ((p2 <<< (1 : Int32)) + (1 : Int32)))] [(.int (p2 <<< (1 : Int32))), (.ref a1)])) := fun t_ k_ => (gc p0 st101) t_ (by
  refine XS.ifYes X101.here hx rfl (pc0 := 3) (pc' := 28) rfl (hb hby d22_3) rfl ((if0 _ _).trans (feq (by decide : ¬ ((1 : Int32) = (0 : Int32)))).2) (by decide) (by decide) ?_
  refine XS.iloadN X101.here hx rfl (hb hby d22_28) rfl ?_
  refine XS.iconst X101.here hx rfl (hb hby d22_29) ?_
  refine XS.ishl X101.here hx rfl (hb hby d22_30) rfl ?_
  refine XS.istoreN X101.here hx rfl (hb hby d22_31) rfl (l' := #[.val (.ref a1), .val (.int (p2 <<< (1 : Int32)))]) rfl ?_
  refine XS.aloadN X101.here hx rfl (hb hby d22_32) rfl rfl ?_
  refine XS.iloadN X101.here hx rfl (hb hby d22_33) rfl ?_
  refine XS.iinc X101.here hx rfl (hb hby d22_34) rfl (l' := #[.val (.ref a1), .val (.int ((p2 <<< (1 : Int32)) + (1 : Int32)))]) rfl ?_
  exact k_)
 obtain ⟨cl103, Ar103, q103, S103, Ng103, H103, G103⟩ := id V1
 have hin103 := inb_of S103 (j := (p2 <<< (1 : Int32))) i0
 have hat103 := H103.at (v := (.int b0)) hin103 g0
 have p104 : Go p.tables e below _ (T101.setTop (mkF m 42 #[.val (.ref a1), .val (.int ((p2 <<< (1 : Int32)) + (1 : Int32)))] [(.int (b0 &&& (255 : Int32)))])) := fun t_ k_ => p102 t_ (by
  refine X101.baloadBytes hx (j := (p2 <<< (1 : Int32))) (v := (.int b0)) (by rw [e101]; exact Ar103.1) (State.isArrayOf_alike hZ.alike Ar103.2.1) Ar103.2.2 hin103 hat103 (g := (mkF m 37 #[.val (.ref a1), .val (.int ((p2 <<< (1 : Int32)) + (1 : Int32)))] [(.int (p2 <<< (1 : Int32))), (.ref a1)])) rfl rfl (hb hby d22_37) _ ?_
  refine XS.sipush X101.here hx rfl (hb hby d22_38) ?_
  refine XS.iand X101.here hx rfl (hb hby d22_41) rfl ?_
  exact k_)
 obtain ⟨T105, X105, e105, st105⟩ := getS2 X101 hx hZ hown (host := "") (Or.inl (own_w hw 96 rfl)) Via.refl e101 (G.2.2.2.2.2.1.ext O1.2) (g := (mkF m 42 #[.val (.ref a1), .val (.int ((p2 <<< (1 : Int32)) + (1 : Int32)))] [(.int (b0 &&& (255 : Int32)))])) rfl (hb hby d22_42)
 have p106 : Go p.tables e below _ (T105.setTop (mkF m 48 #[.val (.ref a1), .val (.int ((p2 <<< (1 : Int32)) + (1 : Int32)))] [(.int ((p2 <<< (1 : Int32)) + (1 : Int32))), (.ref a1), (.int ((b0 &&& (255 : Int32)) <<< (0 : Int32)))])) := fun t_ k_ => (gc p104 st105) t_ (by
  refine XS.ishl X105.here hx rfl (hb hby d22_45) rfl ?_
  refine XS.aloadN X105.here hx rfl (hb hby d22_46) rfl rfl ?_
  refine XS.iloadN X105.here hx rfl (hb hby d22_47) rfl ?_
  exact k_)
 obtain ⟨cl107, Ar107, q107, S107, Ng107, H107, G107⟩ := id V1
 have hin107 := inb_of S107 (j := ((p2 <<< (1 : Int32)) + (1 : Int32))) i1
 have hat107 := H107.at (v := (.int b1)) hin107 g1
 have p108 : Go p.tables e below _ (T105.setTop (mkF m 53 #[.val (.ref a1), .val (.int ((p2 <<< (1 : Int32)) + (1 : Int32)))] [(.int (b1 &&& (255 : Int32))), (.int ((b0 &&& (255 : Int32)) <<< (0 : Int32)))])) := fun t_ k_ => p106 t_ (by
  refine X105.baloadBytes hx (j := ((p2 <<< (1 : Int32)) + (1 : Int32))) (v := (.int b1)) (by rw [e105]; exact Ar107.1) (State.isArrayOf_alike hZ.alike Ar107.2.1) Ar107.2.2 hin107 hat107 (g := (mkF m 48 #[.val (.ref a1), .val (.int ((p2 <<< (1 : Int32)) + (1 : Int32)))] [(.int ((p2 <<< (1 : Int32)) + (1 : Int32))), (.ref a1), (.int ((b0 &&& (255 : Int32)) <<< (0 : Int32)))])) rfl rfl (hb hby d22_48) _ ?_
  refine XS.sipush X105.here hx rfl (hb hby d22_49) ?_
  refine XS.iand X105.here hx rfl (hb hby d22_52) rfl ?_
  exact k_)
 obtain ⟨T109, X109, e109, st109⟩ := getS2 X105 hx hZ hown (host := "") (Or.inl (own_w hw 97 rfl)) Via.refl e105 (G.2.2.2.2.2.2.ext O1.2) (g := (mkF m 53 #[.val (.ref a1), .val (.int ((p2 <<< (1 : Int32)) + (1 : Int32)))] [(.int (b1 &&& (255 : Int32))), (.int ((b0 &&& (255 : Int32)) <<< (0 : Int32)))])) rfl (hb hby d22_53)
 have p110 : Go p.tables e below _ (T109.setTop (mkF m 59 #[.val (.ref a1), .val (.int ((p2 <<< (1 : Int32)) + (1 : Int32)))] [(.int ((((b0 &&& (255 : Int32)) <<< (0 : Int32)) ||| ((b1 &&& (255 : Int32)) <<< (8 : Int32))).toUInt32.toUInt16.toUInt32.toInt32))])) := fun t_ k_ => (gc p108 st109) t_ (by
  refine XS.ishl X109.here hx rfl (hb hby d22_56) rfl ?_
  refine XS.ior X109.here hx rfl (hb hby d22_57) rfl ?_
  refine XS.i2c X109.here hx rfl (hb hby d22_58) rfl ?_
  exact k_)
 obtain ⟨fs, hr, hrun, hended, hW, hsame⟩ := X109.leave (v := some (.int (nar .char ((((b0 &&& (255 : Int32)) <<< (0 : Int32)) ||| ((b1 &&& (255 : Int32)) <<< (8 : Int32))).toUInt32.toUInt16.toUInt32.toInt32)))) (fun h => by rw [Bd.returns] at h; cases h)
 refine ⟨_, _, p110 _ (retN X109 hx (t := .char) Bd.returns (by simp) (hb hby d22_59) hr), hrun, hended, _, _, rfl, ?_, ⟨_, rfl⟩, hW, hsame.mono (by decide) (by decide)⟩
 show Q22 Z a1 p2 kv z vs b0 b1 cc cs1 fm h0 n0 _ T109.heap _
 rw [e109]
 exact ⟨congrArg (fun q => some (Value.int q)) hc, N0, rfl⟩
theorem d24_0 : decode jdk_52_method_91_code 0 = .ok (.iload_n 0, 1) := by decide +kernel
theorem d24_1 : decode jdk_52_method_91_code 1 = .ok (.aload_n 1, 1) := by decide +kernel
theorem d24_2 : decode jdk_52_method_91_code 2 = .ok (.invokestatic 48, 3) := by decide +kernel
theorem d24_5 : decode jdk_52_method_91_code 5 = .ok (.invokestatic 414, 3) := by decide +kernel
theorem d24_8 : decode jdk_52_method_91_code 8 = .ok (.return_, 1) := by decide +kernel
theorem pd5 : parseMethodDescriptor "([B)I" = some ⟨[(.array .byte)], some .int⟩ := by decide +kernel
theorem pn24 : plainFor (⟨"java/lang/StringUTF16", "checkIndex", "(I[B)V"⟩ : MethodName) = true := plainFor_of_name (by first | (simp [plainName, overriddenIn]; done) | decide +kernel)
theorem ef_rm24 (m : MethodId) (p1 : Int32) (a2 : Addr) (kv : ClassId) (z : Int32) (vs : List Value) (cs1 : Int32) (fm : Value) : entryFrame m #[(.int p1), (.ref a2)] 2 = mkF m 0 #[.val (.int p1), .val (.ref a2)] [] := by first | (simp [entryFrame, mkF, argsToLocals, Value.category]; done) | rfl
def Q24 (Z : State) (p1 : Int32) (a2 : Addr) (kv : ClassId) (z : Int32) (vs : List Value) (cs1 : Int32) (fm : Value) (h0 : Heap) (n0 : Nat) (v : Option Value) (h : Heap) (L : List Loc) : Prop := v = none ∧ Fr n0 L ∧ (h = h0)
set_option maxRecDepth 65536 in
set_option maxHeartbeats 40000000 in
theorem rm24 (l : Launch) (Z : State) (a0 : Array Value) (hw : ∀ d ∈ tables_1, d.before a0 Z = true) (ws : List Jvm.Cond) (p1 : Int32) (a2 : Addr) (kv : ClassId) (z : Int32) (vs : List Value) (cs1 : Int32) (fm : Value) (h0 : Heap) (n0 : Nat) (Z0 : n0 ≤ h0.size) (O1 : Old Z n0 h0) (G : own_G Z cs1 fm) (V1 : Arv Z h0 a2 kv .byte z vs (.int (0 : Int32))) (h1 : ¬ (p1 < (0 : Int32))) (h2 : p1 < (z >>> (1 : Int32))) :
  MetFree l (⟨"java/lang/StringUTF16", "checkIndex", "(I[B)V"⟩ : MethodName) (head1 (Jvm.Cond.code (⟨"java/lang/StringUTF16", "checkIndex", "(I[B)V"⟩ : MethodName) jdk_52_method_91_code 2 none :: ws) ({ frames := 2, cells := 0, slots := 0, locals := 27 } : Room)) (fun a U => a = #[(.int p1), (.ref a2)] ∧ Z.Warmed39 U.vm ∧ U.heap = h0) (fun _ _ _ _ _ => True) (fun _ U o U' => ∃ v L, o = .returned v ∧ Q24 Z p1 a2 kv z vs cs1 fm h0 n0 v U'.heap L ∧ FrameEnd U o U' L ({ frames := 2, cells := 0, slots := 0, locals := 27 } : Room).cells ({ frames := 2, cells := 0, slots := 0, locals := 27 } : Room).slots) := by
 refine MetFree.of_bodySF pn24 hisR ?_
 intro p e s m args below meth c s₁ Bd hml0 hP hK
 obtain ⟨rfl, hZ, hh⟩ := hP
 have hx := Bd.exec
 have hby := Bd.bytes
 have hml : c.maxLocals = 2 := hml0
 have hown : s.vm.findClass "java/lang/StringUTF16" = some m.cls := findClass_of_methodNamed Bd.named
 have hnm := (name_of_methodNamed Bd.named Bd.method).1
 have X0 : Stand p l e ({ frames := 2, cells := 0, slots := 0, locals := 27 } : Room) s m #[(.int p1), (.ref a2)] below meth c s₁ [] 0 0 := Stand.of_body Bd
 have e0 : s₁.heap = h0 := by rw [← hh, Bd.state]; rfl
 have N0 := Fr.nil n0
 have p0 : Go p.tables e below (s₁.setTop (entryFrame m #[(.int p1), (.ref a2)] 2)) (s₁.setTop (mkF m 0 #[.val (.int p1), .val (.ref a2)] [])) := fun t_ k_ => castTop (ef_rm24 m p1 a2 kv z vs cs1 fm) k_
 have p101 : Go p.tables e below _ (s₁.setTop (mkF m 2 #[.val (.int p1), .val (.ref a2)] [(.ref a2), (.int p1)])) := fun t_ k_ => p0 t_ (by
  refine XS.iloadN X0.here hx rfl (hb hby d24_0) rfl ?_
  refine XS.aloadN X0.here hx rfl (hb hby d24_1) rfl rfl ?_
  exact k_)
 obtain ⟨_, _, ⟨T102, L102, k102, n102⟩, -, X102, ⟨Lc102, hQ102, l102, y102, z102⟩, st102⟩ := Jvm.LawKit.callS X0 hx (y := (⟨"java/lang/StringUTF16", "length", "([B)I"⟩ : MethodName)) hown (mvT hZ (own_w hw 107 rfl)) (mvT hZ (own_w hw 108 rfl)) (mvT hZ (own_w hw 44 rfl)) (mvT hZ (own_w hw 109 rfl)) (by decide) (backOf (W := 1) (rm25 l Z a0 hw [] a2 kv z vs h0 n0 (Nat.le_trans Z0 (Keep.refl h0 []).1) V1) hZ (own_w hw 109 rfl) (own_w hw 44 rfl) (by decide) (by decide)) (g := (mkF m 2 #[.val (.int p1), .val (.ref a2)] [(.ref a2), (.int p1)])) rfl (by rw [hml]; rfl) (argsL := [(.ref a2)]) (rest := [(.int p1)]) (lenOf pd5 rfl) rfl (by show 2 * 0 + _ ≤ _; exact Nat.le_of_eq rfl) (hb hby d24_2) (fun _ _ => ⟨rfl, e0, (by decide : 0 + 0 ≤ _), (by decide : 0 + 0 ≤ _)⟩)
 dsimp only [Pt.U, Pt.locs, Pt.cells, Pt.slots] at X102 l102 y102 z102 st102 hQ102
 subst l102 y102 z102
 obtain ⟨rfl, N102q, q102_hh⟩ := hQ102
 have N102 := Fr.app N0 N102q
 obtain ⟨_, _, ⟨T103, L103, k103, n103⟩, -, X103, ⟨Lc103, hQ103, l103, y103, z103⟩, st103⟩ := Jvm.LawKit.callS X102 hx (y := (⟨"java/lang/String", "checkIndex", "(II)V"⟩ : MethodName)) hown (mvT hZ (own_w hw 110 rfl)) (mvT hZ (own_w hw 70 rfl)) (mvT hZ (own_w hw 8 rfl)) (mvT hZ (own_w hw 71 rfl)) (by decide) (backOf (W := 0) (rm15 l Z a0 hw [] p1 (z >>> (1 : Int32)) cs1 fm h0 n0 (Nat.le_trans Z0 (Keep.refl h0 []).1) O1 G h1 h2) hZ (own_w hw 71 rfl) (own_w hw 8 rfl) (by decide) (by decide)) (g := (mkF m 5 #[.val (.int p1), .val (.ref a2)] [(.int (z >>> (1 : Int32))), (.int p1)])) rfl (by rw [hml]; rfl) (argsL := [(.int p1), (.int (z >>> (1 : Int32)))]) (rest := []) (lenOf pd2 rfl) rfl (by show 2 * 0 + _ ≤ _; exact Nat.le_of_eq rfl) (hb hby d24_5) (fun _ _ => ⟨rfl, q102_hh, (by decide : 0 + 0 ≤ _), (by decide : 0 + 0 ≤ _)⟩)
 dsimp only [Pt.U, Pt.locs, Pt.cells, Pt.slots] at X103 l103 y103 z103 st103 hQ103
 subst l103 y103 z103
 obtain ⟨rfl, N103q, q103_hh⟩ := hQ103
 have N103 := Fr.app N102 N103q
 obtain ⟨fs, hr, hrun, hended, hW, hsame⟩ := X103.leave (v := none) (fun _ => rfl)
 refine ⟨_, _, (gc (gc p101 st102) st103) _ (X103.returnOut hx Bd.returns (hb hby d24_8) hr), hrun, hended, _, _, rfl, ?_, ⟨_, rfl⟩, hW, hsame.mono (by decide) (by decide)⟩
 show Q24 Z p1 a2 kv z vs cs1 fm h0 n0 _ T103.heap _
 rw [q103_hh]
 exact ⟨rfl, N103, rfl⟩
theorem d23_0 : decode jdk_52_method_83_code 0 = .ok (.iload_n 1, 1) := by decide +kernel
theorem d23_1 : decode jdk_52_method_83_code 1 = .ok (.aload_n 0, 1) := by decide +kernel
theorem d23_2 : decode jdk_52_method_83_code 2 = .ok (.invokestatic 67, 3) := by decide +kernel
theorem d23_5 : decode jdk_52_method_83_code 5 = .ok (.aload_n 0, 1) := by decide +kernel
theorem d23_6 : decode jdk_52_method_83_code 6 = .ok (.iload_n 1, 1) := by decide +kernel
theorem d23_7 : decode jdk_52_method_83_code 7 = .ok (.invokestatic 71, 3) := by decide +kernel
theorem d23_10 : decode jdk_52_method_83_code 10 = .ok (.ireturn, 1) := by decide +kernel
theorem pd6 : parseMethodDescriptor "(I[B)V" = some ⟨[.int, (.array .byte)], none⟩ := by decide +kernel
theorem pn23 : plainFor (⟨"java/lang/StringUTF16", "charAt", "([BI)C"⟩ : MethodName) = true := plainFor_of_name (by first | (simp [plainName, overriddenIn]; done) | decide +kernel)
theorem ef_rm23 (m : MethodId) (a1 : Addr) (p2 : Int32) (kv : ClassId) (z : Int32) (vs : List Value) (b0 : Int32) (b1 : Int32) (cc : Int32) (cs1 : Int32) (fm : Value) : entryFrame m #[(.ref a1), (.int p2)] 2 = mkF m 0 #[.val (.ref a1), .val (.int p2)] [] := by first | (simp [entryFrame, mkF, argsToLocals, Value.category]; done) | rfl
def Q23 (Z : State) (a1 : Addr) (p2 : Int32) (kv : ClassId) (z : Int32) (vs : List Value) (b0 : Int32) (b1 : Int32) (cc : Int32) (cs1 : Int32) (fm : Value) (h0 : Heap) (n0 : Nat) (v : Option Value) (h : Heap) (L : List Loc) : Prop := v = some (.int cc) ∧ Fr n0 L ∧ (h = h0)
set_option maxRecDepth 65536 in
set_option maxHeartbeats 40000000 in
theorem rm23 (l : Launch) (Z : State) (a0 : Array Value) (hw : ∀ d ∈ tables_1, d.before a0 Z = true) (ws : List Jvm.Cond) (a1 : Addr) (p2 : Int32) (kv : ClassId) (z : Int32) (vs : List Value) (b0 : Int32) (b1 : Int32) (cc : Int32) (cs1 : Int32) (fm : Value) (h0 : Heap) (n0 : Nat) (Z0 : n0 ≤ h0.size) (O1 : Old Z n0 h0) (G : own_G Z cs1 fm) (V1 : Arv Z h0 a1 kv .byte z vs (.int (0 : Int32))) (h1 : ¬ (p2 < (0 : Int32))) (h2 : p2 < (z >>> (1 : Int32))) (i0 : ¬ (p2 <<< (1 : Int32)) < 0 ∧ (p2 <<< (1 : Int32)) < z) (i1 : ¬ ((p2 <<< (1 : Int32)) + (1 : Int32)) < 0 ∧ ((p2 <<< (1 : Int32)) + (1 : Int32)) < z) (g0 : vs.getD ((p2 <<< (1 : Int32))).toNatClampNeg (.int (0 : Int32)) = .int b0) (g1 : vs.getD (((p2 <<< (1 : Int32)) + (1 : Int32))).toNatClampNeg (.int (0 : Int32)) = .int b1) (hc : own_c16 b0 b1 = cc) :
  MetFree l (⟨"java/lang/StringUTF16", "charAt", "([BI)C"⟩ : MethodName) (head1 (Jvm.Cond.code (⟨"java/lang/StringUTF16", "charAt", "([BI)C"⟩ : MethodName) jdk_52_method_83_code 2 (some .char) :: ws) ({ frames := 3, cells := 0, slots := 0, locals := 40 } : Room)) (fun a U => a = #[(.ref a1), (.int p2)] ∧ Z.Warmed39 U.vm ∧ U.heap = h0) (fun _ _ _ _ _ => True) (fun _ U o U' => ∃ v L, o = .returned v ∧ Q23 Z a1 p2 kv z vs b0 b1 cc cs1 fm h0 n0 v U'.heap L ∧ FrameEnd U o U' L ({ frames := 3, cells := 0, slots := 0, locals := 40 } : Room).cells ({ frames := 3, cells := 0, slots := 0, locals := 40 } : Room).slots) := by
 refine MetFree.of_bodySF pn23 hisR ?_
 intro p e s m args below meth c s₁ Bd hml0 hP hK
 obtain ⟨rfl, hZ, hh⟩ := hP
 have hx := Bd.exec
 have hby := Bd.bytes
 have hml : c.maxLocals = 2 := hml0
 have hown : s.vm.findClass "java/lang/StringUTF16" = some m.cls := findClass_of_methodNamed Bd.named
 have hnm := (name_of_methodNamed Bd.named Bd.method).1
 have X0 : Stand p l e ({ frames := 3, cells := 0, slots := 0, locals := 40 } : Room) s m #[(.ref a1), (.int p2)] below meth c s₁ [] 0 0 := Stand.of_body Bd
 have e0 : s₁.heap = h0 := by rw [← hh, Bd.state]; rfl
 have N0 := Fr.nil n0
 have p0 : Go p.tables e below (s₁.setTop (entryFrame m #[(.ref a1), (.int p2)] 2)) (s₁.setTop (mkF m 0 #[.val (.ref a1), .val (.int p2)] [])) := fun t_ k_ => castTop (ef_rm23 m a1 p2 kv z vs b0 b1 cc cs1 fm) k_
 have p101 : Go p.tables e below _ (s₁.setTop (mkF m 2 #[.val (.ref a1), .val (.int p2)] [(.ref a1), (.int p2)])) := fun t_ k_ => p0 t_ (by
  refine XS.iloadN X0.here hx rfl (hb hby d23_0) rfl ?_
  refine XS.aloadN X0.here hx rfl (hb hby d23_1) rfl rfl ?_
  exact k_)
 obtain ⟨_, _, ⟨T102, L102, k102, n102⟩, -, X102, ⟨Lc102, hQ102, l102, y102, z102⟩, st102⟩ := Jvm.LawKit.callS X0 hx (y := (⟨"java/lang/StringUTF16", "checkIndex", "(I[B)V"⟩ : MethodName)) hown (mvT hZ (own_w hw 104 rfl)) (mvT hZ (own_w hw 105 rfl)) (mvT hZ (own_w hw 44 rfl)) (mvT hZ (own_w hw 106 rfl)) (by decide) (backOf (W := 0) (rm24 l Z a0 hw [] p2 a1 kv z vs cs1 fm h0 n0 (Nat.le_trans Z0 (Keep.refl h0 []).1) O1 G V1 h1 h2) hZ (own_w hw 106 rfl) (own_w hw 44 rfl) (by decide) (by decide)) (g := (mkF m 2 #[.val (.ref a1), .val (.int p2)] [(.ref a1), (.int p2)])) rfl (by rw [hml]; rfl) (argsL := [(.int p2), (.ref a1)]) (rest := []) (lenOf pd6 rfl) rfl (by show 2 * 0 + _ ≤ _; exact Nat.le_of_eq rfl) (hb hby d23_2) (fun _ _ => ⟨rfl, e0, (by decide : 0 + 0 ≤ _), (by decide : 0 + 0 ≤ _)⟩)
 dsimp only [Pt.U, Pt.locs, Pt.cells, Pt.slots] at X102 l102 y102 z102 st102 hQ102
 subst l102 y102 z102
 obtain ⟨rfl, N102q, q102_hh⟩ := hQ102
 have N102 := Fr.app N0 N102q
 have p103 : Go p.tables e below _ (T102.setTop (mkF m 7 #[.val (.ref a1), .val (.int p2)] [(.int p2), (.ref a1)])) := fun t_ k_ => (gc p101 st102) t_ (by
  refine XS.aloadN X102.here hx rfl (hb hby d23_5) rfl rfl ?_
  refine XS.iloadN X102.here hx rfl (hb hby d23_6) rfl ?_
  exact k_)
 obtain ⟨_, _, ⟨T104, L104, k104, n104⟩, -, X104, ⟨Lc104, hQ104, l104, y104, z104⟩, st104⟩ := Jvm.LawKit.callS X102 hx (y := (⟨"java/lang/StringUTF16", "getChar", "([BI)C"⟩ : MethodName)) hown (mvT hZ (own_w hw 98 rfl)) (mvT hZ (own_w hw 99 rfl)) (mvT hZ (own_w hw 44 rfl)) (mvT hZ (own_w hw 100 rfl)) (by decide) (backOf (W := 0) (rm22 l Z a0 hw [] a1 p2 kv z vs b0 b1 cc cs1 fm h0 n0 (Nat.le_trans Z0 (Keep.refl h0 []).1) O1 G V1 i0 i1 g0 g1 hc) hZ (own_w hw 100 rfl) (own_w hw 44 rfl) (by decide) (by decide)) (g := (mkF m 7 #[.val (.ref a1), .val (.int p2)] [(.int p2), (.ref a1)])) rfl (by rw [hml]; rfl) (argsL := [(.ref a1), (.int p2)]) (rest := []) (lenOf pd4 rfl) rfl (by show 2 * 0 + _ ≤ _; exact Nat.le_of_eq rfl) (hb hby d23_7) (fun _ _ => ⟨rfl, q102_hh, (by decide : 0 + 0 ≤ _), (by decide : 0 + 0 ≤ _)⟩)
 dsimp only [Pt.U, Pt.locs, Pt.cells, Pt.slots] at X104 l104 y104 z104 st104 hQ104
 subst l104 y104 z104
 obtain ⟨rfl, N104q, q104_hh⟩ := hQ104
 have N104 := Fr.app N102 N104q
 obtain ⟨fs, hr, hrun, hended, hW, hsame⟩ := X104.leave (v := some (.int (nar .char cc))) (fun h => by rw [Bd.returns] at h; cases h)
 refine ⟨_, _, (gc p103 st104) _ (retN X104 hx (t := .char) Bd.returns (by simp) (hb hby d23_10) hr), hrun, hended, _, _, rfl, ?_, ⟨_, rfl⟩, hW, hsame.mono (by decide) (by decide)⟩
 show Q23 Z a1 p2 kv z vs b0 b1 cc cs1 fm h0 n0 _ T104.heap _
 rw [q104_hh]
 exact ⟨by rw [← hc]; exact congrArg (fun q => some (Value.int q)) (own_nar2 _), N104, rfl⟩
theorem d12_16 : decode jdk_42_method_56_code 16 = .ok (.aload_n 0, 1) := by decide +kernel
theorem d12_17 : decode jdk_42_method_56_code 17 = .ok (.getfield 9, 3) := by decide +kernel
theorem d12_20 : decode jdk_42_method_56_code 20 = .ok (.iload_n 1, 1) := by decide +kernel
theorem d12_21 : decode jdk_42_method_56_code 21 = .ok (.invokestatic 498, 3) := by decide +kernel
theorem d12_24 : decode jdk_42_method_56_code 24 = .ok (.ireturn, 1) := by decide +kernel
theorem ef_rm12_1 (m : MethodId) (a1 : Addr) (p2 : Int32) (bv : Addr) (kv : ClassId) (z : Int32) (vs : List Value) (b0 : Int32) (b1 : Int32) (cc : Int32) (cs1 : Int32) (fm : Value) : entryFrame m #[(.ref a1), (.int p2)] 2 = mkF m 0 #[.val (.ref a1), .val (.int p2)] [] := by first | (simp [entryFrame, mkF, argsToLocals, Value.category]; done) | rfl
def Q12_1 (Z : State) (a1 : Addr) (p2 : Int32) (bv : Addr) (kv : ClassId) (z : Int32) (vs : List Value) (b0 : Int32) (b1 : Int32) (cc : Int32) (cs1 : Int32) (fm : Value) (h0 : Heap) (n0 : Nat) (v : Option Value) (h : Heap) (L : List Loc) : Prop := v = some (.int cc) ∧ Fr n0 L ∧ (h = h0)
set_option maxRecDepth 65536 in
set_option maxHeartbeats 40000000 in
theorem rm12_1 (l : Launch) (Z : State) (a0 : Array Value) (hw : ∀ d ∈ tables_1, d.before a0 Z = true) (ws : List Jvm.Cond) (a1 : Addr) (p2 : Int32) (bv : Addr) (kv : ClassId) (z : Int32) (vs : List Value) (b0 : Int32) (b1 : Int32) (cc : Int32) (cs1 : Int32) (fm : Value) (h0 : Heap) (n0 : Nat) (Z0 : n0 ≤ h0.size) (O1 : Old Z n0 h0) (G : own_G Z cs1 fm) (E1 : Exa Z h0 a1 "java/lang/String") (F1 : Fld Z h0 a1 "java/lang/String" "coder" "B" (.int (1 : Int32))) (F2 : Fld Z h0 a1 "java/lang/String" "value" "[B" (.ref bv)) (V1 : Arv Z h0 bv kv .byte z vs (.int (0 : Int32))) (h1 : ¬ (p2 < (0 : Int32))) (h2 : p2 < (z >>> (1 : Int32))) (i0 : ¬ (p2 <<< (1 : Int32)) < 0 ∧ (p2 <<< (1 : Int32)) < z) (i1 : ¬ ((p2 <<< (1 : Int32)) + (1 : Int32)) < 0 ∧ ((p2 <<< (1 : Int32)) + (1 : Int32)) < z) (g0 : vs.getD ((p2 <<< (1 : Int32))).toNatClampNeg (.int (0 : Int32)) = .int b0) (g1 : vs.getD (((p2 <<< (1 : Int32)) + (1 : Int32))).toNatClampNeg (.int (0 : Int32)) = .int b1) (hc : own_c16 b0 b1 = cc) :
  MetFree l (⟨"java/lang/String", "charAt", "(I)C"⟩ : MethodName) (head1 (Jvm.Cond.code (⟨"java/lang/String", "charAt", "(I)C"⟩ : MethodName) jdk_42_method_56_code 2 (some .char) :: ws) ({ frames := 4, cells := 0, slots := 0, locals := 53 } : Room)) (fun a U => a = #[(.ref a1), (.int p2)] ∧ Z.Warmed39 U.vm ∧ U.heap = h0) (fun _ _ _ _ _ => True) (fun _ U o U' => ∃ v L, o = .returned v ∧ Q12_1 Z a1 p2 bv kv z vs b0 b1 cc cs1 fm h0 n0 v U'.heap L ∧ FrameEnd U o U' L ({ frames := 4, cells := 0, slots := 0, locals := 53 } : Room).cells ({ frames := 4, cells := 0, slots := 0, locals := 53 } : Room).slots) := by
 refine MetFree.of_bodySF pn12 hisR ?_
 intro p e s m args below meth c s₁ Bd hml0 hP hK
 obtain ⟨rfl, hZ, hh⟩ := hP
 have hx := Bd.exec
 have hby := Bd.bytes
 have hml : c.maxLocals = 2 := hml0
 have hown : s.vm.findClass "java/lang/String" = some m.cls := findClass_of_methodNamed Bd.named
 have hnm := (name_of_methodNamed Bd.named Bd.method).1
 have X0 : Stand p l e ({ frames := 4, cells := 0, slots := 0, locals := 53 } : Room) s m #[(.ref a1), (.int p2)] below meth c s₁ [] 0 0 := Stand.of_body Bd
 have e0 : s₁.heap = h0 := by rw [← hh, Bd.state]; rfl
 have N0 := Fr.nil n0
 have p0 : Go p.tables e below (s₁.setTop (entryFrame m #[(.ref a1), (.int p2)] 2)) (s₁.setTop (mkF m 0 #[.val (.ref a1), .val (.int p2)] [])) := fun t_ k_ => castTop (ef_rm12_1 m a1 p2 bv kv z vs b0 b1 cc cs1 fm) k_
 have p101 : Go p.tables e below _ (s₁.setTop (mkF m 1 #[.val (.ref a1), .val (.int p2)] [(.ref a1)])) := fun t_ k_ => p0 t_ (by
  refine XS.aloadN X0.here hx rfl (hb hby d12_0) rfl rfl ?_
  exact k_)
 obtain ⟨cq102, kq102, q102a, q102b, q102c⟩ := isOf hZ e0 E1
 obtain ⟨_, _, ⟨T102, L102, k102, n102⟩, -, X102, ⟨Lc102, hQ102, l102, y102, z102⟩, st102⟩ := X0.virtualBack hx (y := (⟨"java/lang/String", "isLatin1", "()Z"⟩ : MethodName)) (z := (⟨"java/lang/String", "isLatin1", "()Z"⟩ : MethodName)) hown (mvT hZ (own_w hw 60 rfl)) (mvT hZ (own_w hw 61 rfl)) (notFace_of_selects (args := #[]) (mvT hZ (own_w hw 63 rfl))) (mvT hZ (own_w hw 63 rfl)) (mvT hZ (own_w hw 62 rfl)) (by decide) (backOf (W := 0) (rm13_1 l Z a0 hw [] a1 cs1 fm h0 n0 (Nat.le_trans Z0 (Keep.refl h0 []).1) O1 G F1) hZ (own_w hw 64 rfl) (own_w hw 8 rfl) (by decide) (by decide)) q102a q102c (g := (mkF m 1 #[.val (.ref a1), .val (.int p2)] [(.ref a1)])) rfl (by rw [hml]; rfl) (Steps.refl _) (argsL := []) (rest := []) (lenOf pd3 rfl) rfl (by show 2 * 0 + _ ≤ _; exact Nat.le_of_eq rfl) (hb hby d12_1) (fun _ _ => ⟨rfl, e0, (by decide : 0 + 0 ≤ _), (by decide : 0 + 0 ≤ _)⟩)
 dsimp only [Pt.U, Pt.locs, Pt.cells, Pt.slots] at X102 l102 y102 z102 st102 hQ102
 subst l102 y102 z102
 obtain ⟨rfl, N102q, q102_hh⟩ := hQ102
 have N102 := Fr.app N0 N102q
 have p103 : Go p.tables e below _ (T102.setTop (mkF m 17 #[.val (.ref a1), .val (.int p2)] [(.ref a1)])) := fun t_ k_ => (gcT p101 st102) t_ (by
  refine XS.ifYes X102.here hx rfl (pc0 := 4) (pc' := 16) rfl (hb hby d12_4) rfl ((if0 _ _).trans (teq (by decide : ((0 : Int32) = (0 : Int32)))).1) (by decide) (by decide) ?_
  refine XS.aloadN X102.here hx rfl (hb hby d12_16) rfl rfl ?_
  exact k_)
 obtain ⟨T104, X104, e104, st104⟩ := getF X102 hx hZ hown (host := "") (Or.inl (own_w hw 25 rfl)) Via.refl q102_hh F2 (g := (mkF m 17 #[.val (.ref a1), .val (.int p2)] [(.ref a1)])) rfl rfl (hb hby d12_17)
 have p105 : Go p.tables e below _ (T104.setTop (mkF m 21 #[.val (.ref a1), .val (.int p2)] [(.int p2), (.ref bv)])) := fun t_ k_ => (gc p103 st104) t_ (by
  refine XS.iloadN X104.here hx rfl (hb hby d12_20) rfl ?_
  exact k_)
 obtain ⟨_, _, ⟨T106, L106, k106, n106⟩, -, X106, ⟨Lc106, hQ106, l106, y106, z106⟩, st106⟩ := Jvm.LawKit.callS X104 hx (y := (⟨"java/lang/StringUTF16", "charAt", "([BI)C"⟩ : MethodName)) hown (mvT hZ (own_w hw 101 rfl)) (mvT hZ (own_w hw 102 rfl)) (mvT hZ (own_w hw 44 rfl)) (mvT hZ (own_w hw 103 rfl)) (by decide) (backOf (W := 0) (rm23 l Z a0 hw [] bv p2 kv z vs b0 b1 cc cs1 fm h0 n0 (Nat.le_trans Z0 (Keep.refl h0 []).1) O1 G V1 h1 h2 i0 i1 g0 g1 hc) hZ (own_w hw 103 rfl) (own_w hw 44 rfl) (by decide) (by decide)) (g := (mkF m 21 #[.val (.ref a1), .val (.int p2)] [(.int p2), (.ref bv)])) rfl (by rw [hml]; rfl) (argsL := [(.ref bv), (.int p2)]) (rest := []) (lenOf pd4 rfl) rfl (by show 2 * 0 + _ ≤ _; exact Nat.le_of_eq rfl) (hb hby d12_21) (fun _ _ => ⟨rfl, e104, (by decide : 0 + 0 ≤ _), (by decide : 0 + 0 ≤ _)⟩)
 dsimp only [Pt.U, Pt.locs, Pt.cells, Pt.slots] at X106 l106 y106 z106 st106 hQ106
 subst l106 y106 z106
 obtain ⟨rfl, N106q, q106_hh⟩ := hQ106
 have N106 := Fr.app N102 N106q
 obtain ⟨fs, hr, hrun, hended, hW, hsame⟩ := X106.leave (v := some (.int (nar .char cc))) (fun h => by rw [Bd.returns] at h; cases h)
 refine ⟨_, _, (gc p105 st106) _ (retN X106 hx (t := .char) Bd.returns (by simp) (hb hby d12_24) hr), hrun, hended, _, _, rfl, ?_, ⟨_, rfl⟩, hW, hsame.mono (by decide) (by decide)⟩
 show Q12_1 Z a1 p2 bv kv z vs b0 b1 cc cs1 fm h0 n0 _ T106.heap _
 rw [q106_hh]
 exact ⟨by rw [← hc]; exact congrArg (fun q => some (Value.int q)) (own_nar2 _), N106, rfl⟩
theorem d9_3 : decode jdk_52_method_21_code 3 = .ok (.iload 5, 2) := by decide +kernel
theorem d9_5 : decode jdk_52_method_21_code 5 = .ok (.iload 4, 2) := by decide +kernel
theorem d9_7 : decode jdk_52_method_21_code 7 = .ok (.if_icmp .ge 37, 3) := by decide +kernel
theorem d9_10 : decode jdk_52_method_21_code 10 = .ok (.aload_n 0, 1) := by decide +kernel
theorem d9_11 : decode jdk_52_method_21_code 11 = .ok (.iload_n 1, 1) := by decide +kernel
theorem d9_12 : decode jdk_52_method_21_code 12 = .ok (.caload, 1) := by decide +kernel
theorem d9_13 : decode jdk_52_method_21_code 13 = .ok (.istore 6, 2) := by decide +kernel
theorem d9_15 : decode jdk_52_method_21_code 15 = .ok (.iload 6, 2) := by decide +kernel
theorem d9_17 : decode jdk_52_method_21_code 17 = .ok (.sipush 255, 3) := by decide +kernel
theorem d9_20 : decode jdk_52_method_21_code 20 = .ok (.if_icmp .le 6, 3) := by decide +kernel
theorem d9_26 : decode jdk_52_method_21_code 26 = .ok (.aload_n 2, 1) := by decide +kernel
theorem d9_27 : decode jdk_52_method_21_code 27 = .ok (.iload_n 3, 1) := by decide +kernel
theorem d9_28 : decode jdk_52_method_21_code 28 = .ok (.iload 6, 2) := by decide +kernel
theorem d9_30 : decode jdk_52_method_21_code 30 = .ok (.i2b, 1) := by decide +kernel
theorem d9_31 : decode jdk_52_method_21_code 31 = .ok (.bastore, 1) := by decide +kernel
theorem d9_32 : decode jdk_52_method_21_code 32 = .ok (.iinc 1 1, 3) := by decide +kernel
theorem d9_35 : decode jdk_52_method_21_code 35 = .ok (.iinc 3 1, 3) := by decide +kernel
theorem d9_38 : decode jdk_52_method_21_code 38 = .ok (.iinc 5 1, 3) := by decide +kernel
theorem d9_41 : decode jdk_52_method_21_code 41 = .ok (.goto (-38), 3) := by decide +kernel
set_option maxRecDepth 65536 in
set_option maxHeartbeats 40000000 in
theorem lpCL {p : Program} {l : Launch} {e : Env} {s : State} {m : MethodId} {args : Array Value} {below : List Frame} {meth : Method} {c : Code} (Z : State) (a0 : Array Value) (hx : p.tables.exec = Jvm.exec) (hZ : Z.Warmed39 s.vm) (hw : ∀ d ∈ tables_1, d.before a0 Z = true) (hby : c.code = jdk_52_method_21_code) (hml : c.maxLocals = 7) (hown : s.vm.findClass "java/lang/StringUTF16" = some m.cls) (a1 : Addr) (a3 : Addr) (k1 : ClassId) (k3 : ClassId) (cs : List Int32) (n : Nat) (kk : Nat) (n0 : Nat) (hn : n ≤ 8) (hk : kk = n) (HL : ∀ j, j < kk → ¬ ((255 : Int32) < own_at cs j)) (ne : a1 ≠ a3) (g3 : n0 ≤ a3) : ∀ (k i : Nat) (s6 : Slot) (T : State) (h0 : Heap) (locs : List Loc), i + k = kk → One s6 → Stand p l e (⟨0, 0, 0, 0⟩ : Room) s m args below meth c T locs 0 0 → T.heap = h0 → n0 ≤ h0.size → Fr n0 locs → Arv Z h0 a1 k1 .char (Int32.ofNat n) (cs.map Value.int) (.int (0 : Int32)) → Arv Z h0 a3 k3 .byte (Int32.ofNat n) ((own_ds cs n i).map Value.int) (.int (0 : Int32)) → ∃ (T' : State) (h' : Heap) (lc : List Loc) (s6' : Slot), Stand p l e (⟨0, 0, 0, 0⟩ : Room) s m args below meth c T' lc 0 0 ∧ T'.heap = h' ∧ Fr n0 lc ∧ Keep h0 h' [a3] ∧ Arv Z h' a3 k3 .byte (Int32.ofNat n) ((own_ds cs n kk).map Value.int) (.int (0 : Int32)) ∧ Go p.tables e below (T.setTop (mkF m 3 #[.val (.ref a1), .val (.int (Int32.ofNat i)), .val (.ref a3), .val (.int (Int32.ofNat i)), .val (.int (Int32.ofNat n)), .val (.int (Int32.ofNat i)), s6] [])) (T'.setTop (mkF m 44 #[.val (.ref a1), .val (.int (Int32.ofNat kk)), .val (.ref a3), .val (.int (Int32.ofNat kk)), .val (.int (Int32.ofNat n)), .val (.int (Int32.ofNat kk)), s6'] [])) := by
 intro k
 induction k with
 | zero =>
  intro i s6 T h0 locs hik o6 X0 e0 Z0 N0 V1 V3
  have hin : i = kk := by omega
  have p0 : Go p.tables e below (T.setTop (mkF m 3 #[.val (.ref a1), .val (.int (Int32.ofNat i)), .val (.ref a3), .val (.int (Int32.ofNat i)), .val (.int (Int32.ofNat n)), .val (.int (Int32.ofNat i)), s6] [])) (T.setTop (mkF m 3 #[.val (.ref a1), .val (.int (Int32.ofNat i)), .val (.ref a3), .val (.int (Int32.ofNat i)), .val (.int (Int32.ofNat n)), .val (.int (Int32.ofNat i)), s6] [])) := fun t_ k_ => k_
  have p101 : Go p.tables e below _ (T.setTop (mkF m 7 #[.val (.ref a1), .val (.int (Int32.ofNat i)), .val (.ref a3), .val (.int (Int32.ofNat i)), .val (.int (Int32.ofNat n)), .val (.int (Int32.ofNat i)), s6] [(.int (Int32.ofNat n)), (.int (Int32.ofNat i))])) := fun t_ k_ => p0 t_ (by
   refine XS.iload X0.here hx rfl (hb hby d9_3) rfl ?_
   refine XS.iload X0.here hx rfl (hb hby d9_5) rfl ?_
   exact k_)
  have c102 : ¬ ((Int32.ofNat i) < (Int32.ofNat n)) := (fun q => by rw [own_lt32 (by omega) (by omega)] at q; omega)
  have p103 : Go p.tables e below _ (T.setTop (mkF m 44 #[.val (.ref a1), .val (.int (Int32.ofNat i)), .val (.ref a3), .val (.int (Int32.ofNat i)), .val (.int (Int32.ofNat n)), .val (.int (Int32.ofNat i)), s6] [])) := fun t_ k_ => p101 t_ (by
   refine XS.icmpYes X0.here hx rfl (pc0 := 7) (pc' := 44) rfl (hb hby d9_7) rfl (flt c102).2.1 (by decide) (by decide) ?_
   exact k_)
  subst hin; exact ⟨_, _, _, _, X0, e0, N0, (Keep.refl h0 [a3]), V3, p103⟩
 | succ k ih =>
  intro i s6 T h0 locs hik o6 X0 e0 Z0 N0 V1 V3
  have p0 : Go p.tables e below (T.setTop (mkF m 3 #[.val (.ref a1), .val (.int (Int32.ofNat i)), .val (.ref a3), .val (.int (Int32.ofNat i)), .val (.int (Int32.ofNat n)), .val (.int (Int32.ofNat i)), s6] [])) (T.setTop (mkF m 3 #[.val (.ref a1), .val (.int (Int32.ofNat i)), .val (.ref a3), .val (.int (Int32.ofNat i)), .val (.int (Int32.ofNat n)), .val (.int (Int32.ofNat i)), s6] [])) := fun t_ k_ => k_
  have p101 : Go p.tables e below _ (T.setTop (mkF m 7 #[.val (.ref a1), .val (.int (Int32.ofNat i)), .val (.ref a3), .val (.int (Int32.ofNat i)), .val (.int (Int32.ofNat n)), .val (.int (Int32.ofNat i)), s6] [(.int (Int32.ofNat n)), (.int (Int32.ofNat i))])) := fun t_ k_ => p0 t_ (by
   refine XS.iload X0.here hx rfl (hb hby d9_3) rfl ?_
   refine XS.iload X0.here hx rfl (hb hby d9_5) rfl ?_
   exact k_)
  have c102 : ((Int32.ofNat i) < (Int32.ofNat n)) := (own_lt32 (by omega) (by omega)).mpr (by omega)
  have p103 : Go p.tables e below _ (T.setTop (mkF m 12 #[.val (.ref a1), .val (.int (Int32.ofNat i)), .val (.ref a3), .val (.int (Int32.ofNat i)), .val (.int (Int32.ofNat n)), .val (.int (Int32.ofNat i)), s6] [(.int (Int32.ofNat i)), (.ref a1)])) := fun t_ k_ => p101 t_ (by
   refine XS.icmpNo X0.here hx rfl (hb hby d9_7) rfl (tlt c102).2.1 ?_
   refine XS.aloadN X0.here hx rfl (hb hby d9_10) rfl rfl ?_
   refine XS.iloadN X0.here hx rfl (hb hby d9_11) rfl ?_
   exact k_)
  obtain ⟨cl104, Ar104, q104, S104, Ng104, H104, G104⟩ := id V1
  have hin104 := inb_of S104 (j := (Int32.ofNat i)) ⟨own_nn32 (by omega), (own_lt32 (by omega) (by omega)).mpr (by omega)⟩
  have hat104 := H104.at (v := (.int (own_at cs i))) hin104 (own_mg cs i (by omega))
  have p105 : Go p.tables e below _ (T.setTop (mkF m 20 #[.val (.ref a1), .val (.int (Int32.ofNat i)), .val (.ref a3), .val (.int (Int32.ofNat i)), .val (.int (Int32.ofNat n)), .val (.int (Int32.ofNat i)), .val (.int (own_at cs i))] [(.int (255 : Int32)), (.int (own_at cs i))])) := fun t_ k_ => p103 t_ (by
   refine X0.caload hx (j := (Int32.ofNat i)) (v := (.int (own_at cs i))) (by rw [e0]; exact Ar104.1) (State.isArrayOf_alike hZ.alike Ar104.2.1) Ar104.2.2 hin104 hat104 (g := (mkF m 12 #[.val (.ref a1), .val (.int (Int32.ofNat i)), .val (.ref a3), .val (.int (Int32.ofNat i)), .val (.int (Int32.ofNat n)), .val (.int (Int32.ofNat i)), s6] [(.int (Int32.ofNat i)), (.ref a1)])) rfl rfl (hb hby d9_12) _ ?_
   refine XS.istoreS X0.here hx rfl (hb hby d9_13) rfl rfl o6 ?_
   refine XS.iload X0.here hx rfl (hb hby d9_15) rfl ?_
   refine XS.sipush X0.here hx rfl (hb hby d9_17) ?_
   exact k_)
  have c106 : ¬ ((255 : Int32) < (own_at cs i)) := HL i (by omega)
  have p107 : Go p.tables e below _ (T.setTop (mkF m 31 #[.val (.ref a1), .val (.int (Int32.ofNat i)), .val (.ref a3), .val (.int (Int32.ofNat i)), .val (.int (Int32.ofNat n)), .val (.int (Int32.ofNat i)), .val (.int (own_at cs i))] [(.int ((own_at cs i).toInt8.toInt32)), (.int (Int32.ofNat i)), (.ref a3)])) := fun t_ k_ => p105 t_ (by
   refine XS.icmpYes X0.here hx rfl (pc0 := 20) (pc' := 26) rfl (hb hby d9_20) rfl (flt c106).2.2.2 (by decide) (by decide) ?_
   refine XS.aloadN X0.here hx rfl (hb hby d9_26) rfl rfl ?_
   refine XS.iloadN X0.here hx rfl (hb hby d9_27) rfl ?_
   refine XS.iload X0.here hx rfl (hb hby d9_28) rfl ?_
   refine XS.i2b X0.here hx rfl (hb hby d9_30) rfl ?_
   exact k_)
  obtain ⟨cl108, Ar108, q108, S108, Ng108, H108, G108⟩ := id V3
  have hin108 := inb_of S108 (j := (Int32.ofNat i)) ⟨own_nn32 (by omega), (own_lt32 (by omega) (by omega)).mpr (by omega)⟩
  obtain ⟨T108, h108, X108, e108, W108, st108⟩ := stB X0 hx hZ e0 Ar108 (j := (Int32.ofNat i)) hin108 (g := (mkF m 31 #[.val (.ref a1), .val (.int (Int32.ofNat i)), .val (.ref a3), .val (.int (Int32.ofNat i)), .val (.int (Int32.ofNat n)), .val (.int (Int32.ofNat i)), .val (.int (own_at cs i))] [(.int ((own_at cs i).toInt8.toInt32)), (.int (Int32.ofNat i)), (.ref a3)])) rfl rfl (hb hby d9_31)
  have K109 : Keep h0 h108 [a3] := (Keep.refl h0 [a3]).wr W108 (Or.inl (List.mem_of_getElem? (i := 0) rfl))
  have N108 := Fr.snoc X108 N0 g3
  have V108 : Arv Z h108 a3 k3 .byte (Int32.ofNat n) ((own_ds cs n (i + 1)).map Value.int) (.int (0 : Int32)) := by
   have z := Arv.set Ar108 q108 S108 Ng108 H108 G108 (fits_nar_byte _) W108 i (own_cl32 (by omega)) (by rw [List.length_map, own_ds_len]; omega)
   rw [← List.map_set] at z; exact z
  have p110 : Go p.tables e below _ (T108.setTop (mkF m 3 #[.val (.ref a1), .val (.int ((Int32.ofNat i) + (1 : Int32))), .val (.ref a3), .val (.int ((Int32.ofNat i) + (1 : Int32))), .val (.int (Int32.ofNat n)), .val (.int ((Int32.ofNat i) + (1 : Int32))), .val (.int (own_at cs i))] [])) := fun t_ k_ => (gc p107 st108) t_ (by
   refine XS.iinc X108.here hx rfl (hb hby d9_32) rfl (l' := #[.val (.ref a1), .val (.int ((Int32.ofNat i) + (1 : Int32))), .val (.ref a3), .val (.int (Int32.ofNat i)), .val (.int (Int32.ofNat n)), .val (.int (Int32.ofNat i)), .val (.int (own_at cs i))]) rfl ?_
   refine XS.iinc X108.here hx rfl (hb hby d9_35) rfl (l' := #[.val (.ref a1), .val (.int ((Int32.ofNat i) + (1 : Int32))), .val (.ref a3), .val (.int ((Int32.ofNat i) + (1 : Int32))), .val (.int (Int32.ofNat n)), .val (.int (Int32.ofNat i)), .val (.int (own_at cs i))]) rfl ?_
   refine XS.iinc X108.here hx rfl (hb hby d9_38) rfl (l' := #[.val (.ref a1), .val (.int ((Int32.ofNat i) + (1 : Int32))), .val (.ref a3), .val (.int ((Int32.ofNat i) + (1 : Int32))), .val (.int (Int32.ofNat n)), .val (.int ((Int32.ofNat i) + (1 : Int32))), .val (.int (own_at cs i))]) rfl ?_
   refine XS.goto X108.here hx rfl (pc0 := 41) (pc' := 3) rfl (hb hby d9_41) (by decide) (by decide) ?_
   exact k_)
  have f111 := (V1.other W108 ne)
  obtain ⟨T', h', lc', s6', X', e', N', K', V3', g'⟩ := ih (i + 1) (.val (.int (own_at cs i))) T108 h108 _ (by omega) (One.val rfl) X108 e108 (Nat.le_trans Z0 K109.1) N108 f111 V108
  refine ⟨T', h', lc', s6', X', e', N', K109.trans K' (allS (Or.inl (List.mem_of_getElem? (i := 0) rfl)) all0), V3', fun t_ k_ => p110 t_ ?_⟩
  have z := g' t_ k_
  rw [own_up1 i] at z
  exact z
theorem d9_0 : decode jdk_52_method_21_code 0 = .ok (.iconst 0, 1) := by decide +kernel
theorem d9_1 : decode jdk_52_method_21_code 1 = .ok (.istore 5, 2) := by decide +kernel
theorem d9_44 : decode jdk_52_method_21_code 44 = .ok (.iload 4, 2) := by decide +kernel
theorem d9_46 : decode jdk_52_method_21_code 46 = .ok (.ireturn, 1) := by decide +kernel
theorem pn9 : plainFor (⟨"java/lang/StringUTF16", "compress", "([CI[BII)I"⟩ : MethodName) = true := plainFor_of_name (by first | (simp [plainName, overriddenIn]; done) | decide +kernel)
theorem ef_rm9_L (m : MethodId) (a1 : Addr) (a3 : Addr) (k1 : ClassId) (k3 : ClassId) (cs : List Int32) (n : Nat) (kk : Nat) : entryFrame m #[(.ref a1), (.int (0 : Int32)), (.ref a3), (.int (0 : Int32)), (.int (Int32.ofNat n))] 7 = mkF m 0 #[.val (.ref a1), .val (.int (0 : Int32)), .val (.ref a3), .val (.int (0 : Int32)), .val (.int (Int32.ofNat n)), .unset, .unset] [] := by first | (simp [entryFrame, mkF, argsToLocals, Value.category]; done) | rfl
def Q9_L (Z : State) (a1 : Addr) (a3 : Addr) (k1 : ClassId) (k3 : ClassId) (cs : List Int32) (n : Nat) (kk : Nat) (h0 : Heap) (n0 : Nat) (v : Option Value) (h : Heap) (L : List Loc) : Prop := v = some (.int (Int32.ofNat kk)) ∧ Fr n0 L ∧ (Keep h0 h [a3]) ∧ (Arv Z h a3 k3 .byte (Int32.ofNat n) ((own_ds cs n kk).map Value.int) (.int (0 : Int32)))
set_option maxRecDepth 65536 in
set_option maxHeartbeats 40000000 in
theorem rm9_L (l : Launch) (Z : State) (a0 : Array Value) (hw : ∀ d ∈ tables_1, d.before a0 Z = true) (ws : List Jvm.Cond) (a1 : Addr) (a3 : Addr) (k1 : ClassId) (k3 : ClassId) (cs : List Int32) (n : Nat) (kk : Nat) (h0 : Heap) (n0 : Nat) (Z0 : n0 ≤ h0.size) (V1 : Arv Z h0 a1 k1 .char (Int32.ofNat n) (cs.map Value.int) (.int (0 : Int32))) (V3 : Arv Z h0 a3 k3 .byte (Int32.ofNat n) ((own_ds cs n 0).map Value.int) (.int (0 : Int32))) (hn : n ≤ 8) (hk : kk = n) (HL : ∀ j, j < kk → ¬ ((255 : Int32) < own_at cs j)) (ne : a1 ≠ a3) (g3 : n0 ≤ a3) :
  MetFree l (⟨"java/lang/StringUTF16", "compress", "([CI[BII)I"⟩ : MethodName) (head1 (Jvm.Cond.code (⟨"java/lang/StringUTF16", "compress", "([CI[BII)I"⟩ : MethodName) jdk_52_method_21_code 7 (some .int) :: ws) ({ frames := 0, cells := 0, slots := 0, locals := 0 } : Room)) (fun a U => a = #[(.ref a1), (.int (0 : Int32)), (.ref a3), (.int (0 : Int32)), (.int (Int32.ofNat n))] ∧ Z.Warmed39 U.vm ∧ U.heap = h0) (fun _ _ _ _ _ => True) (fun _ U o U' => ∃ v L, o = .returned v ∧ Q9_L Z a1 a3 k1 k3 cs n kk h0 n0 v U'.heap L ∧ FrameEnd U o U' L ({ frames := 0, cells := 0, slots := 0, locals := 0 } : Room).cells ({ frames := 0, cells := 0, slots := 0, locals := 0 } : Room).slots) := by
 refine MetFree.of_bodySF pn9 hisR ?_
 intro p e s m args below meth c s₁ Bd hml0 hP hK
 obtain ⟨rfl, hZ, hh⟩ := hP
 have hx := Bd.exec
 have hby := Bd.bytes
 have hml : c.maxLocals = 7 := hml0
 have hown : s.vm.findClass "java/lang/StringUTF16" = some m.cls := findClass_of_methodNamed Bd.named
 have hnm := (name_of_methodNamed Bd.named Bd.method).1
 have X0 : Stand p l e ({ frames := 0, cells := 0, slots := 0, locals := 0 } : Room) s m #[(.ref a1), (.int (0 : Int32)), (.ref a3), (.int (0 : Int32)), (.int (Int32.ofNat n))] below meth c s₁ [] 0 0 := Stand.of_body Bd
 have e0 : s₁.heap = h0 := by rw [← hh, Bd.state]; rfl
 have N0 := Fr.nil n0
 have p0 : Go p.tables e below (s₁.setTop (entryFrame m #[(.ref a1), (.int (0 : Int32)), (.ref a3), (.int (0 : Int32)), (.int (Int32.ofNat n))] 7)) (s₁.setTop (mkF m 0 #[.val (.ref a1), .val (.int (0 : Int32)), .val (.ref a3), .val (.int (0 : Int32)), .val (.int (Int32.ofNat n)), .unset, .unset] [])) := fun t_ k_ => castTop (ef_rm9_L m a1 a3 k1 k3 cs n kk) k_
 have p101 : Go p.tables e below _ (s₁.setTop (mkF m 3 #[.val (.ref a1), .val (.int (0 : Int32)), .val (.ref a3), .val (.int (0 : Int32)), .val (.int (Int32.ofNat n)), .val (.int (0 : Int32)), .unset] [])) := fun t_ k_ => p0 t_ (by
  refine XS.iconst X0.here hx rfl (hb hby d9_0) ?_
  refine XS.istore X0.here hx rfl (hb hby d9_1) rfl (l' := #[.val (.ref a1), .val (.int (0 : Int32)), .val (.ref a3), .val (.int (0 : Int32)), .val (.int (Int32.ofNat n)), .val (.int (0 : Int32)), .unset]) rfl ?_
  exact k_)
 have p103 : Go p.tables e below _ (s₁.setTop (mkF m 3 #[.val (.ref a1), .val (.int (Int32.ofNat 0)), .val (.ref a3), .val (.int (Int32.ofNat 0)), .val (.int (Int32.ofNat n)), .val (.int (Int32.ofNat 0)), .unset] [])) := p101
 obtain ⟨T102, h102, lc102, s6102, X102, e102, N102, K102, V3102, g102⟩ := lpCL Z a0 hx hZ hw hby hml hown a1 a3 k1 k3 cs n kk n0 hn hk HL ne g3 kk 0 .unset s₁ h0 _ (by omega) One.u X0 e0 Z0 N0 V1 V3
 have p104 : Go p.tables e below _ (T102.setTop (mkF m 44 #[.val (.ref a1), .val (.int (Int32.ofNat kk)), .val (.ref a3), .val (.int (Int32.ofNat kk)), .val (.int (Int32.ofNat n)), .val (.int (Int32.ofNat kk)), s6102] [])) := fun t_ k_ => p103 t_ (g102 t_ k_)
 have p105 : Go p.tables e below _ (T102.setTop (mkF m 46 #[.val (.ref a1), .val (.int (Int32.ofNat kk)), .val (.ref a3), .val (.int (Int32.ofNat kk)), .val (.int (Int32.ofNat n)), .val (.int (Int32.ofNat kk)), s6102] [(.int (Int32.ofNat n))])) := fun t_ k_ => p104 t_ (by
  refine XS.iload X102.here hx rfl (hb hby d9_44) rfl ?_
  exact k_)
 obtain ⟨fs, hr, hrun, hended, hW, hsame⟩ := X102.leave (v := some (.int (Int32.ofNat n))) (fun h => by rw [Bd.returns] at h; cases h)
 refine ⟨_, _, p105 _ (retI X102 hx Bd.returns (hb hby d9_46) hr), hrun, hended, _, _, rfl, ?_, ⟨_, rfl⟩, hW, hsame.mono (by decide) (by decide)⟩
 show Q9_L Z a1 a3 k1 k3 cs n kk h0 n0 _ T102.heap _
 rw [e102]
 exact ⟨congrArg (fun q => some (Value.int (Int32.ofNat q))) hk.symm, N102, K102, V3102⟩
set_option maxRecDepth 65536 in
set_option maxHeartbeats 40000000 in
theorem lpCU {p : Program} {l : Launch} {e : Env} {s : State} {m : MethodId} {args : Array Value} {below : List Frame} {meth : Method} {c : Code} (Z : State) (a0 : Array Value) (hx : p.tables.exec = Jvm.exec) (hZ : Z.Warmed39 s.vm) (hw : ∀ d ∈ tables_1, d.before a0 Z = true) (hby : c.code = jdk_52_method_21_code) (hml : c.maxLocals = 7) (hown : s.vm.findClass "java/lang/StringUTF16" = some m.cls) (a1 : Addr) (a3 : Addr) (k1 : ClassId) (k3 : ClassId) (cs : List Int32) (n : Nat) (kk : Nat) (n0 : Nat) (hn : n ≤ 8) (hk : kk < n) (HL : ∀ j, j < kk → ¬ ((255 : Int32) < own_at cs j)) (hm : (255 : Int32) < own_at cs kk) (ne : a1 ≠ a3) (g3 : n0 ≤ a3) : ∀ (k i : Nat) (s6 : Slot) (T : State) (h0 : Heap) (locs : List Loc), i + k = kk → One s6 → Stand p l e (⟨0, 0, 0, 0⟩ : Room) s m args below meth c T locs 0 0 → T.heap = h0 → n0 ≤ h0.size → Fr n0 locs → Arv Z h0 a1 k1 .char (Int32.ofNat n) (cs.map Value.int) (.int (0 : Int32)) → Arv Z h0 a3 k3 .byte (Int32.ofNat n) ((own_ds cs n i).map Value.int) (.int (0 : Int32)) → ∃ (T' : State) (h' : Heap) (lc : List Loc) (s6' : Slot), Stand p l e (⟨0, 0, 0, 0⟩ : Room) s m args below meth c T' lc 0 0 ∧ T'.heap = h' ∧ Fr n0 lc ∧ Keep h0 h' [a3] ∧ Arv Z h' a3 k3 .byte (Int32.ofNat n) ((own_ds cs n kk).map Value.int) (.int (0 : Int32)) ∧ Go p.tables e below (T.setTop (mkF m 3 #[.val (.ref a1), .val (.int (Int32.ofNat i)), .val (.ref a3), .val (.int (Int32.ofNat i)), .val (.int (Int32.ofNat n)), .val (.int (Int32.ofNat i)), s6] [])) (T'.setTop (mkF m 23 #[.val (.ref a1), .val (.int (Int32.ofNat kk)), .val (.ref a3), .val (.int (Int32.ofNat kk)), .val (.int (Int32.ofNat n)), .val (.int (Int32.ofNat kk)), s6'] [])) := by
 intro k
 induction k with
 | zero =>
  intro i s6 T h0 locs hik o6 X0 e0 Z0 N0 V1 V3
  have hin : i = kk := by omega
  have p0 : Go p.tables e below (T.setTop (mkF m 3 #[.val (.ref a1), .val (.int (Int32.ofNat i)), .val (.ref a3), .val (.int (Int32.ofNat i)), .val (.int (Int32.ofNat n)), .val (.int (Int32.ofNat i)), s6] [])) (T.setTop (mkF m 3 #[.val (.ref a1), .val (.int (Int32.ofNat i)), .val (.ref a3), .val (.int (Int32.ofNat i)), .val (.int (Int32.ofNat n)), .val (.int (Int32.ofNat i)), s6] [])) := fun t_ k_ => k_
  have p101 : Go p.tables e below _ (T.setTop (mkF m 7 #[.val (.ref a1), .val (.int (Int32.ofNat i)), .val (.ref a3), .val (.int (Int32.ofNat i)), .val (.int (Int32.ofNat n)), .val (.int (Int32.ofNat i)), s6] [(.int (Int32.ofNat n)), (.int (Int32.ofNat i))])) := fun t_ k_ => p0 t_ (by
   refine XS.iload X0.here hx rfl (hb hby d9_3) rfl ?_
   refine XS.iload X0.here hx rfl (hb hby d9_5) rfl ?_
   exact k_)
  have c102 : ((Int32.ofNat i) < (Int32.ofNat n)) := (own_lt32 (by omega) (by omega)).mpr (by omega)
  have p103 : Go p.tables e below _ (T.setTop (mkF m 12 #[.val (.ref a1), .val (.int (Int32.ofNat i)), .val (.ref a3), .val (.int (Int32.ofNat i)), .val (.int (Int32.ofNat n)), .val (.int (Int32.ofNat i)), s6] [(.int (Int32.ofNat i)), (.ref a1)])) := fun t_ k_ => p101 t_ (by
   refine XS.icmpNo X0.here hx rfl (hb hby d9_7) rfl (tlt c102).2.1 ?_
   refine XS.aloadN X0.here hx rfl (hb hby d9_10) rfl rfl ?_
   refine XS.iloadN X0.here hx rfl (hb hby d9_11) rfl ?_
   exact k_)
  obtain ⟨cl104, Ar104, q104, S104, Ng104, H104, G104⟩ := id V1
  have hin104 := inb_of S104 (j := (Int32.ofNat i)) ⟨own_nn32 (by omega), (own_lt32 (by omega) (by omega)).mpr (by omega)⟩
  have hat104 := H104.at (v := (.int (own_at cs i))) hin104 (own_mg cs i (by omega))
  have p105 : Go p.tables e below _ (T.setTop (mkF m 20 #[.val (.ref a1), .val (.int (Int32.ofNat i)), .val (.ref a3), .val (.int (Int32.ofNat i)), .val (.int (Int32.ofNat n)), .val (.int (Int32.ofNat i)), .val (.int (own_at cs i))] [(.int (255 : Int32)), (.int (own_at cs i))])) := fun t_ k_ => p103 t_ (by
   refine X0.caload hx (j := (Int32.ofNat i)) (v := (.int (own_at cs i))) (by rw [e0]; exact Ar104.1) (State.isArrayOf_alike hZ.alike Ar104.2.1) Ar104.2.2 hin104 hat104 (g := (mkF m 12 #[.val (.ref a1), .val (.int (Int32.ofNat i)), .val (.ref a3), .val (.int (Int32.ofNat i)), .val (.int (Int32.ofNat n)), .val (.int (Int32.ofNat i)), s6] [(.int (Int32.ofNat i)), (.ref a1)])) rfl rfl (hb hby d9_12) _ ?_
   refine XS.istoreS X0.here hx rfl (hb hby d9_13) rfl rfl o6 ?_
   refine XS.iload X0.here hx rfl (hb hby d9_15) rfl ?_
   refine XS.sipush X0.here hx rfl (hb hby d9_17) ?_
   exact k_)
  have c106 : ((255 : Int32) < (own_at cs i)) := hin ▸ hm
  have p107 : Go p.tables e below _ (T.setTop (mkF m 23 #[.val (.ref a1), .val (.int (Int32.ofNat i)), .val (.ref a3), .val (.int (Int32.ofNat i)), .val (.int (Int32.ofNat n)), .val (.int (Int32.ofNat i)), .val (.int (own_at cs i))] [])) := fun t_ k_ => p105 t_ (by
   refine XS.icmpNo X0.here hx rfl (hb hby d9_20) rfl (tlt c106).2.2.2 ?_
   exact k_)
  subst hin; exact ⟨_, _, _, _, X0, e0, N0, (Keep.refl h0 [a3]), V3, p107⟩
 | succ k ih =>
  intro i s6 T h0 locs hik o6 X0 e0 Z0 N0 V1 V3
  have p0 : Go p.tables e below (T.setTop (mkF m 3 #[.val (.ref a1), .val (.int (Int32.ofNat i)), .val (.ref a3), .val (.int (Int32.ofNat i)), .val (.int (Int32.ofNat n)), .val (.int (Int32.ofNat i)), s6] [])) (T.setTop (mkF m 3 #[.val (.ref a1), .val (.int (Int32.ofNat i)), .val (.ref a3), .val (.int (Int32.ofNat i)), .val (.int (Int32.ofNat n)), .val (.int (Int32.ofNat i)), s6] [])) := fun t_ k_ => k_
  have p101 : Go p.tables e below _ (T.setTop (mkF m 7 #[.val (.ref a1), .val (.int (Int32.ofNat i)), .val (.ref a3), .val (.int (Int32.ofNat i)), .val (.int (Int32.ofNat n)), .val (.int (Int32.ofNat i)), s6] [(.int (Int32.ofNat n)), (.int (Int32.ofNat i))])) := fun t_ k_ => p0 t_ (by
   refine XS.iload X0.here hx rfl (hb hby d9_3) rfl ?_
   refine XS.iload X0.here hx rfl (hb hby d9_5) rfl ?_
   exact k_)
  have c102 : ((Int32.ofNat i) < (Int32.ofNat n)) := (own_lt32 (by omega) (by omega)).mpr (by omega)
  have p103 : Go p.tables e below _ (T.setTop (mkF m 12 #[.val (.ref a1), .val (.int (Int32.ofNat i)), .val (.ref a3), .val (.int (Int32.ofNat i)), .val (.int (Int32.ofNat n)), .val (.int (Int32.ofNat i)), s6] [(.int (Int32.ofNat i)), (.ref a1)])) := fun t_ k_ => p101 t_ (by
   refine XS.icmpNo X0.here hx rfl (hb hby d9_7) rfl (tlt c102).2.1 ?_
   refine XS.aloadN X0.here hx rfl (hb hby d9_10) rfl rfl ?_
   refine XS.iloadN X0.here hx rfl (hb hby d9_11) rfl ?_
   exact k_)
  obtain ⟨cl104, Ar104, q104, S104, Ng104, H104, G104⟩ := id V1
  have hin104 := inb_of S104 (j := (Int32.ofNat i)) ⟨own_nn32 (by omega), (own_lt32 (by omega) (by omega)).mpr (by omega)⟩
  have hat104 := H104.at (v := (.int (own_at cs i))) hin104 (own_mg cs i (by omega))
  have p105 : Go p.tables e below _ (T.setTop (mkF m 20 #[.val (.ref a1), .val (.int (Int32.ofNat i)), .val (.ref a3), .val (.int (Int32.ofNat i)), .val (.int (Int32.ofNat n)), .val (.int (Int32.ofNat i)), .val (.int (own_at cs i))] [(.int (255 : Int32)), (.int (own_at cs i))])) := fun t_ k_ => p103 t_ (by
   refine X0.caload hx (j := (Int32.ofNat i)) (v := (.int (own_at cs i))) (by rw [e0]; exact Ar104.1) (State.isArrayOf_alike hZ.alike Ar104.2.1) Ar104.2.2 hin104 hat104 (g := (mkF m 12 #[.val (.ref a1), .val (.int (Int32.ofNat i)), .val (.ref a3), .val (.int (Int32.ofNat i)), .val (.int (Int32.ofNat n)), .val (.int (Int32.ofNat i)), s6] [(.int (Int32.ofNat i)), (.ref a1)])) rfl rfl (hb hby d9_12) _ ?_
   refine XS.istoreS X0.here hx rfl (hb hby d9_13) rfl rfl o6 ?_
   refine XS.iload X0.here hx rfl (hb hby d9_15) rfl ?_
   refine XS.sipush X0.here hx rfl (hb hby d9_17) ?_
   exact k_)
  have c106 : ¬ ((255 : Int32) < (own_at cs i)) := HL i (by omega)
  have p107 : Go p.tables e below _ (T.setTop (mkF m 31 #[.val (.ref a1), .val (.int (Int32.ofNat i)), .val (.ref a3), .val (.int (Int32.ofNat i)), .val (.int (Int32.ofNat n)), .val (.int (Int32.ofNat i)), .val (.int (own_at cs i))] [(.int ((own_at cs i).toInt8.toInt32)), (.int (Int32.ofNat i)), (.ref a3)])) := fun t_ k_ => p105 t_ (by
   refine XS.icmpYes X0.here hx rfl (pc0 := 20) (pc' := 26) rfl (hb hby d9_20) rfl (flt c106).2.2.2 (by decide) (by decide) ?_
   refine XS.aloadN X0.here hx rfl (hb hby d9_26) rfl rfl ?_
   refine XS.iloadN X0.here hx rfl (hb hby d9_27) rfl ?_
   refine XS.iload X0.here hx rfl (hb hby d9_28) rfl ?_
   refine XS.i2b X0.here hx rfl (hb hby d9_30) rfl ?_
   exact k_)
  obtain ⟨cl108, Ar108, q108, S108, Ng108, H108, G108⟩ := id V3
  have hin108 := inb_of S108 (j := (Int32.ofNat i)) ⟨own_nn32 (by omega), (own_lt32 (by omega) (by omega)).mpr (by omega)⟩
  obtain ⟨T108, h108, X108, e108, W108, st108⟩ := stB X0 hx hZ e0 Ar108 (j := (Int32.ofNat i)) hin108 (g := (mkF m 31 #[.val (.ref a1), .val (.int (Int32.ofNat i)), .val (.ref a3), .val (.int (Int32.ofNat i)), .val (.int (Int32.ofNat n)), .val (.int (Int32.ofNat i)), .val (.int (own_at cs i))] [(.int ((own_at cs i).toInt8.toInt32)), (.int (Int32.ofNat i)), (.ref a3)])) rfl rfl (hb hby d9_31)
  have K109 : Keep h0 h108 [a3] := (Keep.refl h0 [a3]).wr W108 (Or.inl (List.mem_of_getElem? (i := 0) rfl))
  have N108 := Fr.snoc X108 N0 g3
  have V108 : Arv Z h108 a3 k3 .byte (Int32.ofNat n) ((own_ds cs n (i + 1)).map Value.int) (.int (0 : Int32)) := by
   have z := Arv.set Ar108 q108 S108 Ng108 H108 G108 (fits_nar_byte _) W108 i (own_cl32 (by omega)) (by rw [List.length_map, own_ds_len]; omega)
   rw [← List.map_set] at z; exact z
  have p110 : Go p.tables e below _ (T108.setTop (mkF m 3 #[.val (.ref a1), .val (.int ((Int32.ofNat i) + (1 : Int32))), .val (.ref a3), .val (.int ((Int32.ofNat i) + (1 : Int32))), .val (.int (Int32.ofNat n)), .val (.int ((Int32.ofNat i) + (1 : Int32))), .val (.int (own_at cs i))] [])) := fun t_ k_ => (gc p107 st108) t_ (by
   refine XS.iinc X108.here hx rfl (hb hby d9_32) rfl (l' := #[.val (.ref a1), .val (.int ((Int32.ofNat i) + (1 : Int32))), .val (.ref a3), .val (.int (Int32.ofNat i)), .val (.int (Int32.ofNat n)), .val (.int (Int32.ofNat i)), .val (.int (own_at cs i))]) rfl ?_
   refine XS.iinc X108.here hx rfl (hb hby d9_35) rfl (l' := #[.val (.ref a1), .val (.int ((Int32.ofNat i) + (1 : Int32))), .val (.ref a3), .val (.int ((Int32.ofNat i) + (1 : Int32))), .val (.int (Int32.ofNat n)), .val (.int (Int32.ofNat i)), .val (.int (own_at cs i))]) rfl ?_
   refine XS.iinc X108.here hx rfl (hb hby d9_38) rfl (l' := #[.val (.ref a1), .val (.int ((Int32.ofNat i) + (1 : Int32))), .val (.ref a3), .val (.int ((Int32.ofNat i) + (1 : Int32))), .val (.int (Int32.ofNat n)), .val (.int ((Int32.ofNat i) + (1 : Int32))), .val (.int (own_at cs i))]) rfl ?_
   refine XS.goto X108.here hx rfl (pc0 := 41) (pc' := 3) rfl (hb hby d9_41) (by decide) (by decide) ?_
   exact k_)
  have f111 := (V1.other W108 ne)
  obtain ⟨T', h', lc', s6', X', e', N', K', V3', g'⟩ := ih (i + 1) (.val (.int (own_at cs i))) T108 h108 _ (by omega) (One.val rfl) X108 e108 (Nat.le_trans Z0 K109.1) N108 f111 V108
  refine ⟨T', h', lc', s6', X', e', N', K109.trans K' (allS (Or.inl (List.mem_of_getElem? (i := 0) rfl)) all0), V3', fun t_ k_ => p110 t_ ?_⟩
  have z := g' t_ k_
  rw [own_up1 i] at z
  exact z
theorem d9_23 : decode jdk_52_method_21_code 23 = .ok (.iload 5, 2) := by decide +kernel
theorem d9_25 : decode jdk_52_method_21_code 25 = .ok (.ireturn, 1) := by decide +kernel
theorem ef_rm9_U (m : MethodId) (a1 : Addr) (a3 : Addr) (k1 : ClassId) (k3 : ClassId) (cs : List Int32) (n : Nat) (kk : Nat) : entryFrame m #[(.ref a1), (.int (0 : Int32)), (.ref a3), (.int (0 : Int32)), (.int (Int32.ofNat n))] 7 = mkF m 0 #[.val (.ref a1), .val (.int (0 : Int32)), .val (.ref a3), .val (.int (0 : Int32)), .val (.int (Int32.ofNat n)), .unset, .unset] [] := by first | (simp [entryFrame, mkF, argsToLocals, Value.category]; done) | rfl
def Q9_U (Z : State) (a1 : Addr) (a3 : Addr) (k1 : ClassId) (k3 : ClassId) (cs : List Int32) (n : Nat) (kk : Nat) (h0 : Heap) (n0 : Nat) (v : Option Value) (h : Heap) (L : List Loc) : Prop := v = some (.int (Int32.ofNat kk)) ∧ Fr n0 L ∧ (Keep h0 h [a3]) ∧ (Arv Z h a3 k3 .byte (Int32.ofNat n) ((own_ds cs n kk).map Value.int) (.int (0 : Int32)))
set_option maxRecDepth 65536 in
set_option maxHeartbeats 40000000 in
theorem rm9_U (l : Launch) (Z : State) (a0 : Array Value) (hw : ∀ d ∈ tables_1, d.before a0 Z = true) (ws : List Jvm.Cond) (a1 : Addr) (a3 : Addr) (k1 : ClassId) (k3 : ClassId) (cs : List Int32) (n : Nat) (kk : Nat) (h0 : Heap) (n0 : Nat) (Z0 : n0 ≤ h0.size) (V1 : Arv Z h0 a1 k1 .char (Int32.ofNat n) (cs.map Value.int) (.int (0 : Int32))) (V3 : Arv Z h0 a3 k3 .byte (Int32.ofNat n) ((own_ds cs n 0).map Value.int) (.int (0 : Int32))) (hn : n ≤ 8) (hk : kk < n) (HL : ∀ j, j < kk → ¬ ((255 : Int32) < own_at cs j)) (hm : (255 : Int32) < own_at cs kk) (ne : a1 ≠ a3) (g3 : n0 ≤ a3) :
  MetFree l (⟨"java/lang/StringUTF16", "compress", "([CI[BII)I"⟩ : MethodName) (head1 (Jvm.Cond.code (⟨"java/lang/StringUTF16", "compress", "([CI[BII)I"⟩ : MethodName) jdk_52_method_21_code 7 (some .int) :: ws) ({ frames := 0, cells := 0, slots := 0, locals := 0 } : Room)) (fun a U => a = #[(.ref a1), (.int (0 : Int32)), (.ref a3), (.int (0 : Int32)), (.int (Int32.ofNat n))] ∧ Z.Warmed39 U.vm ∧ U.heap = h0) (fun _ _ _ _ _ => True) (fun _ U o U' => ∃ v L, o = .returned v ∧ Q9_U Z a1 a3 k1 k3 cs n kk h0 n0 v U'.heap L ∧ FrameEnd U o U' L ({ frames := 0, cells := 0, slots := 0, locals := 0 } : Room).cells ({ frames := 0, cells := 0, slots := 0, locals := 0 } : Room).slots) := by
 refine MetFree.of_bodySF pn9 hisR ?_
 intro p e s m args below meth c s₁ Bd hml0 hP hK
 obtain ⟨rfl, hZ, hh⟩ := hP
 have hx := Bd.exec
 have hby := Bd.bytes
 have hml : c.maxLocals = 7 := hml0
 have hown : s.vm.findClass "java/lang/StringUTF16" = some m.cls := findClass_of_methodNamed Bd.named
 have hnm := (name_of_methodNamed Bd.named Bd.method).1
 have X0 : Stand p l e ({ frames := 0, cells := 0, slots := 0, locals := 0 } : Room) s m #[(.ref a1), (.int (0 : Int32)), (.ref a3), (.int (0 : Int32)), (.int (Int32.ofNat n))] below meth c s₁ [] 0 0 := Stand.of_body Bd
 have e0 : s₁.heap = h0 := by rw [← hh, Bd.state]; rfl
 have N0 := Fr.nil n0
 have p0 : Go p.tables e below (s₁.setTop (entryFrame m #[(.ref a1), (.int (0 : Int32)), (.ref a3), (.int (0 : Int32)), (.int (Int32.ofNat n))] 7)) (s₁.setTop (mkF m 0 #[.val (.ref a1), .val (.int (0 : Int32)), .val (.ref a3), .val (.int (0 : Int32)), .val (.int (Int32.ofNat n)), .unset, .unset] [])) := fun t_ k_ => castTop (ef_rm9_U m a1 a3 k1 k3 cs n kk) k_
 have p101 : Go p.tables e below _ (s₁.setTop (mkF m 3 #[.val (.ref a1), .val (.int (0 : Int32)), .val (.ref a3), .val (.int (0 : Int32)), .val (.int (Int32.ofNat n)), .val (.int (0 : Int32)), .unset] [])) := fun t_ k_ => p0 t_ (by
  refine XS.iconst X0.here hx rfl (hb hby d9_0) ?_
  refine XS.istore X0.here hx rfl (hb hby d9_1) rfl (l' := #[.val (.ref a1), .val (.int (0 : Int32)), .val (.ref a3), .val (.int (0 : Int32)), .val (.int (Int32.ofNat n)), .val (.int (0 : Int32)), .unset]) rfl ?_
  exact k_)
 have p103 : Go p.tables e below _ (s₁.setTop (mkF m 3 #[.val (.ref a1), .val (.int (Int32.ofNat 0)), .val (.ref a3), .val (.int (Int32.ofNat 0)), .val (.int (Int32.ofNat n)), .val (.int (Int32.ofNat 0)), .unset] [])) := p101
 obtain ⟨T102, h102, lc102, s6102, X102, e102, N102, K102, V3102, g102⟩ := lpCU Z a0 hx hZ hw hby hml hown a1 a3 k1 k3 cs n kk n0 hn hk HL hm ne g3 kk 0 .unset s₁ h0 _ (by omega) One.u X0 e0 Z0 N0 V1 V3
 have p104 : Go p.tables e below _ (T102.setTop (mkF m 23 #[.val (.ref a1), .val (.int (Int32.ofNat kk)), .val (.ref a3), .val (.int (Int32.ofNat kk)), .val (.int (Int32.ofNat n)), .val (.int (Int32.ofNat kk)), s6102] [])) := fun t_ k_ => p103 t_ (g102 t_ k_)
 have p105 : Go p.tables e below _ (T102.setTop (mkF m 25 #[.val (.ref a1), .val (.int (Int32.ofNat kk)), .val (.ref a3), .val (.int (Int32.ofNat kk)), .val (.int (Int32.ofNat n)), .val (.int (Int32.ofNat kk)), s6102] [(.int (Int32.ofNat kk))])) := fun t_ k_ => p104 t_ (by
  refine XS.iload X102.here hx rfl (hb hby d9_23) rfl ?_
  exact k_)
 obtain ⟨fs, hr, hrun, hended, hW, hsame⟩ := X102.leave (v := some (.int (Int32.ofNat kk))) (fun h => by rw [Bd.returns] at h; cases h)
 refine ⟨_, _, p105 _ (retI X102 hx Bd.returns (hb hby d9_25) hr), hrun, hended, _, _, rfl, ?_, ⟨_, rfl⟩, hW, hsame.mono (by decide) (by decide)⟩
 show Q9_U Z a1 a3 k1 k3 cs n kk h0 n0 _ T102.heap _
 rw [e102]
 exact ⟨rfl, N102, K102, V3102⟩
theorem d8_0 : decode jdk_52_method_16_code 0 = .ok (.iload_n 2, 1) := by decide +kernel
theorem d8_1 : decode jdk_52_method_16_code 1 = .ok (.newarray .byte, 2) := by decide +kernel
theorem d8_3 : decode jdk_52_method_16_code 3 = .ok (.astore_n 3, 1) := by decide +kernel
theorem d8_4 : decode jdk_52_method_16_code 4 = .ok (.aload_n 0, 1) := by decide +kernel
theorem d8_5 : decode jdk_52_method_16_code 5 = .ok (.iload_n 1, 1) := by decide +kernel
theorem d8_6 : decode jdk_52_method_16_code 6 = .ok (.aload_n 3, 1) := by decide +kernel
theorem d8_7 : decode jdk_52_method_16_code 7 = .ok (.iconst 0, 1) := by decide +kernel
theorem d8_8 : decode jdk_52_method_16_code 8 = .ok (.iload_n 2, 1) := by decide +kernel
theorem d8_9 : decode jdk_52_method_16_code 9 = .ok (.invokestatic 115, 3) := by decide +kernel
theorem d8_12 : decode jdk_52_method_16_code 12 = .ok (.istore 4, 2) := by decide +kernel
theorem d8_14 : decode jdk_52_method_16_code 14 = .ok (.iload 4, 2) := by decide +kernel
theorem d8_16 : decode jdk_52_method_16_code 16 = .ok (.iload_n 2, 1) := by decide +kernel
theorem d8_17 : decode jdk_52_method_16_code 17 = .ok (.if_icmp .eq 40, 3) := by decide +kernel
theorem d8_57 : decode jdk_52_method_16_code 57 = .ok (.aload_n 3, 1) := by decide +kernel
theorem d8_58 : decode jdk_52_method_16_code 58 = .ok (.areturn, 1) := by decide +kernel
theorem pd7 : parseMethodDescriptor "([CI[BII)I" = some ⟨[(.array .char), .int, (.array .byte), .int, .int], some .int⟩ := by decide +kernel
theorem pn8 : plainFor (⟨"java/lang/StringUTF16", "compress", "([CII)[B"⟩ : MethodName) = true := plainFor_of_name (by first | (simp [plainName, overriddenIn]; done) | decide +kernel)
theorem ef_rm8_L1 (m : MethodId) (a1 : Addr) (k1 : ClassId) (c0 : Int32) : entryFrame m #[(.ref a1), (.int (0 : Int32)), (.int (1 : Int32))] 6 = mkF m 0 #[.val (.ref a1), .val (.int (0 : Int32)), .val (.int (1 : Int32)), .unset, .unset, .unset] [] := by first | (simp [entryFrame, mkF, argsToLocals, Value.category]; done) | rfl
def Q8_L1 (Z : State) (a1 : Addr) (k1 : ClassId) (c0 : Int32) (h0 : Heap) (n0 : Nat) (v : Option Value) (h : Heap) (L : List Loc) : Prop := ∃ (b : Addr) (kb : ClassId), v = some (.ref b) ∧ Fr n0 L ∧ (Keep h0 h []) ∧ (n0 ≤ b) ∧ (h0.size ≤ b) ∧ (Arv Z h b kb .byte (1 : Int32) [(.int (own_xl c0))] (.int (0 : Int32)))
set_option maxRecDepth 65536 in
set_option maxHeartbeats 40000000 in
theorem rm8_L1 (l : Launch) (Z : State) (a0 : Array Value) (hw : ∀ d ∈ tables_1, d.before a0 Z = true) (ws : List Jvm.Cond) (a1 : Addr) (k1 : ClassId) (c0 : Int32) (h0 : Heap) (n0 : Nat) (Z0 : n0 ≤ h0.size) (V1 : Arv Z h0 a1 k1 .char (1 : Int32) [(.int c0)] (.int (0 : Int32))) (l0 : ¬ ((255 : Int32) < c0)) :
  MetFree l (⟨"java/lang/StringUTF16", "compress", "([CII)[B"⟩ : MethodName) (head1 (Jvm.Cond.code (⟨"java/lang/StringUTF16", "compress", "([CII)[B"⟩ : MethodName) jdk_52_method_16_code 6 (some (.array .byte)) :: ws) ({ frames := 1, cells := 1, slots := 1, locals := 18 } : Room)) (fun a U => a = #[(.ref a1), (.int (0 : Int32)), (.int (1 : Int32))] ∧ Z.Warmed39 U.vm ∧ U.heap = h0) (fun _ _ _ _ _ => True) (fun _ U o U' => ∃ v L, o = .returned v ∧ Q8_L1 Z a1 k1 c0 h0 n0 v U'.heap L ∧ FrameEnd U o U' L ({ frames := 1, cells := 1, slots := 1, locals := 18 } : Room).cells ({ frames := 1, cells := 1, slots := 1, locals := 18 } : Room).slots) := by
 refine MetFree.of_bodySF pn8 hisR ?_
 intro p e s m args below meth c s₁ Bd hml0 hP hK
 obtain ⟨rfl, hZ, hh⟩ := hP
 have hx := Bd.exec
 have hby := Bd.bytes
 have hml : c.maxLocals = 6 := hml0
 have hown : s.vm.findClass "java/lang/StringUTF16" = some m.cls := findClass_of_methodNamed Bd.named
 have hnm := (name_of_methodNamed Bd.named Bd.method).1
 have X0 : Stand p l e ({ frames := 1, cells := 1, slots := 1, locals := 18 } : Room) s m #[(.ref a1), (.int (0 : Int32)), (.int (1 : Int32))] below meth c s₁ [] 0 0 := Stand.of_body Bd
 have e0 : s₁.heap = h0 := by rw [← hh, Bd.state]; rfl
 have N0 := Fr.nil n0
 have p0 : Go p.tables e below (s₁.setTop (entryFrame m #[(.ref a1), (.int (0 : Int32)), (.int (1 : Int32))] 6)) (s₁.setTop (mkF m 0 #[.val (.ref a1), .val (.int (0 : Int32)), .val (.int (1 : Int32)), .unset, .unset, .unset] [])) := fun t_ k_ => castTop (ef_rm8_L1 m a1 k1 c0) k_
 have p101 : Go p.tables e below _ (s₁.setTop (mkF m 1 #[.val (.ref a1), .val (.int (0 : Int32)), .val (.int (1 : Int32)), .unset, .unset, .unset] [(.int (1 : Int32))])) := fun t_ k_ => p0 t_ (by
  refine XS.iloadN X0.here hx rfl (hb hby d8_0) rfl ?_
  exact k_)
 obtain ⟨T102, h102, k102, X102, e102, E102, A102, st102⟩ := newP X0 hx hZ (own_w hw 20 rfl) e0 (g := (mkF m 1 #[.val (.ref a1), .val (.int (0 : Int32)), .val (.int (1 : Int32)), .unset, .unset, .unset] [(.int (1 : Int32))])) rfl (hb hby d8_1) rfl (by decide) (cap := 1) (by decide) (by decide) (by decide) (by decide)
 obtain ⟨b102, g102⟩ : ∃ z, z = h0.size := ⟨_, rfl⟩
 rw [← g102] at A102 st102
 have ne_a1_b102 : a1 ≠ b102 := Nat.ne_of_lt (Nat.lt_of_lt_of_le V1.lt (Nat.le_of_eq g102.symm))
 have ge_b102 : n0 ≤ b102 := Nat.le_trans (Nat.le_trans Z0 (Keep.refl h0 []).1) (Nat.le_of_eq g102.symm)
 have sz_b102 : h0.size ≤ b102 := Nat.le_trans (Keep.refl h0 []).1 (Nat.le_of_eq g102.symm)
 have K103 : Keep h0 h102 [] := (Keep.refl h0 []).ext E102
 have V102 : Arv Z h102 b102 k102 .byte (1 : Int32) [(.int (0 : Int32))] (.int (0 : Int32)) := (Arv.new A102 (by decide)).pad (pad_rep [] (.int (0 : Int32)) 1)
 have p104 : Go p.tables e below _ (T102.setTop (mkF m 9 #[.val (.ref a1), .val (.int (0 : Int32)), .val (.int (1 : Int32)), .val (.ref b102), .unset, .unset] [(.int (1 : Int32)), (.int (0 : Int32)), (.ref b102), (.int (0 : Int32)), (.ref a1)])) := fun t_ k_ => (gc p101 st102) t_ (by
  refine XS.astoreN X102.here hx rfl (hb hby d8_3) rfl rfl (l' := #[.val (.ref a1), .val (.int (0 : Int32)), .val (.int (1 : Int32)), .val (.ref b102), .unset, .unset]) rfl ?_
  refine XS.aloadN X102.here hx rfl (hb hby d8_4) rfl rfl ?_
  refine XS.iloadN X102.here hx rfl (hb hby d8_5) rfl ?_
  refine XS.aloadN X102.here hx rfl (hb hby d8_6) rfl rfl ?_
  refine XS.iconst X102.here hx rfl (hb hby d8_7) ?_
  refine XS.iloadN X102.here hx rfl (hb hby d8_8) rfl ?_
  exact k_)
 have hl105 : ∀ j, j < 1 → ¬ ((255 : Int32) < own_at [c0] j) := by
  intro j hj
  rcases (by omega : j = 0) with rfl
  ·exact l0
 have f106 := (V1.ext E102)
 obtain ⟨_, _, ⟨T107, L107, k107, n107⟩, -, X107, ⟨Lc107, hQ107, l107, y107, z107⟩, st107⟩ := Jvm.LawKit.callS X102 hx (y := (⟨"java/lang/StringUTF16", "compress", "([CI[BII)I"⟩ : MethodName)) hown (mvT hZ (own_w hw 46 rfl)) (mvT hZ (own_w hw 47 rfl)) (mvT hZ (own_w hw 44 rfl)) (mvT hZ (own_w hw 48 rfl)) (by decide) (backOf (W := 0) (rm9_L l Z a0 hw [] a1 b102 k1 k102 [c0] 1 1 h102 n0 (Nat.le_trans Z0 K103.1) f106 V102 (by decide) rfl hl105 ne_a1_b102 ge_b102) hZ (own_w hw 48 rfl) (own_w hw 44 rfl) (by decide) (by decide)) (g := (mkF m 9 #[.val (.ref a1), .val (.int (0 : Int32)), .val (.int (1 : Int32)), .val (.ref b102), .unset, .unset] [(.int (1 : Int32)), (.int (0 : Int32)), (.ref b102), (.int (0 : Int32)), (.ref a1)])) rfl (by rw [hml]; rfl) (argsL := [(.ref a1), (.int (0 : Int32)), (.ref b102), (.int (0 : Int32)), (.int (1 : Int32))]) (rest := []) (lenOf pd7 rfl) rfl (by show 2 * 0 + _ ≤ _; exact Nat.le_of_eq rfl) (hb hby d8_9) (fun _ _ => ⟨rfl, e102, (by decide : 1 + 0 ≤ _), (by decide : 1 + 0 ≤ _)⟩)
 dsimp only [Pt.U, Pt.locs, Pt.cells, Pt.slots] at X107 l107 y107 z107 st107 hQ107
 subst l107 y107 z107
 obtain ⟨rfl, N107q, q107_K, q107_V⟩ := hQ107
 have N107 := Fr.app N0 N107q
 have K108 : Keep h0 T107.heap [] := K103.trans q107_K (allS (Or.inr sz_b102) all0)
 have f109 : Arv Z T107.heap b102 k102 .byte (1 : Int32) [(.int (own_xl c0))] (.int (0 : Int32)) := q107_V
 have p110 : Go p.tables e below _ (T107.setTop (mkF m 12 #[.val (.ref a1), .val (.int (0 : Int32)), .val (.int (1 : Int32)), .val (.ref b102), .unset, .unset] [(.int (1 : Int32))])) := (gc p104 st107)
 have p111 : Go p.tables e below _ (T107.setTop (mkF m 58 #[.val (.ref a1), .val (.int (0 : Int32)), .val (.int (1 : Int32)), .val (.ref b102), .val (.int (1 : Int32)), .unset] [(.ref b102)])) := fun t_ k_ => p110 t_ (by
  refine XS.istore X107.here hx rfl (hb hby d8_12) rfl (l' := #[.val (.ref a1), .val (.int (0 : Int32)), .val (.int (1 : Int32)), .val (.ref b102), .val (.int (1 : Int32)), .unset]) rfl ?_
  refine XS.iload X107.here hx rfl (hb hby d8_14) rfl ?_
  refine XS.iloadN X107.here hx rfl (hb hby d8_16) rfl ?_
  refine XS.icmpYes X107.here hx rfl (pc0 := 17) (pc' := 57) rfl (hb hby d8_17) rfl (teq (by decide : ((1 : Int32) = (1 : Int32)))).1 (by decide) (by decide) ?_
  refine XS.aloadN X107.here hx rfl (hb hby d8_57) rfl rfl ?_
  exact k_)
 obtain ⟨fs, hr, hrun, hended, hW, hsame⟩ := X107.leave (v := some (.ref b102)) (fun h => by rw [Bd.returns] at h; cases h)
 refine ⟨_, _, p111 _ (retOut X107 hx (w := (.ref b102)) (i := .areturn) Bd.returns rfl (Or.inr (Or.inr (Or.inr (Or.inr ⟨rfl, rfl, rfl⟩)))) (hb hby d8_58) hr), hrun, hended, _, _, rfl, ?_, ⟨_, rfl⟩, hW, hsame.mono (by decide) (by decide)⟩
 show Q8_L1 Z a1 k1 c0 h0 n0 _ T107.heap _
 exact ⟨b102, k102, rfl, N107, K108, ge_b102, sz_b102, f109⟩
theorem d10_0 : decode jdk_52_method_15_code 0 = .ok (.iload_n 1, 1) := by decide +kernel
theorem d10_1 : decode jdk_52_method_15_code 1 = .ok (.aload_n 0, 1) := by decide +kernel
theorem d10_2 : decode jdk_52_method_15_code 2 = .ok (.arraylength, 1) := by decide +kernel
theorem d10_3 : decode jdk_52_method_15_code 3 = .ok (.isub, 1) := by decide +kernel
theorem d10_4 : decode jdk_52_method_15_code 4 = .ok (.bipush 31, 2) := by decide +kernel
theorem d10_6 : decode jdk_52_method_15_code 6 = .ok (.iushr, 1) := by decide +kernel
theorem d10_7 : decode jdk_52_method_15_code 7 = .ok (.i2b, 1) := by decide +kernel
theorem d10_8 : decode jdk_52_method_15_code 8 = .ok (.ireturn, 1) := by decide +kernel
theorem pn10 : plainFor (⟨"java/lang/StringUTF16", "coderFromArrayLen", "([BI)B"⟩ : MethodName) = true := plainFor_of_name (by first | (simp [plainName, overriddenIn]; done) | decide +kernel)
theorem ef_rm10_L1 (m : MethodId) (a1 : Addr) (k1 : ClassId) (vs : List Value) : entryFrame m #[(.ref a1), (.int (1 : Int32))] 2 = mkF m 0 #[.val (.ref a1), .val (.int (1 : Int32))] [] := by first | (simp [entryFrame, mkF, argsToLocals, Value.category]; done) | rfl
def Q10_L1 (Z : State) (a1 : Addr) (k1 : ClassId) (vs : List Value) (h0 : Heap) (n0 : Nat) (v : Option Value) (h : Heap) (L : List Loc) : Prop := v = some (.int (0 : Int32)) ∧ Fr n0 L ∧ (h = h0)
set_option maxRecDepth 65536 in
set_option maxHeartbeats 40000000 in
theorem rm10_L1 (l : Launch) (Z : State) (a0 : Array Value) (hw : ∀ d ∈ tables_1, d.before a0 Z = true) (ws : List Jvm.Cond) (a1 : Addr) (k1 : ClassId) (vs : List Value) (h0 : Heap) (n0 : Nat) (Z0 : n0 ≤ h0.size) (V1 : Arv Z h0 a1 k1 .byte (1 : Int32) vs (.int (0 : Int32))) :
  MetFree l (⟨"java/lang/StringUTF16", "coderFromArrayLen", "([BI)B"⟩ : MethodName) (head1 (Jvm.Cond.code (⟨"java/lang/StringUTF16", "coderFromArrayLen", "([BI)B"⟩ : MethodName) jdk_52_method_15_code 2 (some .byte) :: ws) ({ frames := 0, cells := 0, slots := 0, locals := 0 } : Room)) (fun a U => a = #[(.ref a1), (.int (1 : Int32))] ∧ Z.Warmed39 U.vm ∧ U.heap = h0) (fun _ _ _ _ _ => True) (fun _ U o U' => ∃ v L, o = .returned v ∧ Q10_L1 Z a1 k1 vs h0 n0 v U'.heap L ∧ FrameEnd U o U' L ({ frames := 0, cells := 0, slots := 0, locals := 0 } : Room).cells ({ frames := 0, cells := 0, slots := 0, locals := 0 } : Room).slots) := by
 refine MetFree.of_bodySF pn10 hisR ?_
 intro p e s m args below meth c s₁ Bd hml0 hP hK
 obtain ⟨rfl, hZ, hh⟩ := hP
 have hx := Bd.exec
 have hby := Bd.bytes
 have hml : c.maxLocals = 2 := hml0
 have hown : s.vm.findClass "java/lang/StringUTF16" = some m.cls := findClass_of_methodNamed Bd.named
 have hnm := (name_of_methodNamed Bd.named Bd.method).1
 have X0 : Stand p l e ({ frames := 0, cells := 0, slots := 0, locals := 0 } : Room) s m #[(.ref a1), (.int (1 : Int32))] below meth c s₁ [] 0 0 := Stand.of_body Bd
 have e0 : s₁.heap = h0 := by rw [← hh, Bd.state]; rfl
 have N0 := Fr.nil n0
 have p0 : Go p.tables e below (s₁.setTop (entryFrame m #[(.ref a1), (.int (1 : Int32))] 2)) (s₁.setTop (mkF m 0 #[.val (.ref a1), .val (.int (1 : Int32))] [])) := fun t_ k_ => castTop (ef_rm10_L1 m a1 k1 vs) k_
 have p101 : Go p.tables e below _ (s₁.setTop (mkF m 2 #[.val (.ref a1), .val (.int (1 : Int32))] [(.ref a1), (.int (1 : Int32))])) := fun t_ k_ => p0 t_ (by
  refine XS.iloadN X0.here hx rfl (hb hby d10_0) rfl ?_
  refine XS.aloadN X0.here hx rfl (hb hby d10_1) rfl rfl ?_
  exact k_)
 obtain ⟨cl102, Ar102, -, S102, Ng102, -, -⟩ := id V1
 have p103 : Go p.tables e below _ (s₁.setTop (mkF m 8 #[.val (.ref a1), .val (.int (1 : Int32))] [(.int (0 : Int32))])) := fun t_ k_ => p101 t_ (by
  refine X0.arraylength hx (by rw [e0]; exact Ar102.1) (State.isArrayOf_alike hZ.alike Ar102.2.1) (g := (mkF m 2 #[.val (.ref a1), .val (.int (1 : Int32))] [(.ref a1), (.int (1 : Int32))])) rfl rfl (hb hby d10_2) _ ?_
  rw [len_of S102 Ng102]
  show Steps p.tables e below (s₁.setTop (mkF m 3 #[.val (.ref a1), .val (.int (1 : Int32))] [(.int (1 : Int32)), (.int (1 : Int32))])) _
  refine XS.isub X0.here hx rfl (hb hby d10_3) rfl ?_
  refine XS.bipush X0.here hx rfl (hb hby d10_4) ?_
  refine XS.iushr X0.here hx rfl (hb hby d10_6) rfl ?_
  refine XS.i2b X0.here hx rfl (hb hby d10_7) rfl ?_
  exact k_)
 obtain ⟨fs, hr, hrun, hended, hW, hsame⟩ := X0.leave (v := some (.int (0 : Int32))) (fun h => by rw [Bd.returns] at h; cases h)
 refine ⟨_, _, p103 _ (retN X0 hx (t := .byte) Bd.returns (by simp) (hb hby d10_8) hr), hrun, hended, _, _, rfl, ?_, ⟨_, rfl⟩, hW, hsame.mono (by decide) (by decide)⟩
 show Q10_L1 Z a1 k1 vs h0 n0 _ s₁.heap _
 rw [e0]
 exact ⟨rfl, N0, rfl⟩
theorem d3_0 : decode jdk_42_method_149_code 0 = .ok (.aload_n 0, 1) := by decide +kernel
theorem d3_1 : decode jdk_42_method_149_code 1 = .ok (.invokespecial 1, 3) := by decide +kernel
theorem d3_4 : decode jdk_42_method_149_code 4 = .ok (.iload_n 3, 1) := by decide +kernel
theorem d3_5 : decode jdk_42_method_149_code 5 = .ok (.ifCond .ne 22, 3) := by decide +kernel
theorem d3_27 : decode jdk_42_method_149_code 27 = .ok (.getstatic 38, 3) := by decide +kernel
theorem d3_30 : decode jdk_42_method_149_code 30 = .ok (.ifCond .eq 28, 3) := by decide +kernel
theorem d3_33 : decode jdk_42_method_149_code 33 = .ok (.aload_n 1, 1) := by decide +kernel
theorem d3_34 : decode jdk_42_method_149_code 34 = .ok (.iload_n 2, 1) := by decide +kernel
theorem d3_35 : decode jdk_42_method_149_code 35 = .ok (.iload_n 3, 1) := by decide +kernel
theorem d3_36 : decode jdk_42_method_149_code 36 = .ok (.invokestatic 177, 3) := by decide +kernel
theorem d3_39 : decode jdk_42_method_149_code 39 = .ok (.astore 5, 2) := by decide +kernel
theorem d3_41 : decode jdk_42_method_149_code 41 = .ok (.aload_n 0, 1) := by decide +kernel
theorem d3_42 : decode jdk_42_method_149_code 42 = .ok (.aload 5, 2) := by decide +kernel
theorem d3_44 : decode jdk_42_method_149_code 44 = .ok (.iload_n 3, 1) := by decide +kernel
theorem d3_45 : decode jdk_42_method_149_code 45 = .ok (.invokestatic 47, 3) := by decide +kernel
theorem d3_48 : decode jdk_42_method_149_code 48 = .ok (.putfield 15, 3) := by decide +kernel
theorem d3_51 : decode jdk_42_method_149_code 51 = .ok (.aload_n 0, 1) := by decide +kernel
theorem d3_52 : decode jdk_42_method_149_code 52 = .ok (.aload 5, 2) := by decide +kernel
theorem d3_54 : decode jdk_42_method_149_code 54 = .ok (.putfield 9, 3) := by decide +kernel
theorem d3_57 : decode jdk_42_method_149_code 57 = .ok (.return_, 1) := by decide +kernel
theorem pd8 : parseMethodDescriptor "([CII)[B" = some ⟨[(.array .char), .int, .int], some (.array .byte)⟩ := by decide +kernel
theorem pd9 : parseMethodDescriptor "([BI)B" = some ⟨[(.array .byte), .int], some .byte⟩ := by decide +kernel
theorem pn3 : plainFor (⟨"java/lang/String", "<init>", "([CIILjava/lang/Void;)V"⟩ : MethodName) = true := plainFor_of_name (by first | (simp [plainName, overriddenIn]; done) | decide +kernel)
theorem ef_rm3_L1 (m : MethodId) (a1 : Addr) (a2 : Addr) (k1 : ClassId) (c0 : Int32) (cs1 : Int32) (fm : Value) : entryFrame m #[(.ref a1), (.ref a2), (.int (0 : Int32)), (.int (1 : Int32)), .null] 6 = mkF m 0 #[.val (.ref a1), .val (.ref a2), .val (.int (0 : Int32)), .val (.int (1 : Int32)), .val .null, .unset] [] := by first | (simp [entryFrame, mkF, argsToLocals, Value.category]; done) | rfl
def Q3_L1 (Z : State) (a1 : Addr) (a2 : Addr) (k1 : ClassId) (c0 : Int32) (cs1 : Int32) (fm : Value) (h0 : Heap) (n0 : Nat) (v : Option Value) (h : Heap) (L : List Loc) : Prop := ∃ (b : Addr) (kb : ClassId), v = none ∧ Fr n0 L ∧ (Keep h0 h [a1]) ∧ (Exa Z h a1 "java/lang/String") ∧ (Fld Z h a1 "java/lang/String" "coder" "B" (.int (0 : Int32))) ∧ (Fld Z h a1 "java/lang/String" "value" "[B" (.ref b)) ∧ (n0 ≤ b) ∧ (h0.size ≤ b) ∧ (Arv Z h b kb .byte (1 : Int32) [(.int (own_xl c0))] (.int (0 : Int32))) ∧ (a1 ≠ b)
set_option maxRecDepth 65536 in
set_option maxHeartbeats 40000000 in
theorem rm3_L1 (l : Launch) (Z : State) (a0 : Array Value) (hw : ∀ d ∈ tables_1, d.before a0 Z = true) (ws : List Jvm.Cond) (a1 : Addr) (a2 : Addr) (k1 : ClassId) (c0 : Int32) (cs1 : Int32) (fm : Value) (h0 : Heap) (n0 : Nat) (Z0 : n0 ≤ h0.size) (O1 : Old Z n0 h0) (G : own_G Z cs1 fm) (F1 : Fld Z h0 a1 "java/lang/String" "coder" "B" (.int (0 : Int32))) (F2 : Fld Z h0 a1 "java/lang/String" "value" "[B" .null) (E1 : Exa Z h0 a1 "java/lang/String") (V1 : Arv Z h0 a2 k1 .char (1 : Int32) [(.int c0)] (.int (0 : Int32))) (ne : a1 ≠ a2) (g1 : n0 ≤ a1) (l0 : ¬ ((255 : Int32) < c0)) :
  MetFree l (⟨"java/lang/String", "<init>", "([CIILjava/lang/Void;)V"⟩ : MethodName) (head1 (Jvm.Cond.code (⟨"java/lang/String", "<init>", "([CIILjava/lang/Void;)V"⟩ : MethodName) jdk_42_method_149_code 6 none :: ws) ({ frames := 2, cells := 1, slots := 1, locals := 35 } : Room)) (fun a U => a = #[(.ref a1), (.ref a2), (.int (0 : Int32)), (.int (1 : Int32)), .null] ∧ Z.Warmed39 U.vm ∧ U.heap = h0) (fun _ _ _ _ _ => True) (fun _ U o U' => ∃ v L, o = .returned v ∧ Q3_L1 Z a1 a2 k1 c0 cs1 fm h0 n0 v U'.heap L ∧ FrameEnd U o U' L ({ frames := 2, cells := 1, slots := 1, locals := 35 } : Room).cells ({ frames := 2, cells := 1, slots := 1, locals := 35 } : Room).slots) := by
 refine MetFree.of_bodySF pn3 hisR ?_
 intro p e s m args below meth c s₁ Bd hml0 hP hK
 obtain ⟨rfl, hZ, hh⟩ := hP
 have hx := Bd.exec
 have hby := Bd.bytes
 have hml : c.maxLocals = 6 := hml0
 have hown : s.vm.findClass "java/lang/String" = some m.cls := findClass_of_methodNamed Bd.named
 have hnm := (name_of_methodNamed Bd.named Bd.method).1
 have X0 : Stand p l e ({ frames := 2, cells := 1, slots := 1, locals := 35 } : Room) s m #[(.ref a1), (.ref a2), (.int (0 : Int32)), (.int (1 : Int32)), .null] below meth c s₁ [] 0 0 := Stand.of_body Bd
 have e0 : s₁.heap = h0 := by rw [← hh, Bd.state]; rfl
 have N0 := Fr.nil n0
 have p0 : Go p.tables e below (s₁.setTop (entryFrame m #[(.ref a1), (.ref a2), (.int (0 : Int32)), (.int (1 : Int32)), .null] 6)) (s₁.setTop (mkF m 0 #[.val (.ref a1), .val (.ref a2), .val (.int (0 : Int32)), .val (.int (1 : Int32)), .val .null, .unset] [])) := fun t_ k_ => castTop (ef_rm3_L1 m a1 a2 k1 c0 cs1 fm) k_
 have p101 : Go p.tables e below _ (s₁.setTop (mkF m 1 #[.val (.ref a1), .val (.ref a2), .val (.int (0 : Int32)), .val (.int (1 : Int32)), .val .null, .unset] [(.ref a1)])) := fun t_ k_ => p0 t_ (by
  refine XS.aloadN X0.here hx rfl (hb hby d3_0) rfl rfl ?_
  exact k_)
 obtain ⟨T102, X102, e102, st102⟩ := initO X0 hx hZ hown (own_w hw 16 rfl) (own_w hw 17 rfl) (own_w hw 18 rfl) e0 (g := (mkF m 1 #[.val (.ref a1), .val (.ref a2), .val (.int (0 : Int32)), .val (.int (1 : Int32)), .val .null, .unset] [(.ref a1)])) rfl (by rw [hml]; rfl) rfl (hb hby d3_1) (by decide) (W := 0) (by show 2 * 0 + _ ≤ _; exact Nat.le_of_eq rfl) (by decide)
 have p103 : Go p.tables e below _ (T102.setTop (mkF m 27 #[.val (.ref a1), .val (.ref a2), .val (.int (0 : Int32)), .val (.int (1 : Int32)), .val .null, .unset] [])) := fun t_ k_ => (gc p101 st102) t_ (by
  refine XS.iloadN X102.here hx rfl (hb hby d3_4) rfl ?_
  refine XS.ifYes X102.here hx rfl (pc0 := 5) (pc' := 27) rfl (hb hby d3_5) rfl ((if0 _ _).trans (feq (by decide : ¬ ((1 : Int32) = (0 : Int32)))).2) (by decide) (by decide) ?_
  exact k_)
 obtain ⟨T104, X104, e104, st104⟩ := getS2 X102 hx hZ hown (host := "") (Or.inl (own_w hw 41 rfl)) Via.refl e102 (G.1.ext O1.2) (g := (mkF m 27 #[.val (.ref a1), .val (.ref a2), .val (.int (0 : Int32)), .val (.int (1 : Int32)), .val .null, .unset] [])) rfl (hb hby d3_27)
 have c105 : ¬ (cs1 = (0 : Int32)) := G.2.1
 have p106 : Go p.tables e below _ (T104.setTop (mkF m 36 #[.val (.ref a1), .val (.ref a2), .val (.int (0 : Int32)), .val (.int (1 : Int32)), .val .null, .unset] [(.int (1 : Int32)), (.int (0 : Int32)), (.ref a2)])) := fun t_ k_ => (gc p103 st104) t_ (by
  refine XS.ifNo X104.here hx rfl (hb hby d3_30) rfl ((if0 _ _).trans (feq c105).1) ?_
  refine XS.aloadN X104.here hx rfl (hb hby d3_33) rfl rfl ?_
  refine XS.iloadN X104.here hx rfl (hb hby d3_34) rfl ?_
  refine XS.iloadN X104.here hx rfl (hb hby d3_35) rfl ?_
  exact k_)
 obtain ⟨_, _, ⟨T107, L107, k107, n107⟩, -, X107, ⟨Lc107, hQ107, l107, y107, z107⟩, st107⟩ := Jvm.LawKit.callS X104 hx (y := (⟨"java/lang/StringUTF16", "compress", "([CII)[B"⟩ : MethodName)) hown (mvT hZ (own_w hw 42 rfl)) (mvT hZ (own_w hw 43 rfl)) (mvT hZ (own_w hw 44 rfl)) (mvT hZ (own_w hw 45 rfl)) (by decide) (backOf (W := 0) (rm8_L1 l Z a0 hw [] a2 k1 c0 h0 n0 (Nat.le_trans Z0 (Keep.refl h0 [a1]).1) V1 l0) hZ (own_w hw 45 rfl) (own_w hw 44 rfl) (by decide) (by decide)) (g := (mkF m 36 #[.val (.ref a1), .val (.ref a2), .val (.int (0 : Int32)), .val (.int (1 : Int32)), .val .null, .unset] [(.int (1 : Int32)), (.int (0 : Int32)), (.ref a2)])) rfl (by rw [hml]; rfl) (argsL := [(.ref a2), (.int (0 : Int32)), (.int (1 : Int32))]) (rest := []) (lenOf pd8 rfl) rfl (by show 2 * 0 + _ ≤ _; exact Nat.le_of_eq rfl) (hb hby d3_36) (fun _ _ => ⟨rfl, e104, (by decide : 0 + 1 ≤ _), (by decide : 0 + 1 ≤ _)⟩)
 dsimp only [Pt.U, Pt.locs, Pt.cells, Pt.slots] at X107 l107 y107 z107 st107 hQ107
 subst l107 y107 z107
 obtain ⟨x108, x109, rfl, N107q, q107_K, q107_g, q107_z, q107_V⟩ := hQ107
 have N107 := Fr.app N0 N107q
 have K110 : Keep h0 T107.heap [a1] := (Keep.refl h0 [a1]).trans q107_K all0
 have ne_a1_x108 : a1 ≠ x108 := Nat.ne_of_lt (Nat.lt_of_lt_of_le E1.lt q107_z)
 have ne_a2_x108 : a2 ≠ x108 := Nat.ne_of_lt (Nat.lt_of_lt_of_le V1.lt q107_z)
 have p111 : Go p.tables e below _ (T107.setTop (mkF m 45 #[.val (.ref a1), .val (.ref a2), .val (.int (0 : Int32)), .val (.int (1 : Int32)), .val .null, .val (.ref x108)] [(.int (1 : Int32)), (.ref x108), (.ref a1)])) := fun t_ k_ => (gc p106 st107) t_ (by
  refine XS.astore X107.here hx rfl (hb hby d3_39) rfl rfl (l' := #[.val (.ref a1), .val (.ref a2), .val (.int (0 : Int32)), .val (.int (1 : Int32)), .val .null, .val (.ref x108)]) rfl ?_
  refine XS.aloadN X107.here hx rfl (hb hby d3_41) rfl rfl ?_
  refine XS.aload X107.here hx rfl (hb hby d3_42) rfl rfl ?_
  refine XS.iloadN X107.here hx rfl (hb hby d3_44) rfl ?_
  exact k_)
 obtain ⟨_, _, ⟨T112, L112, k112, n112⟩, -, X112, ⟨Lc112, hQ112, l112, y112, z112⟩, st112⟩ := Jvm.LawKit.callS X107 hx (y := (⟨"java/lang/StringUTF16", "coderFromArrayLen", "([BI)B"⟩ : MethodName)) hown (mvT hZ (own_w hw 49 rfl)) (mvT hZ (own_w hw 50 rfl)) (mvT hZ (own_w hw 44 rfl)) (mvT hZ (own_w hw 51 rfl)) (by decide) (backOf (W := 1) (rm10_L1 l Z a0 hw [] x108 x109 [(.int (own_xl c0))] T107.heap n0 (Nat.le_trans Z0 K110.1) q107_V) hZ (own_w hw 51 rfl) (own_w hw 44 rfl) (by decide) (by decide)) (g := (mkF m 45 #[.val (.ref a1), .val (.ref a2), .val (.int (0 : Int32)), .val (.int (1 : Int32)), .val .null, .val (.ref x108)] [(.int (1 : Int32)), (.ref x108), (.ref a1)])) rfl (by rw [hml]; rfl) (argsL := [(.ref x108), (.int (1 : Int32))]) (rest := [(.ref a1)]) (lenOf pd9 rfl) rfl (by show 2 * 0 + _ ≤ _; exact Nat.le_of_eq rfl) (hb hby d3_45) (fun _ _ => ⟨rfl, rfl, (by decide : 1 + 0 ≤ _), (by decide : 1 + 0 ≤ _)⟩)
 dsimp only [Pt.U, Pt.locs, Pt.cells, Pt.slots] at X112 l112 y112 z112 st112 hQ112
 subst l112 y112 z112
 obtain ⟨rfl, N112q, q112_hh⟩ := hQ112
 have N112 := Fr.app N107 N112q
 have f113 := (F1.keep q107_K nin0)
 have f114 := (E1.keep q107_K)
 obtain ⟨T115, h115, X115, e115, W115, st115⟩ := putFN X112 hx hZ hown (own_w hw 26 rfl) Via.refl q112_hh f113 f114 (Or.inr ⟨(own_w hw 22 rfl), rfl, hnm⟩) (own_w hw 7 rfl) (ty := .byte) (v' := (.int (0 : Int32))) (by decide) rfl (by decide) (g := (mkF m 48 #[.val (.ref a1), .val (.ref a2), .val (.int (0 : Int32)), .val (.int (1 : Int32)), .val .null, .val (.ref x108)] [(.int (0 : Int32)), (.ref a1)])) rfl rfl (hb hby d3_48)
 have K116 : Keep h0 h115 [a1] := K110.wr W115 (Or.inl (List.mem_of_getElem? (i := 0) rfl))
 have N115 := Fr.snoc X115 N112 g1
 have F115 : Fld Z h115 a1 "java/lang/String" "coder" "B" (.int (0 : Int32)) := f113.same W115
 have p117 : Go p.tables e below _ (T115.setTop (mkF m 54 #[.val (.ref a1), .val (.ref a2), .val (.int (0 : Int32)), .val (.int (1 : Int32)), .val .null, .val (.ref x108)] [(.ref x108), (.ref a1)])) := fun t_ k_ => (gc (gc p111 st112) st115) t_ (by
  refine XS.aloadN X115.here hx rfl (hb hby d3_51) rfl rfl ?_
  refine XS.aload X115.here hx rfl (hb hby d3_52) rfl rfl ?_
  exact k_)
 have f118 := ((F2.keep q107_K nin0).other W115 (Or.inr (slot_ne (Or.inr (own_w hw 21 rfl)) (Or.inr (own_w hw 22 rfl)) (by decide) (t := (.array .byte)) (t' := .byte) (by decide) (by decide))))
 have f119 := (f114.wr W115)
 obtain ⟨T120, h120, X120, e120, W120, st120⟩ := putF X115 hx hZ hown (host := "") (Or.inl (own_w hw 25 rfl)) Via.refl e115 f118 f119 (Or.inr ⟨(own_w hw 21 rfl), rfl, hnm⟩) (own_w hw 7 rfl) (ty := (.array .byte)) (by decide) rfl rfl (g := (mkF m 54 #[.val (.ref a1), .val (.ref a2), .val (.int (0 : Int32)), .val (.int (1 : Int32)), .val .null, .val (.ref x108)] [(.ref x108), (.ref a1)])) rfl rfl (hb hby d3_54)
 have K121 : Keep h0 h120 [a1] := K116.wr W120 (Or.inl (List.mem_of_getElem? (i := 0) rfl))
 have N120 := Fr.snoc X120 N115 g1
 have F120 : Fld Z h120 a1 "java/lang/String" "value" "[B" (.ref x108) := f118.same W120
 have f122 := (f119.wr W120)
 have f123 := (F115.other W120 (Or.inr (slot_ne (Or.inr (own_w hw 22 rfl)) (Or.inr (own_w hw 21 rfl)) (by decide) (t := .byte) (t' := (.array .byte)) (by decide) (by decide))))
 have f124 := ((q107_V.other W115 (Ne.symm ne_a1_x108)).other W120 (Ne.symm ne_a1_x108))
 obtain ⟨fs, hr, hrun, hended, hW, hsame⟩ := X120.leave (v := none) (fun _ => rfl)
 refine ⟨_, _, (gc p117 st120) _ (X120.returnOut hx Bd.returns (hb hby d3_57) hr), hrun, hended, _, _, rfl, ?_, ⟨_, rfl⟩, hW, hsame.mono (by decide) (by decide)⟩
 show Q3_L1 Z a1 a2 k1 c0 cs1 fm h0 n0 _ T120.heap _
 rw [e120]
 exact ⟨x108, x109, rfl, N120, K121, f122, f123, F120, q107_g, (Nat.le_trans (Keep.refl h0 [a1]).1 q107_z), f124, ne_a1_x108⟩
theorem d2_0 : decode jdk_42_method_3_code 0 = .ok (.aload_n 0, 1) := by decide +kernel
theorem d2_1 : decode jdk_42_method_3_code 1 = .ok (.aload_n 1, 1) := by decide +kernel
theorem d2_2 : decode jdk_42_method_3_code 2 = .ok (.iconst 0, 1) := by decide +kernel
theorem d2_3 : decode jdk_42_method_3_code 3 = .ok (.aload_n 1, 1) := by decide +kernel
theorem d2_4 : decode jdk_42_method_3_code 4 = .ok (.arraylength, 1) := by decide +kernel
theorem d2_5 : decode jdk_42_method_3_code 5 = .ok (.aconst_null, 1) := by decide +kernel
theorem d2_6 : decode jdk_42_method_3_code 6 = .ok (.invokespecial 27, 3) := by decide +kernel
theorem d2_9 : decode jdk_42_method_3_code 9 = .ok (.return_, 1) := by decide +kernel
theorem pd10 : parseMethodDescriptor "([CIILjava/lang/Void;)V" = some ⟨[(.array .char), .int, .int, (.object "java/lang/Void")], none⟩ := by decide +kernel
theorem pn2 : plainFor (⟨"java/lang/String", "<init>", "([C)V"⟩ : MethodName) = true := plainFor_of_name (by first | (simp [plainName, overriddenIn]; done) | decide +kernel)
theorem ef_rm2_L1 (m : MethodId) (a1 : Addr) (a2 : Addr) (k1 : ClassId) (c0 : Int32) (cs1 : Int32) (fm : Value) : entryFrame m #[(.ref a1), (.ref a2)] 2 = mkF m 0 #[.val (.ref a1), .val (.ref a2)] [] := by first | (simp [entryFrame, mkF, argsToLocals, Value.category]; done) | rfl
def Q2_L1 (Z : State) (a1 : Addr) (a2 : Addr) (k1 : ClassId) (c0 : Int32) (cs1 : Int32) (fm : Value) (h0 : Heap) (n0 : Nat) (v : Option Value) (h : Heap) (L : List Loc) : Prop := ∃ (b : Addr) (kb : ClassId), v = none ∧ Fr n0 L ∧ (Keep h0 h [a1]) ∧ (Exa Z h a1 "java/lang/String") ∧ (Fld Z h a1 "java/lang/String" "coder" "B" (.int (0 : Int32))) ∧ (Fld Z h a1 "java/lang/String" "value" "[B" (.ref b)) ∧ (n0 ≤ b) ∧ (h0.size ≤ b) ∧ (Arv Z h b kb .byte (1 : Int32) [(.int (own_xl c0))] (.int (0 : Int32))) ∧ (a1 ≠ b)
set_option maxRecDepth 65536 in
set_option maxHeartbeats 40000000 in
theorem rm2_L1 (l : Launch) (Z : State) (a0 : Array Value) (hw : ∀ d ∈ tables_1, d.before a0 Z = true) (ws : List Jvm.Cond) (a1 : Addr) (a2 : Addr) (k1 : ClassId) (c0 : Int32) (cs1 : Int32) (fm : Value) (h0 : Heap) (n0 : Nat) (Z0 : n0 ≤ h0.size) (O1 : Old Z n0 h0) (G : own_G Z cs1 fm) (F1 : Fld Z h0 a1 "java/lang/String" "coder" "B" (.int (0 : Int32))) (F2 : Fld Z h0 a1 "java/lang/String" "value" "[B" .null) (E1 : Exa Z h0 a1 "java/lang/String") (V1 : Arv Z h0 a2 k1 .char (1 : Int32) [(.int c0)] (.int (0 : Int32))) (ne : a1 ≠ a2) (g1 : n0 ≤ a1) (l0 : ¬ ((255 : Int32) < c0)) :
  MetFree l (⟨"java/lang/String", "<init>", "([C)V"⟩ : MethodName) (head1 (Jvm.Cond.code (⟨"java/lang/String", "<init>", "([C)V"⟩ : MethodName) jdk_42_method_3_code 2 none :: ws) ({ frames := 3, cells := 1, slots := 1, locals := 52 } : Room)) (fun a U => a = #[(.ref a1), (.ref a2)] ∧ Z.Warmed39 U.vm ∧ U.heap = h0) (fun _ _ _ _ _ => True) (fun _ U o U' => ∃ v L, o = .returned v ∧ Q2_L1 Z a1 a2 k1 c0 cs1 fm h0 n0 v U'.heap L ∧ FrameEnd U o U' L ({ frames := 3, cells := 1, slots := 1, locals := 52 } : Room).cells ({ frames := 3, cells := 1, slots := 1, locals := 52 } : Room).slots) := by
 refine MetFree.of_bodySF pn2 hisR ?_
 intro p e s m args below meth c s₁ Bd hml0 hP hK
 obtain ⟨rfl, hZ, hh⟩ := hP
 have hx := Bd.exec
 have hby := Bd.bytes
 have hml : c.maxLocals = 2 := hml0
 have hown : s.vm.findClass "java/lang/String" = some m.cls := findClass_of_methodNamed Bd.named
 have hnm := (name_of_methodNamed Bd.named Bd.method).1
 have X0 : Stand p l e ({ frames := 3, cells := 1, slots := 1, locals := 52 } : Room) s m #[(.ref a1), (.ref a2)] below meth c s₁ [] 0 0 := Stand.of_body Bd
 have e0 : s₁.heap = h0 := by rw [← hh, Bd.state]; rfl
 have N0 := Fr.nil n0
 have p0 : Go p.tables e below (s₁.setTop (entryFrame m #[(.ref a1), (.ref a2)] 2)) (s₁.setTop (mkF m 0 #[.val (.ref a1), .val (.ref a2)] [])) := fun t_ k_ => castTop (ef_rm2_L1 m a1 a2 k1 c0 cs1 fm) k_
 have p101 : Go p.tables e below _ (s₁.setTop (mkF m 4 #[.val (.ref a1), .val (.ref a2)] [(.ref a2), (.int (0 : Int32)), (.ref a2), (.ref a1)])) := fun t_ k_ => p0 t_ (by
  refine XS.aloadN X0.here hx rfl (hb hby d2_0) rfl rfl ?_
  refine XS.aloadN X0.here hx rfl (hb hby d2_1) rfl rfl ?_
  refine XS.iconst X0.here hx rfl (hb hby d2_2) ?_
  refine XS.aloadN X0.here hx rfl (hb hby d2_3) rfl rfl ?_
  exact k_)
 obtain ⟨cl102, Ar102, -, S102, Ng102, -, -⟩ := id V1
 have p103 : Go p.tables e below _ (s₁.setTop (mkF m 6 #[.val (.ref a1), .val (.ref a2)] [.null, (.int (1 : Int32)), (.int (0 : Int32)), (.ref a2), (.ref a1)])) := fun t_ k_ => p101 t_ (by
  refine X0.arraylength hx (by rw [e0]; exact Ar102.1) (State.isArrayOf_alike hZ.alike Ar102.2.1) (g := (mkF m 4 #[.val (.ref a1), .val (.ref a2)] [(.ref a2), (.int (0 : Int32)), (.ref a2), (.ref a1)])) rfl rfl (hb hby d2_4) _ ?_
  rw [len_of S102 Ng102]
  show Steps p.tables e below (s₁.setTop (mkF m 5 #[.val (.ref a1), .val (.ref a2)] [(.int (1 : Int32)), (.int (0 : Int32)), (.ref a2), (.ref a1)])) _
  refine XS.aconstNull X0.here hx rfl (hb hby d2_5) ?_
  exact k_)
 obtain ⟨_, _, ⟨T104, L104, k104, n104⟩, -, X104, ⟨Lc104, hQ104, l104, y104, z104⟩, st104⟩ := X0.specialBack hx (y := (⟨"java/lang/String", "<init>", "([CIILjava/lang/Void;)V"⟩ : MethodName)) rfl hown (mvT hZ (own_w hw 12 rfl)) (mvT hZ (own_w hw 13 rfl)) (mvT hZ (own_w hw 15 rfl)) (by decide) (backOf (W := 0) (rm3_L1 l Z a0 hw [] a1 a2 k1 c0 cs1 fm h0 n0 (Nat.le_trans Z0 (Keep.refl h0 [a1]).1) O1 G F1 F2 E1 V1 ne g1 l0) hZ (own_w hw 15 rfl) (own_w hw 8 rfl) (by decide) (by decide)) (g := (mkF m 6 #[.val (.ref a1), .val (.ref a2)] [.null, (.int (1 : Int32)), (.int (0 : Int32)), (.ref a2), (.ref a1)])) rfl (by rw [hml]; rfl) (Steps.refl _) (a := a1) (argsL := [(.ref a2), (.int (0 : Int32)), (.int (1 : Int32)), .null]) (rest := []) (lenOf pd10 rfl) rfl (by show 2 * 0 + _ ≤ _; exact Nat.le_of_eq rfl) (hb hby d2_6) (fun _ _ => ⟨rfl, e0, (by decide : 0 + 1 ≤ _), (by decide : 0 + 1 ≤ _)⟩)
 dsimp only [Pt.U, Pt.locs, Pt.cells, Pt.slots] at X104 l104 y104 z104 st104 hQ104
 subst l104 y104 z104
 obtain ⟨x105, x106, rfl, N104q, q104_K, q104_E, q104_c, q104_v, q104_g, q104_z, q104_V, q104_n⟩ := hQ104
 have N104 := Fr.app N0 N104q
 have K107 : Keep h0 T104.heap [a1] := (Keep.refl h0 [a1]).trans q104_K (allS (Or.inl (List.mem_of_getElem? (i := 0) rfl)) all0)
 have ne_a1_x105 : a1 ≠ x105 := Nat.ne_of_lt (Nat.lt_of_lt_of_le E1.lt q104_z)
 have ne_a2_x105 : a2 ≠ x105 := Nat.ne_of_lt (Nat.lt_of_lt_of_le V1.lt q104_z)
 obtain ⟨fs, hr, hrun, hended, hW, hsame⟩ := X104.leave (v := none) (fun _ => rfl)
 refine ⟨_, _, (gcT p103 st104) _ (X104.returnOut hx Bd.returns (hb hby d2_9) hr), hrun, hended, _, _, rfl, ?_, ⟨_, rfl⟩, hW, hsame.mono (by decide) (by decide)⟩
 show Q2_L1 Z a1 a2 k1 c0 cs1 fm h0 n0 _ T104.heap _
 exact ⟨x105, x106, rfl, N104, K107, q104_E, q104_c, q104_v, q104_g, (Nat.le_trans (Keep.refl h0 [a1]).1 q104_z), q104_V, q104_n⟩
theorem d20_0 : decode jdk_52_method_3_code 0 = .ok (.iload_n 0, 1) := by decide +kernel
theorem d20_1 : decode jdk_52_method_3_code 1 = .ok (.ifCond .ge 11, 3) := by decide +kernel
theorem d20_12 : decode jdk_52_method_3_code 12 = .ok (.iload_n 0, 1) := by decide +kernel
theorem d20_13 : decode jdk_52_method_3_code 13 = .ok (.ldc 20, 2) := by decide +kernel
theorem d20_15 : decode jdk_52_method_3_code 15 = .ok (.if_icmp .lt 40, 3) := by decide +kernel
theorem d20_55 : decode jdk_52_method_3_code 55 = .ok (.iload_n 0, 1) := by decide +kernel
theorem d20_56 : decode jdk_52_method_3_code 56 = .ok (.iconst 1, 1) := by decide +kernel
theorem d20_57 : decode jdk_52_method_3_code 57 = .ok (.ishl, 1) := by decide +kernel
theorem d20_58 : decode jdk_52_method_3_code 58 = .ok (.ireturn, 1) := by decide +kernel
theorem pn20 : plainFor (⟨"java/lang/StringUTF16", "newBytesLength", "(I)I"⟩ : MethodName) = true := plainFor_of_name (by first | (simp [plainName, overriddenIn]; done) | decide +kernel)
theorem ef_rm20_U1 (m : MethodId)  : entryFrame m #[(.int (1 : Int32))] 1 = mkF m 0 #[.val (.int (1 : Int32))] [] := by first | (simp [entryFrame, mkF, argsToLocals, Value.category]; done) | rfl
def Q20_U1 (Z : State)  (h0 : Heap) (n0 : Nat) (v : Option Value) (h : Heap) (L : List Loc) : Prop := v = some (.int (2 : Int32)) ∧ Fr n0 L ∧ (h = h0)
set_option maxRecDepth 65536 in
set_option maxHeartbeats 40000000 in
theorem rm20_U1 (l : Launch) (Z : State) (a0 : Array Value) (hw : ∀ d ∈ tables_1, d.before a0 Z = true) (ws : List Jvm.Cond)  (h0 : Heap) (n0 : Nat) (Z0 : n0 ≤ h0.size) :
  MetFree l (⟨"java/lang/StringUTF16", "newBytesLength", "(I)I"⟩ : MethodName) (head1 (Jvm.Cond.code (⟨"java/lang/StringUTF16", "newBytesLength", "(I)I"⟩ : MethodName) jdk_52_method_3_code 1 (some .int) :: ws) ({ frames := 0, cells := 0, slots := 0, locals := 0 } : Room)) (fun a U => a = #[(.int (1 : Int32))] ∧ Z.Warmed39 U.vm ∧ U.heap = h0) (fun _ _ _ _ _ => True) (fun _ U o U' => ∃ v L, o = .returned v ∧ Q20_U1 Z  h0 n0 v U'.heap L ∧ FrameEnd U o U' L ({ frames := 0, cells := 0, slots := 0, locals := 0 } : Room).cells ({ frames := 0, cells := 0, slots := 0, locals := 0 } : Room).slots) := by
 refine MetFree.of_bodySF pn20 hisR ?_
 intro p e s m args below meth c s₁ Bd hml0 hP hK
 obtain ⟨rfl, hZ, hh⟩ := hP
 have hx := Bd.exec
 have hby := Bd.bytes
 have hml : c.maxLocals = 1 := hml0
 have hown : s.vm.findClass "java/lang/StringUTF16" = some m.cls := findClass_of_methodNamed Bd.named
 have hnm := (name_of_methodNamed Bd.named Bd.method).1
 have X0 : Stand p l e ({ frames := 0, cells := 0, slots := 0, locals := 0 } : Room) s m #[(.int (1 : Int32))] below meth c s₁ [] 0 0 := Stand.of_body Bd
 have e0 : s₁.heap = h0 := by rw [← hh, Bd.state]; rfl
 have N0 := Fr.nil n0
 have p0 : Go p.tables e below (s₁.setTop (entryFrame m #[(.int (1 : Int32))] 1)) (s₁.setTop (mkF m 0 #[.val (.int (1 : Int32))] [])) := fun t_ k_ => castTop (ef_rm20_U1 m ) k_
 have p101 : Go p.tables e below _ (s₁.setTop (mkF m 58 #[.val (.int (1 : Int32))] [(.int (2 : Int32))])) := fun t_ k_ => p0 t_ (by
  refine XS.iloadN X0.here hx rfl (hb hby d20_0) rfl ?_
  refine XS.ifYes X0.here hx rfl (pc0 := 1) (pc' := 12) rfl (hb hby d20_1) rfl ((if0 _ _).trans (flt (by decide : ¬ ((1 : Int32) < (0 : Int32)))).2.1) (by decide) (by decide) ?_
  refine XS.iloadN X0.here hx rfl (hb hby d20_12) rfl ?_
  refine X0.ldcInt hx hown (mvT hZ (own_w hw 91 rfl)) (g := (mkF m 13 #[.val (.int (1 : Int32))] [(.int (1 : Int32))])) rfl (hb hby d20_13) _ ?_
  refine XS.icmpYes X0.here hx rfl (pc0 := 15) (pc' := 55) rfl (hb hby d20_15) rfl (tlt (by decide : ((1 : Int32) < (1073741823 : Int32)))).1 (by decide) (by decide) ?_
  refine XS.iloadN X0.here hx rfl (hb hby d20_55) rfl ?_
  refine XS.iconst X0.here hx rfl (hb hby d20_56) ?_
  refine XS.ishl X0.here hx rfl (hb hby d20_57) rfl ?_
  exact k_)
 obtain ⟨fs, hr, hrun, hended, hW, hsame⟩ := X0.leave (v := some (.int (2 : Int32))) (fun h => by rw [Bd.returns] at h; cases h)
 refine ⟨_, _, p101 _ (retI X0 hx Bd.returns (hb hby d20_58) hr), hrun, hended, _, _, rfl, ?_, ⟨_, rfl⟩, hW, hsame.mono (by decide) (by decide)⟩
 show Q20_U1 Z  h0 n0 _ s₁.heap _
 rw [e0]
 exact ⟨rfl, N0, rfl⟩
theorem d19_0 : decode jdk_52_method_2_code 0 = .ok (.iload_n 0, 1) := by decide +kernel
theorem d19_1 : decode jdk_52_method_2_code 1 = .ok (.invokestatic 11, 3) := by decide +kernel
theorem d19_4 : decode jdk_52_method_2_code 4 = .ok (.newarray .byte, 2) := by decide +kernel
theorem d19_6 : decode jdk_52_method_2_code 6 = .ok (.areturn, 1) := by decide +kernel
theorem pd11 : parseMethodDescriptor "(I)I" = some ⟨[.int], some .int⟩ := by decide +kernel
theorem pn19 : plainFor (⟨"java/lang/StringUTF16", "newBytesFor", "(I)[B"⟩ : MethodName) = true := plainFor_of_name (by first | (simp [plainName, overriddenIn]; done) | decide +kernel)
theorem ef_rm19_U1 (m : MethodId)  : entryFrame m #[(.int (1 : Int32))] 1 = mkF m 0 #[.val (.int (1 : Int32))] [] := by first | (simp [entryFrame, mkF, argsToLocals, Value.category]; done) | rfl
def Q19_U1 (Z : State)  (h0 : Heap) (n0 : Nat) (v : Option Value) (h : Heap) (L : List Loc) : Prop := ∃ (b : Addr) (kb : ClassId), v = some (.ref b) ∧ Fr n0 L ∧ (Keep h0 h []) ∧ (n0 ≤ b) ∧ (h0.size ≤ b) ∧ (Arv Z h b kb .byte (2 : Int32) [(.int (0 : Int32)), (.int (0 : Int32))] (.int (0 : Int32)))
set_option maxRecDepth 65536 in
set_option maxHeartbeats 40000000 in
theorem rm19_U1 (l : Launch) (Z : State) (a0 : Array Value) (hw : ∀ d ∈ tables_1, d.before a0 Z = true) (ws : List Jvm.Cond)  (h0 : Heap) (n0 : Nat) (Z0 : n0 ≤ h0.size) :
  MetFree l (⟨"java/lang/StringUTF16", "newBytesFor", "(I)[B"⟩ : MethodName) (head1 (Jvm.Cond.code (⟨"java/lang/StringUTF16", "newBytesFor", "(I)[B"⟩ : MethodName) jdk_52_method_2_code 1 (some (.array .byte)) :: ws) ({ frames := 1, cells := 1, slots := 2, locals := 12 } : Room)) (fun a U => a = #[(.int (1 : Int32))] ∧ Z.Warmed39 U.vm ∧ U.heap = h0) (fun _ _ _ _ _ => True) (fun _ U o U' => ∃ v L, o = .returned v ∧ Q19_U1 Z  h0 n0 v U'.heap L ∧ FrameEnd U o U' L ({ frames := 1, cells := 1, slots := 2, locals := 12 } : Room).cells ({ frames := 1, cells := 1, slots := 2, locals := 12 } : Room).slots) := by
 refine MetFree.of_bodySF pn19 hisR ?_
 intro p e s m args below meth c s₁ Bd hml0 hP hK
 obtain ⟨rfl, hZ, hh⟩ := hP
 have hx := Bd.exec
 have hby := Bd.bytes
 have hml : c.maxLocals = 1 := hml0
 have hown : s.vm.findClass "java/lang/StringUTF16" = some m.cls := findClass_of_methodNamed Bd.named
 have hnm := (name_of_methodNamed Bd.named Bd.method).1
 have X0 : Stand p l e ({ frames := 1, cells := 1, slots := 2, locals := 12 } : Room) s m #[(.int (1 : Int32))] below meth c s₁ [] 0 0 := Stand.of_body Bd
 have e0 : s₁.heap = h0 := by rw [← hh, Bd.state]; rfl
 have N0 := Fr.nil n0
 have p0 : Go p.tables e below (s₁.setTop (entryFrame m #[(.int (1 : Int32))] 1)) (s₁.setTop (mkF m 0 #[.val (.int (1 : Int32))] [])) := fun t_ k_ => castTop (ef_rm19_U1 m ) k_
 have p101 : Go p.tables e below _ (s₁.setTop (mkF m 1 #[.val (.int (1 : Int32))] [(.int (1 : Int32))])) := fun t_ k_ => p0 t_ (by
  refine XS.iloadN X0.here hx rfl (hb hby d19_0) rfl ?_
  exact k_)
 obtain ⟨_, _, ⟨T102, L102, k102, n102⟩, -, X102, ⟨Lc102, hQ102, l102, y102, z102⟩, st102⟩ := Jvm.LawKit.callS X0 hx (y := (⟨"java/lang/StringUTF16", "newBytesLength", "(I)I"⟩ : MethodName)) hown (mvT hZ (own_w hw 88 rfl)) (mvT hZ (own_w hw 89 rfl)) (mvT hZ (own_w hw 44 rfl)) (mvT hZ (own_w hw 90 rfl)) (by decide) (backOf (W := 0) (rm20_U1 l Z a0 hw []  h0 n0 (Nat.le_trans Z0 (Keep.refl h0 []).1) ) hZ (own_w hw 90 rfl) (own_w hw 44 rfl) (by decide) (by decide)) (g := (mkF m 1 #[.val (.int (1 : Int32))] [(.int (1 : Int32))])) rfl (by rw [hml]; rfl) (argsL := [(.int (1 : Int32))]) (rest := []) (lenOf pd11 rfl) rfl (by show 2 * 0 + _ ≤ _; exact Nat.le_of_eq rfl) (hb hby d19_1) (fun _ _ => ⟨rfl, e0, (by decide : 0 + 0 ≤ _), (by decide : 0 + 0 ≤ _)⟩)
 dsimp only [Pt.U, Pt.locs, Pt.cells, Pt.slots] at X102 l102 y102 z102 st102 hQ102
 subst l102 y102 z102
 obtain ⟨rfl, N102q, q102_hh⟩ := hQ102
 have N102 := Fr.app N0 N102q
 obtain ⟨T103, h103, k103, X103, e103, E103, A103, st103⟩ := newP X102 hx hZ (own_w hw 20 rfl) q102_hh (g := (mkF m 4 #[.val (.int (1 : Int32))] [(.int (2 : Int32))])) rfl (hb hby d19_4) rfl (by decide) (cap := 2) (by decide) (by decide) (by decide) (by decide)
 obtain ⟨b103, g103⟩ : ∃ z, z = h0.size := ⟨_, rfl⟩
 rw [← g103] at A103 st103
 have ge_b103 : n0 ≤ b103 := Nat.le_trans (Nat.le_trans Z0 (Keep.refl h0 []).1) (Nat.le_of_eq g103.symm)
 have sz_b103 : h0.size ≤ b103 := Nat.le_trans (Keep.refl h0 []).1 (Nat.le_of_eq g103.symm)
 have K104 : Keep h0 h103 [] := (Keep.refl h0 []).ext E103
 have V103 : Arv Z h103 b103 k103 .byte (2 : Int32) [(.int (0 : Int32)), (.int (0 : Int32))] (.int (0 : Int32)) := (Arv.new A103 (by decide)).pad (pad_rep [] (.int (0 : Int32)) 2)
 obtain ⟨fs, hr, hrun, hended, hW, hsame⟩ := X103.leave (v := some (.ref b103)) (fun h => by rw [Bd.returns] at h; cases h)
 refine ⟨_, _, (gc (gc p101 st102) st103) _ (retOut X103 hx (w := (.ref b103)) (i := .areturn) Bd.returns rfl (Or.inr (Or.inr (Or.inr (Or.inr ⟨rfl, rfl, rfl⟩)))) (hb hby d19_6) hr), hrun, hended, _, _, rfl, ?_, ⟨_, rfl⟩, hW, hsame.mono (by decide) (by decide)⟩
 show Q19_U1 Z  h0 n0 _ T103.heap _
 rw [e103]
 exact ⟨b103, k103, rfl, N102, K104, ge_b103, sz_b103, V103⟩
theorem d21_0 : decode jdk_52_method_4_code 0 = .ok (.getstatic 44, 3) := by decide +kernel
theorem d21_3 : decode jdk_52_method_4_code 3 = .ok (.ifCond .ne 25, 3) := by decide +kernel
theorem d21_28 : decode jdk_52_method_4_code 28 = .ok (.iload_n 1, 1) := by decide +kernel
theorem d21_29 : decode jdk_52_method_4_code 29 = .ok (.iconst 1, 1) := by decide +kernel
theorem d21_30 : decode jdk_52_method_4_code 30 = .ok (.ishl, 1) := by decide +kernel
theorem d21_31 : decode jdk_52_method_4_code 31 = .ok (.istore_n 1, 1) := by decide +kernel
theorem d21_32 : decode jdk_52_method_4_code 32 = .ok (.aload_n 0, 1) := by decide +kernel
theorem d21_33 : decode jdk_52_method_4_code 33 = .ok (.iload_n 1, 1) := by decide +kernel
theorem d21_34 : decode jdk_52_method_4_code 34 = .ok (.iinc 1 1, 3) := by decide +kernel
theorem d21_37 : decode jdk_52_method_4_code 37 = .ok (.iload_n 2, 1) := by decide +kernel
theorem d21_38 : decode jdk_52_method_4_code 38 = .ok (.getstatic 59, 3) := by decide +kernel
theorem d21_41 : decode jdk_52_method_4_code 41 = .ok (.ishr, 1) := by decide +kernel
theorem d21_42 : decode jdk_52_method_4_code 42 = .ok (.i2b, 1) := by decide +kernel
theorem d21_43 : decode jdk_52_method_4_code 43 = .ok (.bastore, 1) := by decide +kernel
theorem d21_44 : decode jdk_52_method_4_code 44 = .ok (.aload_n 0, 1) := by decide +kernel
theorem d21_45 : decode jdk_52_method_4_code 45 = .ok (.iload_n 1, 1) := by decide +kernel
theorem d21_46 : decode jdk_52_method_4_code 46 = .ok (.iload_n 2, 1) := by decide +kernel
theorem d21_47 : decode jdk_52_method_4_code 47 = .ok (.getstatic 63, 3) := by decide +kernel
theorem d21_50 : decode jdk_52_method_4_code 50 = .ok (.ishr, 1) := by decide +kernel
theorem d21_51 : decode jdk_52_method_4_code 51 = .ok (.i2b, 1) := by decide +kernel
theorem d21_52 : decode jdk_52_method_4_code 52 = .ok (.bastore, 1) := by decide +kernel
theorem d21_53 : decode jdk_52_method_4_code 53 = .ok (.return_, 1) := by decide +kernel
theorem pn21 : plainFor (⟨"java/lang/StringUTF16", "putChar", "([BII)V"⟩ : MethodName) = true := plainFor_of_name (by first | (simp [plainName, overriddenIn]; done) | decide +kernel)
theorem ef_rm21 (m : MethodId) (a1 : Addr) (p2 : Int32) (cv : Int32) (kv : ClassId) (z : Int32) (vs : List Value) (j : Nat) (cs1 : Int32) (fm : Value) : entryFrame m #[(.ref a1), (.int p2), (.int cv)] 3 = mkF m 0 #[.val (.ref a1), .val (.int p2), .val (.int cv)] [] := by first | (simp [entryFrame, mkF, argsToLocals, Value.category]; done) | rfl
def Q21 (Z : State) (a1 : Addr) (p2 : Int32) (cv : Int32) (kv : ClassId) (z : Int32) (vs : List Value) (j : Nat) (cs1 : Int32) (fm : Value) (h0 : Heap) (n0 : Nat) (v : Option Value) (h : Heap) (L : List Loc) : Prop := v = none ∧ Fr n0 L ∧ (Keep h0 h [a1]) ∧ (Arv Z h a1 kv .byte z ((vs.set j (.int (own_x0 cv))).set (j + 1) (.int (own_x8 cv))) (.int (0 : Int32)))
set_option maxRecDepth 65536 in
set_option maxHeartbeats 40000000 in
theorem rm21 (l : Launch) (Z : State) (a0 : Array Value) (hw : ∀ d ∈ tables_1, d.before a0 Z = true) (ws : List Jvm.Cond) (a1 : Addr) (p2 : Int32) (cv : Int32) (kv : ClassId) (z : Int32) (vs : List Value) (j : Nat) (cs1 : Int32) (fm : Value) (h0 : Heap) (n0 : Nat) (Z0 : n0 ≤ h0.size) (O1 : Old Z n0 h0) (G : own_G Z cs1 fm) (V1 : Arv Z h0 a1 kv .byte z vs (.int (0 : Int32))) (i0 : ¬ (p2 <<< (1 : Int32)) < 0 ∧ (p2 <<< (1 : Int32)) < z) (i1 : ¬ ((p2 <<< (1 : Int32)) + (1 : Int32)) < 0 ∧ ((p2 <<< (1 : Int32)) + (1 : Int32)) < z) (e0' : ((p2 <<< (1 : Int32))).toNatClampNeg = j) (e1' : (((p2 <<< (1 : Int32)) + (1 : Int32))).toNatClampNeg = j + 1) (l0 : j < vs.length) (l1 : j + 1 < vs.length) (g1 : n0 ≤ a1) :
  MetFree l (⟨"java/lang/StringUTF16", "putChar", "([BII)V"⟩ : MethodName) (head1 (Jvm.Cond.code (⟨"java/lang/StringUTF16", "putChar", "([BII)V"⟩ : MethodName) jdk_52_method_4_code 3 none :: ws) ({ frames := 0, cells := 0, slots := 0, locals := 0 } : Room)) (fun a U => a = #[(.ref a1), (.int p2), (.int cv)] ∧ Z.Warmed39 U.vm ∧ U.heap = h0) (fun _ _ _ _ _ => True) (fun _ U o U' => ∃ v L, o = .returned v ∧ Q21 Z a1 p2 cv kv z vs j cs1 fm h0 n0 v U'.heap L ∧ FrameEnd U o U' L ({ frames := 0, cells := 0, slots := 0, locals := 0 } : Room).cells ({ frames := 0, cells := 0, slots := 0, locals := 0 } : Room).slots) := by
 refine MetFree.of_bodySF pn21 hisR ?_
 intro p e s m args below meth c s₁ Bd hml0 hP hK
 obtain ⟨rfl, hZ, hh⟩ := hP
 have hx := Bd.exec
 have hby := Bd.bytes
 have hml : c.maxLocals = 3 := hml0
 have hown : s.vm.findClass "java/lang/StringUTF16" = some m.cls := findClass_of_methodNamed Bd.named
 have hnm := (name_of_methodNamed Bd.named Bd.method).1
 have X0 : Stand p l e ({ frames := 0, cells := 0, slots := 0, locals := 0 } : Room) s m #[(.ref a1), (.int p2), (.int cv)] below meth c s₁ [] 0 0 := Stand.of_body Bd
 have e0 : s₁.heap = h0 := by rw [← hh, Bd.state]; rfl
 have N0 := Fr.nil n0
 have p0 : Go p.tables e below (s₁.setTop (entryFrame m #[(.ref a1), (.int p2), (.int cv)] 3)) (s₁.setTop (mkF m 0 #[.val (.ref a1), .val (.int p2), .val (.int cv)] [])) := fun t_ k_ => castTop (ef_rm21 m a1 p2 cv kv z vs j cs1 fm) k_
 obtain ⟨T101, X101, e101, st101⟩ := getS2 X0 hx hZ hown (host := "") (Or.inl (own_w hw 95 rfl)) Via.refl e0 (G.2.2.2.2.1.ext O1.2) (g := (mkF m 0 #[.val (.ref a1), .val (.int p2), .val (.int cv)] [])) rfl (hb hby d21_0)
 have p102 : Go p.tables e below _ (T101.setTop (mkF m 38 #[.val (.ref a1), .val (.int ((p2 <<< (1 : Int32)) + (1 : Int32))), .val (.int cv)] [(.int cv), (.int (p2 <<< (1 : Int32))), (.ref a1)])) := fun t_ k_ => (gc p0 st101) t_ (by
  refine XS.ifYes X101.here hx rfl (pc0 := 3) (pc' := 28) rfl (hb hby d21_3) rfl ((if0 _ _).trans (feq (by decide : ¬ ((1 : Int32) = (0 : Int32)))).2) (by decide) (by decide) ?_
  refine XS.iloadN X101.here hx rfl (hb hby d21_28) rfl ?_
  refine XS.iconst X101.here hx rfl (hb hby d21_29) ?_
  refine XS.ishl X101.here hx rfl (hb hby d21_30) rfl ?_
  refine XS.istoreN X101.here hx rfl (hb hby d21_31) rfl (l' := #[.val (.ref a1), .val (.int (p2 <<< (1 : Int32))), .val (.int cv)]) rfl ?_
  refine XS.aloadN X101.here hx rfl (hb hby d21_32) rfl rfl ?_
  refine XS.iloadN X101.here hx rfl (hb hby d21_33) rfl ?_
  refine XS.iinc X101.here hx rfl (hb hby d21_34) rfl (l' := #[.val (.ref a1), .val (.int ((p2 <<< (1 : Int32)) + (1 : Int32))), .val (.int cv)]) rfl ?_
  refine XS.iloadN X101.here hx rfl (hb hby d21_37) rfl ?_
  exact k_)
 obtain ⟨T103, X103, e103, st103⟩ := getS2 X101 hx hZ hown (host := "") (Or.inl (own_w hw 96 rfl)) Via.refl e101 (G.2.2.2.2.2.1.ext O1.2) (g := (mkF m 38 #[.val (.ref a1), .val (.int ((p2 <<< (1 : Int32)) + (1 : Int32))), .val (.int cv)] [(.int cv), (.int (p2 <<< (1 : Int32))), (.ref a1)])) rfl (hb hby d21_38)
 have p104 : Go p.tables e below _ (T103.setTop (mkF m 43 #[.val (.ref a1), .val (.int ((p2 <<< (1 : Int32)) + (1 : Int32))), .val (.int cv)] [(.int ((cv >>> (0 : Int32)).toInt8.toInt32)), (.int (p2 <<< (1 : Int32))), (.ref a1)])) := fun t_ k_ => (gc p102 st103) t_ (by
  refine XS.ishr X103.here hx rfl (hb hby d21_41) rfl ?_
  refine XS.i2b X103.here hx rfl (hb hby d21_42) rfl ?_
  exact k_)
 obtain ⟨cl105, Ar105, q105, S105, Ng105, H105, G105⟩ := id V1
 have hin105 := inb_of S105 (j := (p2 <<< (1 : Int32))) i0
 obtain ⟨T105, h105, X105, e105, W105, st105⟩ := stB X103 hx hZ e103 Ar105 (j := (p2 <<< (1 : Int32))) hin105 (g := (mkF m 43 #[.val (.ref a1), .val (.int ((p2 <<< (1 : Int32)) + (1 : Int32))), .val (.int cv)] [(.int ((cv >>> (0 : Int32)).toInt8.toInt32)), (.int (p2 <<< (1 : Int32))), (.ref a1)])) rfl rfl (hb hby d21_43)
 have K106 : Keep h0 h105 [a1] := (Keep.refl h0 [a1]).wr W105 (Or.inl (List.mem_of_getElem? (i := 0) rfl))
 have N105 := Fr.snoc X105 N0 g1
 have V105 : Arv Z h105 a1 kv .byte z (vs.set j (.int (own_x0 cv))) (.int (0 : Int32)) := Arv.set Ar105 q105 S105 Ng105 H105 G105 (fits_nar_byte _) W105 j e0' l0
 have f107 := (O1.wr W105 g1)
 have p108 : Go p.tables e below _ (T105.setTop (mkF m 47 #[.val (.ref a1), .val (.int ((p2 <<< (1 : Int32)) + (1 : Int32))), .val (.int cv)] [(.int cv), (.int ((p2 <<< (1 : Int32)) + (1 : Int32))), (.ref a1)])) := fun t_ k_ => (gc p104 st105) t_ (by
  refine XS.aloadN X105.here hx rfl (hb hby d21_44) rfl rfl ?_
  refine XS.iloadN X105.here hx rfl (hb hby d21_45) rfl ?_
  refine XS.iloadN X105.here hx rfl (hb hby d21_46) rfl ?_
  exact k_)
 obtain ⟨T109, X109, e109, st109⟩ := getS2 X105 hx hZ hown (host := "") (Or.inl (own_w hw 97 rfl)) Via.refl e105 (G.2.2.2.2.2.2.ext f107.2) (g := (mkF m 47 #[.val (.ref a1), .val (.int ((p2 <<< (1 : Int32)) + (1 : Int32))), .val (.int cv)] [(.int cv), (.int ((p2 <<< (1 : Int32)) + (1 : Int32))), (.ref a1)])) rfl (hb hby d21_47)
 have p110 : Go p.tables e below _ (T109.setTop (mkF m 52 #[.val (.ref a1), .val (.int ((p2 <<< (1 : Int32)) + (1 : Int32))), .val (.int cv)] [(.int ((cv >>> (8 : Int32)).toInt8.toInt32)), (.int ((p2 <<< (1 : Int32)) + (1 : Int32))), (.ref a1)])) := fun t_ k_ => (gc p108 st109) t_ (by
  refine XS.ishr X109.here hx rfl (hb hby d21_50) rfl ?_
  refine XS.i2b X109.here hx rfl (hb hby d21_51) rfl ?_
  exact k_)
 obtain ⟨cl111, Ar111, q111, S111, Ng111, H111, G111⟩ := id V105
 have hin111 := inb_of S111 (j := ((p2 <<< (1 : Int32)) + (1 : Int32))) i1
 obtain ⟨T111, h111, X111, e111, W111, st111⟩ := stB X109 hx hZ e109 Ar111 (j := ((p2 <<< (1 : Int32)) + (1 : Int32))) hin111 (g := (mkF m 52 #[.val (.ref a1), .val (.int ((p2 <<< (1 : Int32)) + (1 : Int32))), .val (.int cv)] [(.int ((cv >>> (8 : Int32)).toInt8.toInt32)), (.int ((p2 <<< (1 : Int32)) + (1 : Int32))), (.ref a1)])) rfl rfl (hb hby d21_52)
 have K112 : Keep h0 h111 [a1] := K106.wr W111 (Or.inl (List.mem_of_getElem? (i := 0) rfl))
 have N111 := Fr.snoc X111 N105 g1
 have V111 : Arv Z h111 a1 kv .byte z ((vs.set j (.int (own_x0 cv))).set (j + 1) (.int (own_x8 cv))) (.int (0 : Int32)) := Arv.set Ar111 q111 S111 Ng111 H111 G111 (fits_nar_byte _) W111 (j + 1) e1' (by rw [List.length_set]; exact l1)
 obtain ⟨fs, hr, hrun, hended, hW, hsame⟩ := X111.leave (v := none) (fun _ => rfl)
 refine ⟨_, _, (gc p110 st111) _ (X111.returnOut hx Bd.returns (hb hby d21_53) hr), hrun, hended, _, _, rfl, ?_, ⟨_, rfl⟩, hW, hsame.mono (by decide) (by decide)⟩
 show Q21 Z a1 p2 cv kv z vs j cs1 fm h0 n0 _ T111.heap _
 rw [e111]
 exact ⟨rfl, N111, K112, V111⟩
theorem d18_0 : decode jdk_52_method_14_code 0 = .ok (.iload_n 2, 1) := by decide +kernel
theorem d18_1 : decode jdk_52_method_14_code 1 = .ok (.invokestatic 107, 3) := by decide +kernel
theorem d18_4 : decode jdk_52_method_14_code 4 = .ok (.astore_n 3, 1) := by decide +kernel
theorem d18_5 : decode jdk_52_method_14_code 5 = .ok (.iconst 0, 1) := by decide +kernel
theorem d18_6 : decode jdk_52_method_14_code 6 = .ok (.istore 4, 2) := by decide +kernel
theorem d18_8 : decode jdk_52_method_14_code 8 = .ok (.iload 4, 2) := by decide +kernel
theorem d18_10 : decode jdk_52_method_14_code 10 = .ok (.iload_n 2, 1) := by decide +kernel
theorem d18_11 : decode jdk_52_method_14_code 11 = .ok (.if_icmp .ge 21, 3) := by decide +kernel
theorem d18_14 : decode jdk_52_method_14_code 14 = .ok (.aload_n 3, 1) := by decide +kernel
theorem d18_15 : decode jdk_52_method_14_code 15 = .ok (.iload 4, 2) := by decide +kernel
theorem d18_17 : decode jdk_52_method_14_code 17 = .ok (.aload_n 0, 1) := by decide +kernel
theorem d18_18 : decode jdk_52_method_14_code 18 = .ok (.iload_n 1, 1) := by decide +kernel
theorem d18_19 : decode jdk_52_method_14_code 19 = .ok (.caload, 1) := by decide +kernel
theorem d18_20 : decode jdk_52_method_14_code 20 = .ok (.invokestatic 111, 3) := by decide +kernel
theorem d18_23 : decode jdk_52_method_14_code 23 = .ok (.iinc 1 1, 3) := by decide +kernel
theorem d18_26 : decode jdk_52_method_14_code 26 = .ok (.iinc 4 1, 3) := by decide +kernel
theorem d18_29 : decode jdk_52_method_14_code 29 = .ok (.goto (-21), 3) := by decide +kernel
theorem d18_32 : decode jdk_52_method_14_code 32 = .ok (.aload_n 3, 1) := by decide +kernel
theorem d18_33 : decode jdk_52_method_14_code 33 = .ok (.areturn, 1) := by decide +kernel
theorem pd12 : parseMethodDescriptor "(I)[B" = some ⟨[.int], some (.array .byte)⟩ := by decide +kernel
theorem pd13 : parseMethodDescriptor "([BII)V" = some ⟨[(.array .byte), .int, .int], none⟩ := by decide +kernel
theorem pn18 : plainFor (⟨"java/lang/StringUTF16", "toBytes", "([CII)[B"⟩ : MethodName) = true := plainFor_of_name (by first | (simp [plainName, overriddenIn]; done) | decide +kernel)
theorem ef_rm18_U1 (m : MethodId) (a1 : Addr) (k1 : ClassId) (c0 : Int32) (cs1 : Int32) (fm : Value) : entryFrame m #[(.ref a1), (.int (0 : Int32)), (.int (1 : Int32))] 5 = mkF m 0 #[.val (.ref a1), .val (.int (0 : Int32)), .val (.int (1 : Int32)), .unset, .unset] [] := by first | (simp [entryFrame, mkF, argsToLocals, Value.category]; done) | rfl
def Q18_U1 (Z : State) (a1 : Addr) (k1 : ClassId) (c0 : Int32) (cs1 : Int32) (fm : Value) (h0 : Heap) (n0 : Nat) (v : Option Value) (h : Heap) (L : List Loc) : Prop := ∃ (b : Addr) (kb : ClassId), v = some (.ref b) ∧ Fr n0 L ∧ (Keep h0 h []) ∧ (n0 ≤ b) ∧ (h0.size ≤ b) ∧ (Arv Z h b kb .byte (2 : Int32) [(.int (own_x0 c0)), (.int (own_x8 c0))] (.int (0 : Int32)))
set_option maxRecDepth 65536 in
set_option maxHeartbeats 40000000 in
theorem rm18_U1 (l : Launch) (Z : State) (a0 : Array Value) (hw : ∀ d ∈ tables_1, d.before a0 Z = true) (ws : List Jvm.Cond) (a1 : Addr) (k1 : ClassId) (c0 : Int32) (cs1 : Int32) (fm : Value) (h0 : Heap) (n0 : Nat) (Z0 : n0 ≤ h0.size) (O1 : Old Z n0 h0) (G : own_G Z cs1 fm) (V1 : Arv Z h0 a1 k1 .char (1 : Int32) [(.int c0)] (.int (0 : Int32))) :
  MetFree l (⟨"java/lang/StringUTF16", "toBytes", "([CII)[B"⟩ : MethodName) (head1 (Jvm.Cond.code (⟨"java/lang/StringUTF16", "toBytes", "([CII)[B"⟩ : MethodName) jdk_52_method_14_code 5 (some (.array .byte)) :: ws) ({ frames := 2, cells := 1, slots := 2, locals := 24 } : Room)) (fun a U => a = #[(.ref a1), (.int (0 : Int32)), (.int (1 : Int32))] ∧ Z.Warmed39 U.vm ∧ U.heap = h0) (fun _ _ _ _ _ => True) (fun _ U o U' => ∃ v L, o = .returned v ∧ Q18_U1 Z a1 k1 c0 cs1 fm h0 n0 v U'.heap L ∧ FrameEnd U o U' L ({ frames := 2, cells := 1, slots := 2, locals := 24 } : Room).cells ({ frames := 2, cells := 1, slots := 2, locals := 24 } : Room).slots) := by
 refine MetFree.of_bodySF pn18 hisR ?_
 intro p e s m args below meth c s₁ Bd hml0 hP hK
 obtain ⟨rfl, hZ, hh⟩ := hP
 have hx := Bd.exec
 have hby := Bd.bytes
 have hml : c.maxLocals = 5 := hml0
 have hown : s.vm.findClass "java/lang/StringUTF16" = some m.cls := findClass_of_methodNamed Bd.named
 have hnm := (name_of_methodNamed Bd.named Bd.method).1
 have X0 : Stand p l e ({ frames := 2, cells := 1, slots := 2, locals := 24 } : Room) s m #[(.ref a1), (.int (0 : Int32)), (.int (1 : Int32))] below meth c s₁ [] 0 0 := Stand.of_body Bd
 have e0 : s₁.heap = h0 := by rw [← hh, Bd.state]; rfl
 have N0 := Fr.nil n0
 have p0 : Go p.tables e below (s₁.setTop (entryFrame m #[(.ref a1), (.int (0 : Int32)), (.int (1 : Int32))] 5)) (s₁.setTop (mkF m 0 #[.val (.ref a1), .val (.int (0 : Int32)), .val (.int (1 : Int32)), .unset, .unset] [])) := fun t_ k_ => castTop (ef_rm18_U1 m a1 k1 c0 cs1 fm) k_
 have p101 : Go p.tables e below _ (s₁.setTop (mkF m 1 #[.val (.ref a1), .val (.int (0 : Int32)), .val (.int (1 : Int32)), .unset, .unset] [(.int (1 : Int32))])) := fun t_ k_ => p0 t_ (by
  refine XS.iloadN X0.here hx rfl (hb hby d18_0) rfl ?_
  exact k_)
 obtain ⟨_, _, ⟨T102, L102, k102, n102⟩, -, X102, ⟨Lc102, hQ102, l102, y102, z102⟩, st102⟩ := Jvm.LawKit.callS X0 hx (y := (⟨"java/lang/StringUTF16", "newBytesFor", "(I)[B"⟩ : MethodName)) hown (mvT hZ (own_w hw 85 rfl)) (mvT hZ (own_w hw 86 rfl)) (mvT hZ (own_w hw 44 rfl)) (mvT hZ (own_w hw 87 rfl)) (by decide) (backOf (W := 0) (rm19_U1 l Z a0 hw []  h0 n0 (Nat.le_trans Z0 (Keep.refl h0 []).1) ) hZ (own_w hw 87 rfl) (own_w hw 44 rfl) (by decide) (by decide)) (g := (mkF m 1 #[.val (.ref a1), .val (.int (0 : Int32)), .val (.int (1 : Int32)), .unset, .unset] [(.int (1 : Int32))])) rfl (by rw [hml]; rfl) (argsL := [(.int (1 : Int32))]) (rest := []) (lenOf pd12 rfl) rfl (by show 2 * 0 + _ ≤ _; exact Nat.le_of_eq rfl) (hb hby d18_1) (fun _ _ => ⟨rfl, e0, (by decide : 0 + 1 ≤ _), (by decide : 0 + 2 ≤ _)⟩)
 dsimp only [Pt.U, Pt.locs, Pt.cells, Pt.slots] at X102 l102 y102 z102 st102 hQ102
 subst l102 y102 z102
 obtain ⟨x103, x104, rfl, N102q, q102_K, q102_g, q102_z, q102_V⟩ := hQ102
 have N102 := Fr.app N0 N102q
 have K105 : Keep h0 T102.heap [] := (Keep.refl h0 []).trans q102_K all0
 have ne_a1_x103 : a1 ≠ x103 := Nat.ne_of_lt (Nat.lt_of_lt_of_le V1.lt q102_z)
 have p106 : Go p.tables e below _ (T102.setTop (mkF m 19 #[.val (.ref a1), .val (.int (0 : Int32)), .val (.int (1 : Int32)), .val (.ref x103), .val (.int (0 : Int32))] [(.int (0 : Int32)), (.ref a1), (.int (0 : Int32)), (.ref x103)])) := fun t_ k_ => (gc p101 st102) t_ (by
  refine XS.astoreN X102.here hx rfl (hb hby d18_4) rfl rfl (l' := #[.val (.ref a1), .val (.int (0 : Int32)), .val (.int (1 : Int32)), .val (.ref x103), .unset]) rfl ?_
  refine XS.iconst X102.here hx rfl (hb hby d18_5) ?_
  refine XS.istore X102.here hx rfl (hb hby d18_6) rfl (l' := #[.val (.ref a1), .val (.int (0 : Int32)), .val (.int (1 : Int32)), .val (.ref x103), .val (.int (0 : Int32))]) rfl ?_
  refine XS.iload X102.here hx rfl (hb hby d18_8) rfl ?_
  refine XS.iloadN X102.here hx rfl (hb hby d18_10) rfl ?_
  refine XS.icmpNo X102.here hx rfl (hb hby d18_11) rfl (tlt (by decide : ((0 : Int32) < (1 : Int32)))).2.1 ?_
  refine XS.aloadN X102.here hx rfl (hb hby d18_14) rfl rfl ?_
  refine XS.iload X102.here hx rfl (hb hby d18_15) rfl ?_
  refine XS.aloadN X102.here hx rfl (hb hby d18_17) rfl rfl ?_
  refine XS.iloadN X102.here hx rfl (hb hby d18_18) rfl ?_
  exact k_)
 have f108 := (V1.keep q102_K nin0)
 obtain ⟨cl107, Ar107, q107, S107, Ng107, H107, G107⟩ := id f108
 have hin107 := inb_of S107 (j := (0 : Int32)) ⟨by decide, by decide⟩
 have hat107 := H107.at (v := (.int c0)) hin107 rfl
 have p109 : Go p.tables e below _ (T102.setTop (mkF m 20 #[.val (.ref a1), .val (.int (0 : Int32)), .val (.int (1 : Int32)), .val (.ref x103), .val (.int (0 : Int32))] [(.int c0), (.int (0 : Int32)), (.ref x103)])) := fun t_ k_ => p106 t_ (by
  refine X102.caload hx (j := (0 : Int32)) (v := (.int c0)) Ar107.1 (State.isArrayOf_alike hZ.alike Ar107.2.1) Ar107.2.2 hin107 hat107 (g := (mkF m 19 #[.val (.ref a1), .val (.int (0 : Int32)), .val (.int (1 : Int32)), .val (.ref x103), .val (.int (0 : Int32))] [(.int (0 : Int32)), (.ref a1), (.int (0 : Int32)), (.ref x103)])) rfl rfl (hb hby d18_19) _ ?_
  exact k_)
 have f110 := (O1.keep q102_K all0)
 obtain ⟨_, _, ⟨T111, L111, k111, n111⟩, -, X111, ⟨Lc111, hQ111, l111, y111, z111⟩, st111⟩ := Jvm.LawKit.callS X102 hx (y := (⟨"java/lang/StringUTF16", "putChar", "([BII)V"⟩ : MethodName)) hown (mvT hZ (own_w hw 92 rfl)) (mvT hZ (own_w hw 93 rfl)) (mvT hZ (own_w hw 44 rfl)) (mvT hZ (own_w hw 94 rfl)) (by decide) (backOf (W := 0) (rm21 l Z a0 hw [] x103 (0 : Int32) c0 x104 (2 : Int32) [(.int (0 : Int32)), (.int (0 : Int32))] 0 cs1 fm T102.heap n0 (Nat.le_trans Z0 K105.1) f110 G q102_V (by decide) (by decide) rfl rfl (Nat.le_of_ble_eq_true rfl) (Nat.le_of_ble_eq_true rfl) q102_g) hZ (own_w hw 94 rfl) (own_w hw 44 rfl) (by decide) (by decide)) (g := (mkF m 20 #[.val (.ref a1), .val (.int (0 : Int32)), .val (.int (1 : Int32)), .val (.ref x103), .val (.int (0 : Int32))] [(.int c0), (.int (0 : Int32)), (.ref x103)])) rfl (by rw [hml]; rfl) (argsL := [(.ref x103), (.int (0 : Int32)), (.int c0)]) (rest := []) (lenOf pd13 rfl) rfl (by show 2 * 0 + _ ≤ _; exact Nat.le_of_eq rfl) (hb hby d18_20) (fun _ _ => ⟨rfl, rfl, (by decide : 1 + 0 ≤ _), (by decide : 2 + 0 ≤ _)⟩)
 dsimp only [Pt.U, Pt.locs, Pt.cells, Pt.slots] at X111 l111 y111 z111 st111 hQ111
 subst l111 y111 z111
 obtain ⟨rfl, N111q, q111_K, q111_V⟩ := hQ111
 have N111 := Fr.app N102 N111q
 have K112 : Keep h0 T111.heap [] := K105.trans q111_K (allS (Or.inr (Nat.le_trans (Keep.refl h0 []).1 q102_z)) all0)
 have f113 : Arv Z T111.heap x103 x104 .byte (2 : Int32) [(.int (own_x0 c0)), (.int (own_x8 c0))] (.int (0 : Int32)) := q111_V
 have p114 : Go p.tables e below _ (T111.setTop (mkF m 33 #[.val (.ref a1), .val (.int (1 : Int32)), .val (.int (1 : Int32)), .val (.ref x103), .val (.int (1 : Int32))] [(.ref x103)])) := fun t_ k_ => (gc p109 st111) t_ (by
  refine XS.iinc X111.here hx rfl (hb hby d18_23) rfl (l' := #[.val (.ref a1), .val (.int (1 : Int32)), .val (.int (1 : Int32)), .val (.ref x103), .val (.int (0 : Int32))]) rfl ?_
  refine XS.iinc X111.here hx rfl (hb hby d18_26) rfl (l' := #[.val (.ref a1), .val (.int (1 : Int32)), .val (.int (1 : Int32)), .val (.ref x103), .val (.int (1 : Int32))]) rfl ?_
  refine XS.goto X111.here hx rfl (pc0 := 29) (pc' := 8) rfl (hb hby d18_29) (by decide) (by decide) ?_
  refine XS.iload X111.here hx rfl (hb hby d18_8) rfl ?_
  refine XS.iloadN X111.here hx rfl (hb hby d18_10) rfl ?_
  refine XS.icmpYes X111.here hx rfl (pc0 := 11) (pc' := 32) rfl (hb hby d18_11) rfl (flt (by decide : ¬ ((1 : Int32) < (1 : Int32)))).2.1 (by decide) (by decide) ?_
  refine XS.aloadN X111.here hx rfl (hb hby d18_32) rfl rfl ?_
  exact k_)
 obtain ⟨fs, hr, hrun, hended, hW, hsame⟩ := X111.leave (v := some (.ref x103)) (fun h => by rw [Bd.returns] at h; cases h)
 refine ⟨_, _, p114 _ (retOut X111 hx (w := (.ref x103)) (i := .areturn) Bd.returns rfl (Or.inr (Or.inr (Or.inr (Or.inr ⟨rfl, rfl, rfl⟩)))) (hb hby d18_33) hr), hrun, hended, _, _, rfl, ?_, ⟨_, rfl⟩, hW, hsame.mono (by decide) (by decide)⟩
 show Q18_U1 Z a1 k1 c0 cs1 fm h0 n0 _ T111.heap _
 exact ⟨x103, x104, rfl, N111, K112, q102_g, (Nat.le_trans (Keep.refl h0 []).1 q102_z), f113⟩
theorem d8_20 : decode jdk_52_method_16_code 20 = .ok (.aload_n 0, 1) := by decide +kernel
theorem d8_21 : decode jdk_52_method_16_code 21 = .ok (.iload_n 1, 1) := by decide +kernel
theorem d8_22 : decode jdk_52_method_16_code 22 = .ok (.iload_n 2, 1) := by decide +kernel
theorem d8_23 : decode jdk_52_method_16_code 23 = .ok (.invokestatic 119, 3) := by decide +kernel
theorem d8_26 : decode jdk_52_method_16_code 26 = .ok (.astore 5, 2) := by decide +kernel
theorem d8_28 : decode jdk_52_method_16_code 28 = .ok (.aload 5, 2) := by decide +kernel
theorem d8_30 : decode jdk_52_method_16_code 30 = .ok (.iload 4, 2) := by decide +kernel
theorem d8_32 : decode jdk_52_method_16_code 32 = .ok (.invokestatic 71, 3) := by decide +kernel
theorem d8_35 : decode jdk_52_method_16_code 35 = .ok (.sipush 255, 3) := by decide +kernel
theorem d8_38 : decode jdk_52_method_16_code 38 = .ok (.if_icmp .gt 16, 3) := by decide +kernel
theorem d8_54 : decode jdk_52_method_16_code 54 = .ok (.aload 5, 2) := by decide +kernel
theorem d8_56 : decode jdk_52_method_16_code 56 = .ok (.areturn, 1) := by decide +kernel
theorem ef_rm8_U1 (m : MethodId) (a1 : Addr) (k1 : ClassId) (c0 : Int32) (cs1 : Int32) (fm : Value) : entryFrame m #[(.ref a1), (.int (0 : Int32)), (.int (1 : Int32))] 6 = mkF m 0 #[.val (.ref a1), .val (.int (0 : Int32)), .val (.int (1 : Int32)), .unset, .unset, .unset] [] := by first | (simp [entryFrame, mkF, argsToLocals, Value.category]; done) | rfl
def Q8_U1 (Z : State) (a1 : Addr) (k1 : ClassId) (c0 : Int32) (cs1 : Int32) (fm : Value) (h0 : Heap) (n0 : Nat) (v : Option Value) (h : Heap) (L : List Loc) : Prop := ∃ (b : Addr) (kb : ClassId), v = some (.ref b) ∧ Fr n0 L ∧ (Keep h0 h []) ∧ (n0 ≤ b) ∧ (h0.size ≤ b) ∧ (Arv Z h b kb .byte (2 : Int32) [(.int (own_x0 c0)), (.int (own_x8 c0))] (.int (0 : Int32)))
set_option maxRecDepth 65536 in
set_option maxHeartbeats 40000000 in
theorem rm8_U1 (l : Launch) (Z : State) (a0 : Array Value) (hw : ∀ d ∈ tables_1, d.before a0 Z = true) (ws : List Jvm.Cond) (a1 : Addr) (k1 : ClassId) (c0 : Int32) (cs1 : Int32) (fm : Value) (h0 : Heap) (n0 : Nat) (Z0 : n0 ≤ h0.size) (O1 : Old Z n0 h0) (G : own_G Z cs1 fm) (V1 : Arv Z h0 a1 k1 .char (1 : Int32) [(.int c0)] (.int (0 : Int32))) (a0_ : ¬ (c0 < (0 : Int32))) (b0_ : ¬ ((65535 : Int32) < c0)) (big : ((255 : Int32) < c0)) :
  MetFree l (⟨"java/lang/StringUTF16", "compress", "([CII)[B"⟩ : MethodName) (head1 (Jvm.Cond.code (⟨"java/lang/StringUTF16", "compress", "([CII)[B"⟩ : MethodName) jdk_52_method_16_code 6 (some (.array .byte)) :: ws) ({ frames := 3, cells := 2, slots := 3, locals := 40 } : Room)) (fun a U => a = #[(.ref a1), (.int (0 : Int32)), (.int (1 : Int32))] ∧ Z.Warmed39 U.vm ∧ U.heap = h0) (fun _ _ _ _ _ => True) (fun _ U o U' => ∃ v L, o = .returned v ∧ Q8_U1 Z a1 k1 c0 cs1 fm h0 n0 v U'.heap L ∧ FrameEnd U o U' L ({ frames := 3, cells := 2, slots := 3, locals := 40 } : Room).cells ({ frames := 3, cells := 2, slots := 3, locals := 40 } : Room).slots) := by
 refine MetFree.of_bodySF pn8 hisR ?_
 intro p e s m args below meth c s₁ Bd hml0 hP hK
 obtain ⟨rfl, hZ, hh⟩ := hP
 have hx := Bd.exec
 have hby := Bd.bytes
 have hml : c.maxLocals = 6 := hml0
 have hown : s.vm.findClass "java/lang/StringUTF16" = some m.cls := findClass_of_methodNamed Bd.named
 have hnm := (name_of_methodNamed Bd.named Bd.method).1
 have X0 : Stand p l e ({ frames := 3, cells := 2, slots := 3, locals := 40 } : Room) s m #[(.ref a1), (.int (0 : Int32)), (.int (1 : Int32))] below meth c s₁ [] 0 0 := Stand.of_body Bd
 have e0 : s₁.heap = h0 := by rw [← hh, Bd.state]; rfl
 have N0 := Fr.nil n0
 have p0 : Go p.tables e below (s₁.setTop (entryFrame m #[(.ref a1), (.int (0 : Int32)), (.int (1 : Int32))] 6)) (s₁.setTop (mkF m 0 #[.val (.ref a1), .val (.int (0 : Int32)), .val (.int (1 : Int32)), .unset, .unset, .unset] [])) := fun t_ k_ => castTop (ef_rm8_U1 m a1 k1 c0 cs1 fm) k_
 have p101 : Go p.tables e below _ (s₁.setTop (mkF m 1 #[.val (.ref a1), .val (.int (0 : Int32)), .val (.int (1 : Int32)), .unset, .unset, .unset] [(.int (1 : Int32))])) := fun t_ k_ => p0 t_ (by
  refine XS.iloadN X0.here hx rfl (hb hby d8_0) rfl ?_
  exact k_)
 obtain ⟨T102, h102, k102, X102, e102, E102, A102, st102⟩ := newP X0 hx hZ (own_w hw 20 rfl) e0 (g := (mkF m 1 #[.val (.ref a1), .val (.int (0 : Int32)), .val (.int (1 : Int32)), .unset, .unset, .unset] [(.int (1 : Int32))])) rfl (hb hby d8_1) rfl (by decide) (cap := 1) (by decide) (by decide) (by decide) (by decide)
 obtain ⟨b102, g102⟩ : ∃ z, z = h0.size := ⟨_, rfl⟩
 rw [← g102] at A102 st102
 have ne_a1_b102 : a1 ≠ b102 := Nat.ne_of_lt (Nat.lt_of_lt_of_le V1.lt (Nat.le_of_eq g102.symm))
 have ge_b102 : n0 ≤ b102 := Nat.le_trans (Nat.le_trans Z0 (Keep.refl h0 []).1) (Nat.le_of_eq g102.symm)
 have sz_b102 : h0.size ≤ b102 := Nat.le_trans (Keep.refl h0 []).1 (Nat.le_of_eq g102.symm)
 have K103 : Keep h0 h102 [] := (Keep.refl h0 []).ext E102
 have V102 : Arv Z h102 b102 k102 .byte (1 : Int32) [(.int (0 : Int32))] (.int (0 : Int32)) := (Arv.new A102 (by decide)).pad (pad_rep [] (.int (0 : Int32)) 1)
 have p104 : Go p.tables e below _ (T102.setTop (mkF m 9 #[.val (.ref a1), .val (.int (0 : Int32)), .val (.int (1 : Int32)), .val (.ref b102), .unset, .unset] [(.int (1 : Int32)), (.int (0 : Int32)), (.ref b102), (.int (0 : Int32)), (.ref a1)])) := fun t_ k_ => (gc p101 st102) t_ (by
  refine XS.astoreN X102.here hx rfl (hb hby d8_3) rfl rfl (l' := #[.val (.ref a1), .val (.int (0 : Int32)), .val (.int (1 : Int32)), .val (.ref b102), .unset, .unset]) rfl ?_
  refine XS.aloadN X102.here hx rfl (hb hby d8_4) rfl rfl ?_
  refine XS.iloadN X102.here hx rfl (hb hby d8_5) rfl ?_
  refine XS.aloadN X102.here hx rfl (hb hby d8_6) rfl rfl ?_
  refine XS.iconst X102.here hx rfl (hb hby d8_7) ?_
  refine XS.iloadN X102.here hx rfl (hb hby d8_8) rfl ?_
  exact k_)
 by_cases m0 : (255 : Int32) < c0
 ·have f105 := (V1.ext E102)
  obtain ⟨_, _, ⟨T106, L106, k106, n106⟩, -, X106, ⟨Lc106, hQ106, l106, y106, z106⟩, st106⟩ := Jvm.LawKit.callS X102 hx (y := (⟨"java/lang/StringUTF16", "compress", "([CI[BII)I"⟩ : MethodName)) hown (mvT hZ (own_w hw 46 rfl)) (mvT hZ (own_w hw 47 rfl)) (mvT hZ (own_w hw 44 rfl)) (mvT hZ (own_w hw 48 rfl)) (by decide) (backOf (W := 0) (rm9_U l Z a0 hw [] a1 b102 k1 k102 [c0] 1 0 h102 n0 (Nat.le_trans Z0 K103.1) f105 V102 (by decide) (by decide) (fun j hj => absurd hj (by omega)) m0 ne_a1_b102 ge_b102) hZ (own_w hw 48 rfl) (own_w hw 44 rfl) (by decide) (by decide)) (g := (mkF m 9 #[.val (.ref a1), .val (.int (0 : Int32)), .val (.int (1 : Int32)), .val (.ref b102), .unset, .unset] [(.int (1 : Int32)), (.int (0 : Int32)), (.ref b102), (.int (0 : Int32)), (.ref a1)])) rfl (by rw [hml]; rfl) (argsL := [(.ref a1), (.int (0 : Int32)), (.ref b102), (.int (0 : Int32)), (.int (1 : Int32))]) (rest := []) (lenOf pd7 rfl) rfl (by show 2 * 0 + _ ≤ _; exact Nat.le_of_eq rfl) (hb hby d8_9) (fun _ _ => ⟨rfl, e102, (by decide : 1 + 0 ≤ _), (by decide : 1 + 0 ≤ _)⟩)
  dsimp only [Pt.U, Pt.locs, Pt.cells, Pt.slots] at X106 l106 y106 z106 st106 hQ106
  subst l106 y106 z106
  obtain ⟨rfl, N106q, q106_K, q106_V⟩ := hQ106
  have N106 := Fr.app N0 N106q
  have K107 : Keep h0 T106.heap [] := K103.trans q106_K (allS (Or.inr sz_b102) all0)
  have f108 : Arv Z T106.heap b102 k102 .byte (1 : Int32) [(.int (0 : Int32))] (.int (0 : Int32)) := q106_V
  have p109 : Go p.tables e below _ (T106.setTop (mkF m 12 #[.val (.ref a1), .val (.int (0 : Int32)), .val (.int (1 : Int32)), .val (.ref b102), .unset, .unset] [(.int (0 : Int32))])) := (gc p104 st106)
  have p110 : Go p.tables e below _ (T106.setTop (mkF m 23 #[.val (.ref a1), .val (.int (0 : Int32)), .val (.int (1 : Int32)), .val (.ref b102), .val (.int (0 : Int32)), .unset] [(.int (1 : Int32)), (.int (0 : Int32)), (.ref a1)])) := fun t_ k_ => p109 t_ (by
   refine XS.istore X106.here hx rfl (hb hby d8_12) rfl (l' := #[.val (.ref a1), .val (.int (0 : Int32)), .val (.int (1 : Int32)), .val (.ref b102), .val (.int (0 : Int32)), .unset]) rfl ?_
   refine XS.iload X106.here hx rfl (hb hby d8_14) rfl ?_
   refine XS.iloadN X106.here hx rfl (hb hby d8_16) rfl ?_
   refine XS.icmpNo X106.here hx rfl (hb hby d8_17) rfl (feq (by decide : ¬ ((0 : Int32) = (1 : Int32)))).1 ?_
   refine XS.aloadN X106.here hx rfl (hb hby d8_20) rfl rfl ?_
   refine XS.iloadN X106.here hx rfl (hb hby d8_21) rfl ?_
   refine XS.iloadN X106.here hx rfl (hb hby d8_22) rfl ?_
   exact k_)
  have f111 := (f105.keep q106_K (ninS ne_a1_b102 nin0))
  have f112 := ((O1.ext E102).keep q106_K (allS ge_b102 all0))
  obtain ⟨_, _, ⟨T113, L113, k113, n113⟩, -, X113, ⟨Lc113, hQ113, l113, y113, z113⟩, st113⟩ := Jvm.LawKit.callS X106 hx (y := (⟨"java/lang/StringUTF16", "toBytes", "([CII)[B"⟩ : MethodName)) hown (mvT hZ (own_w hw 82 rfl)) (mvT hZ (own_w hw 83 rfl)) (mvT hZ (own_w hw 44 rfl)) (mvT hZ (own_w hw 84 rfl)) (by decide) (backOf (W := 0) (rm18_U1 l Z a0 hw [] a1 k1 c0 cs1 fm T106.heap n0 (Nat.le_trans Z0 K107.1) f112 G f111) hZ (own_w hw 84 rfl) (own_w hw 44 rfl) (by decide) (by decide)) (g := (mkF m 23 #[.val (.ref a1), .val (.int (0 : Int32)), .val (.int (1 : Int32)), .val (.ref b102), .val (.int (0 : Int32)), .unset] [(.int (1 : Int32)), (.int (0 : Int32)), (.ref a1)])) rfl (by rw [hml]; rfl) (argsL := [(.ref a1), (.int (0 : Int32)), (.int (1 : Int32))]) (rest := []) (lenOf pd8 rfl) rfl (by show 2 * 0 + _ ≤ _; exact Nat.le_of_eq rfl) (hb hby d8_23) (fun _ _ => ⟨rfl, rfl, (by decide : 1 + 1 ≤ _), (by decide : 1 + 2 ≤ _)⟩)
  dsimp only [Pt.U, Pt.locs, Pt.cells, Pt.slots] at X113 l113 y113 z113 st113 hQ113
  subst l113 y113 z113
  obtain ⟨x114, x115, rfl, N113q, q113_K, q113_g, q113_z, q113_V⟩ := hQ113
  have N113 := Fr.app N106 N113q
  have K116 : Keep h0 T113.heap [] := K107.trans q113_K all0
  have ne_a1_x114 : a1 ≠ x114 := Nat.ne_of_lt (Nat.lt_of_lt_of_le f111.lt q113_z)
  have ne_b102_x114 : b102 ≠ x114 := Nat.ne_of_lt (Nat.lt_of_lt_of_le f108.lt q113_z)
  have p117 : Go p.tables e below _ (T113.setTop (mkF m 32 #[.val (.ref a1), .val (.int (0 : Int32)), .val (.int (1 : Int32)), .val (.ref b102), .val (.int (0 : Int32)), .val (.ref x114)] [(.int (0 : Int32)), (.ref x114)])) := fun t_ k_ => (gc p110 st113) t_ (by
   refine XS.astore X113.here hx rfl (hb hby d8_26) rfl rfl (l' := #[.val (.ref a1), .val (.int (0 : Int32)), .val (.int (1 : Int32)), .val (.ref b102), .val (.int (0 : Int32)), .val (.ref x114)]) rfl ?_
   refine XS.aload X113.here hx rfl (hb hby d8_28) rfl rfl ?_
   refine XS.iload X113.here hx rfl (hb hby d8_30) rfl ?_
   exact k_)
  have f118 := (f112.keep q113_K all0)
  obtain ⟨_, _, ⟨T119, L119, k119, n119⟩, -, X119, ⟨Lc119, hQ119, l119, y119, z119⟩, st119⟩ := Jvm.LawKit.callS X113 hx (y := (⟨"java/lang/StringUTF16", "getChar", "([BI)C"⟩ : MethodName)) hown (mvT hZ (own_w hw 98 rfl)) (mvT hZ (own_w hw 99 rfl)) (mvT hZ (own_w hw 44 rfl)) (mvT hZ (own_w hw 100 rfl)) (by decide) (backOf (W := 0) (rm22 l Z a0 hw [] x114 (0 : Int32) x115 (2 : Int32) [(.int (own_x0 c0)), (.int (own_x8 c0))] (own_x0 c0) (own_x8 c0) c0 cs1 fm T113.heap n0 (Nat.le_trans Z0 K116.1) f118 G q113_V (by decide) (by decide) rfl rfl (own_l16 c0 a0_ b0_)) hZ (own_w hw 100 rfl) (own_w hw 44 rfl) (by decide) (by decide)) (g := (mkF m 32 #[.val (.ref a1), .val (.int (0 : Int32)), .val (.int (1 : Int32)), .val (.ref b102), .val (.int (0 : Int32)), .val (.ref x114)] [(.int (0 : Int32)), (.ref x114)])) rfl (by rw [hml]; rfl) (argsL := [(.ref x114), (.int (0 : Int32))]) (rest := []) (lenOf pd4 rfl) rfl (by show 2 * 0 + _ ≤ _; exact Nat.le_of_eq rfl) (hb hby d8_32) (fun _ _ => ⟨rfl, rfl, (by decide : 2 + 0 ≤ _), (by decide : 3 + 0 ≤ _)⟩)
  dsimp only [Pt.U, Pt.locs, Pt.cells, Pt.slots] at X119 l119 y119 z119 st119 hQ119
  subst l119 y119 z119
  obtain ⟨rfl, N119q, q119_hh⟩ := hQ119
  have N119 := Fr.app N113 N119q
  have p120 : Go p.tables e below _ (T119.setTop (mkF m 38 #[.val (.ref a1), .val (.int (0 : Int32)), .val (.int (1 : Int32)), .val (.ref b102), .val (.int (0 : Int32)), .val (.ref x114)] [(.int (255 : Int32)), (.int c0)])) := fun t_ k_ => (gc p117 st119) t_ (by
   refine XS.sipush X119.here hx rfl (hb hby d8_35) ?_
   exact k_)
  have c121 : ((255 : Int32) < c0) := m0
  have p122 : Go p.tables e below _ (T119.setTop (mkF m 56 #[.val (.ref a1), .val (.int (0 : Int32)), .val (.int (1 : Int32)), .val (.ref b102), .val (.int (0 : Int32)), .val (.ref x114)] [(.ref x114)])) := fun t_ k_ => p120 t_ (by
   refine XS.icmpYes X119.here hx rfl (pc0 := 38) (pc' := 54) rfl (hb hby d8_38) rfl (tlt c121).2.2.1 (by decide) (by decide) ?_
   refine XS.aload X119.here hx rfl (hb hby d8_54) rfl rfl ?_
   exact k_)
  obtain ⟨fs, hr, hrun, hended, hW, hsame⟩ := X119.leave (v := some (.ref x114)) (fun h => by rw [Bd.returns] at h; cases h)
  refine ⟨_, _, p122 _ (retOut X119 hx (w := (.ref x114)) (i := .areturn) Bd.returns rfl (Or.inr (Or.inr (Or.inr (Or.inr ⟨rfl, rfl, rfl⟩)))) (hb hby d8_56) hr), hrun, hended, _, _, rfl, ?_, ⟨_, rfl⟩, hW, hsame.mono (by decide) (by decide)⟩
  show Q8_U1 Z a1 k1 c0 cs1 fm h0 n0 _ T119.heap _
  rw [q119_hh]
  exact ⟨x114, x115, rfl, N119, K116, q113_g, (Nat.le_trans K107.1 q113_z), q113_V⟩
 ·exact absurd big (by simp [m0])
theorem ef_rm10_U1 (m : MethodId) (a1 : Addr) (k1 : ClassId) (vs : List Value) : entryFrame m #[(.ref a1), (.int (1 : Int32))] 2 = mkF m 0 #[.val (.ref a1), .val (.int (1 : Int32))] [] := by first | (simp [entryFrame, mkF, argsToLocals, Value.category]; done) | rfl
def Q10_U1 (Z : State) (a1 : Addr) (k1 : ClassId) (vs : List Value) (h0 : Heap) (n0 : Nat) (v : Option Value) (h : Heap) (L : List Loc) : Prop := v = some (.int (1 : Int32)) ∧ Fr n0 L ∧ (h = h0)
set_option maxRecDepth 65536 in
set_option maxHeartbeats 40000000 in
theorem rm10_U1 (l : Launch) (Z : State) (a0 : Array Value) (hw : ∀ d ∈ tables_1, d.before a0 Z = true) (ws : List Jvm.Cond) (a1 : Addr) (k1 : ClassId) (vs : List Value) (h0 : Heap) (n0 : Nat) (Z0 : n0 ≤ h0.size) (V1 : Arv Z h0 a1 k1 .byte (2 : Int32) vs (.int (0 : Int32))) :
  MetFree l (⟨"java/lang/StringUTF16", "coderFromArrayLen", "([BI)B"⟩ : MethodName) (head1 (Jvm.Cond.code (⟨"java/lang/StringUTF16", "coderFromArrayLen", "([BI)B"⟩ : MethodName) jdk_52_method_15_code 2 (some .byte) :: ws) ({ frames := 0, cells := 0, slots := 0, locals := 0 } : Room)) (fun a U => a = #[(.ref a1), (.int (1 : Int32))] ∧ Z.Warmed39 U.vm ∧ U.heap = h0) (fun _ _ _ _ _ => True) (fun _ U o U' => ∃ v L, o = .returned v ∧ Q10_U1 Z a1 k1 vs h0 n0 v U'.heap L ∧ FrameEnd U o U' L ({ frames := 0, cells := 0, slots := 0, locals := 0 } : Room).cells ({ frames := 0, cells := 0, slots := 0, locals := 0 } : Room).slots) := by
 refine MetFree.of_bodySF pn10 hisR ?_
 intro p e s m args below meth c s₁ Bd hml0 hP hK
 obtain ⟨rfl, hZ, hh⟩ := hP
 have hx := Bd.exec
 have hby := Bd.bytes
 have hml : c.maxLocals = 2 := hml0
 have hown : s.vm.findClass "java/lang/StringUTF16" = some m.cls := findClass_of_methodNamed Bd.named
 have hnm := (name_of_methodNamed Bd.named Bd.method).1
 have X0 : Stand p l e ({ frames := 0, cells := 0, slots := 0, locals := 0 } : Room) s m #[(.ref a1), (.int (1 : Int32))] below meth c s₁ [] 0 0 := Stand.of_body Bd
 have e0 : s₁.heap = h0 := by rw [← hh, Bd.state]; rfl
 have N0 := Fr.nil n0
 have p0 : Go p.tables e below (s₁.setTop (entryFrame m #[(.ref a1), (.int (1 : Int32))] 2)) (s₁.setTop (mkF m 0 #[.val (.ref a1), .val (.int (1 : Int32))] [])) := fun t_ k_ => castTop (ef_rm10_U1 m a1 k1 vs) k_
 have p101 : Go p.tables e below _ (s₁.setTop (mkF m 2 #[.val (.ref a1), .val (.int (1 : Int32))] [(.ref a1), (.int (1 : Int32))])) := fun t_ k_ => p0 t_ (by
  refine XS.iloadN X0.here hx rfl (hb hby d10_0) rfl ?_
  refine XS.aloadN X0.here hx rfl (hb hby d10_1) rfl rfl ?_
  exact k_)
 obtain ⟨cl102, Ar102, -, S102, Ng102, -, -⟩ := id V1
 have p103 : Go p.tables e below _ (s₁.setTop (mkF m 8 #[.val (.ref a1), .val (.int (1 : Int32))] [(.int (1 : Int32))])) := fun t_ k_ => p101 t_ (by
  refine X0.arraylength hx (by rw [e0]; exact Ar102.1) (State.isArrayOf_alike hZ.alike Ar102.2.1) (g := (mkF m 2 #[.val (.ref a1), .val (.int (1 : Int32))] [(.ref a1), (.int (1 : Int32))])) rfl rfl (hb hby d10_2) _ ?_
  rw [len_of S102 Ng102]
  show Steps p.tables e below (s₁.setTop (mkF m 3 #[.val (.ref a1), .val (.int (1 : Int32))] [(.int (2 : Int32)), (.int (1 : Int32))])) _
  refine XS.isub X0.here hx rfl (hb hby d10_3) rfl ?_
  refine XS.bipush X0.here hx rfl (hb hby d10_4) ?_
  refine XS.iushr X0.here hx rfl (hb hby d10_6) rfl ?_
  refine XS.i2b X0.here hx rfl (hb hby d10_7) rfl ?_
  exact k_)
 obtain ⟨fs, hr, hrun, hended, hW, hsame⟩ := X0.leave (v := some (.int (1 : Int32))) (fun h => by rw [Bd.returns] at h; cases h)
 refine ⟨_, _, p103 _ (retN X0 hx (t := .byte) Bd.returns (by simp) (hb hby d10_8) hr), hrun, hended, _, _, rfl, ?_, ⟨_, rfl⟩, hW, hsame.mono (by decide) (by decide)⟩
 show Q10_U1 Z a1 k1 vs h0 n0 _ s₁.heap _
 rw [e0]
 exact ⟨rfl, N0, rfl⟩
theorem ef_rm3_U1 (m : MethodId) (a1 : Addr) (a2 : Addr) (k1 : ClassId) (c0 : Int32) (cs1 : Int32) (fm : Value) : entryFrame m #[(.ref a1), (.ref a2), (.int (0 : Int32)), (.int (1 : Int32)), .null] 6 = mkF m 0 #[.val (.ref a1), .val (.ref a2), .val (.int (0 : Int32)), .val (.int (1 : Int32)), .val .null, .unset] [] := by first | (simp [entryFrame, mkF, argsToLocals, Value.category]; done) | rfl
def Q3_U1 (Z : State) (a1 : Addr) (a2 : Addr) (k1 : ClassId) (c0 : Int32) (cs1 : Int32) (fm : Value) (h0 : Heap) (n0 : Nat) (v : Option Value) (h : Heap) (L : List Loc) : Prop := ∃ (b : Addr) (kb : ClassId), v = none ∧ Fr n0 L ∧ (Keep h0 h [a1]) ∧ (Exa Z h a1 "java/lang/String") ∧ (Fld Z h a1 "java/lang/String" "coder" "B" (.int (1 : Int32))) ∧ (Fld Z h a1 "java/lang/String" "value" "[B" (.ref b)) ∧ (n0 ≤ b) ∧ (h0.size ≤ b) ∧ (Arv Z h b kb .byte (2 : Int32) [(.int (own_x0 c0)), (.int (own_x8 c0))] (.int (0 : Int32))) ∧ (a1 ≠ b)
set_option maxRecDepth 65536 in
set_option maxHeartbeats 40000000 in
theorem rm3_U1 (l : Launch) (Z : State) (a0 : Array Value) (hw : ∀ d ∈ tables_1, d.before a0 Z = true) (ws : List Jvm.Cond) (a1 : Addr) (a2 : Addr) (k1 : ClassId) (c0 : Int32) (cs1 : Int32) (fm : Value) (h0 : Heap) (n0 : Nat) (Z0 : n0 ≤ h0.size) (O1 : Old Z n0 h0) (G : own_G Z cs1 fm) (F1 : Fld Z h0 a1 "java/lang/String" "coder" "B" (.int (0 : Int32))) (F2 : Fld Z h0 a1 "java/lang/String" "value" "[B" .null) (E1 : Exa Z h0 a1 "java/lang/String") (V1 : Arv Z h0 a2 k1 .char (1 : Int32) [(.int c0)] (.int (0 : Int32))) (ne : a1 ≠ a2) (g1 : n0 ≤ a1) (a0_ : ¬ (c0 < (0 : Int32))) (b0_ : ¬ ((65535 : Int32) < c0)) (big : ((255 : Int32) < c0)) :
  MetFree l (⟨"java/lang/String", "<init>", "([CIILjava/lang/Void;)V"⟩ : MethodName) (head1 (Jvm.Cond.code (⟨"java/lang/String", "<init>", "([CIILjava/lang/Void;)V"⟩ : MethodName) jdk_42_method_149_code 6 none :: ws) ({ frames := 4, cells := 2, slots := 3, locals := 57 } : Room)) (fun a U => a = #[(.ref a1), (.ref a2), (.int (0 : Int32)), (.int (1 : Int32)), .null] ∧ Z.Warmed39 U.vm ∧ U.heap = h0) (fun _ _ _ _ _ => True) (fun _ U o U' => ∃ v L, o = .returned v ∧ Q3_U1 Z a1 a2 k1 c0 cs1 fm h0 n0 v U'.heap L ∧ FrameEnd U o U' L ({ frames := 4, cells := 2, slots := 3, locals := 57 } : Room).cells ({ frames := 4, cells := 2, slots := 3, locals := 57 } : Room).slots) := by
 refine MetFree.of_bodySF pn3 hisR ?_
 intro p e s m args below meth c s₁ Bd hml0 hP hK
 obtain ⟨rfl, hZ, hh⟩ := hP
 have hx := Bd.exec
 have hby := Bd.bytes
 have hml : c.maxLocals = 6 := hml0
 have hown : s.vm.findClass "java/lang/String" = some m.cls := findClass_of_methodNamed Bd.named
 have hnm := (name_of_methodNamed Bd.named Bd.method).1
 have X0 : Stand p l e ({ frames := 4, cells := 2, slots := 3, locals := 57 } : Room) s m #[(.ref a1), (.ref a2), (.int (0 : Int32)), (.int (1 : Int32)), .null] below meth c s₁ [] 0 0 := Stand.of_body Bd
 have e0 : s₁.heap = h0 := by rw [← hh, Bd.state]; rfl
 have N0 := Fr.nil n0
 have p0 : Go p.tables e below (s₁.setTop (entryFrame m #[(.ref a1), (.ref a2), (.int (0 : Int32)), (.int (1 : Int32)), .null] 6)) (s₁.setTop (mkF m 0 #[.val (.ref a1), .val (.ref a2), .val (.int (0 : Int32)), .val (.int (1 : Int32)), .val .null, .unset] [])) := fun t_ k_ => castTop (ef_rm3_U1 m a1 a2 k1 c0 cs1 fm) k_
 have p101 : Go p.tables e below _ (s₁.setTop (mkF m 1 #[.val (.ref a1), .val (.ref a2), .val (.int (0 : Int32)), .val (.int (1 : Int32)), .val .null, .unset] [(.ref a1)])) := fun t_ k_ => p0 t_ (by
  refine XS.aloadN X0.here hx rfl (hb hby d3_0) rfl rfl ?_
  exact k_)
 obtain ⟨T102, X102, e102, st102⟩ := initO X0 hx hZ hown (own_w hw 16 rfl) (own_w hw 17 rfl) (own_w hw 18 rfl) e0 (g := (mkF m 1 #[.val (.ref a1), .val (.ref a2), .val (.int (0 : Int32)), .val (.int (1 : Int32)), .val .null, .unset] [(.ref a1)])) rfl (by rw [hml]; rfl) rfl (hb hby d3_1) (by decide) (W := 0) (by show 2 * 0 + _ ≤ _; exact Nat.le_of_eq rfl) (by decide)
 have p103 : Go p.tables e below _ (T102.setTop (mkF m 27 #[.val (.ref a1), .val (.ref a2), .val (.int (0 : Int32)), .val (.int (1 : Int32)), .val .null, .unset] [])) := fun t_ k_ => (gc p101 st102) t_ (by
  refine XS.iloadN X102.here hx rfl (hb hby d3_4) rfl ?_
  refine XS.ifYes X102.here hx rfl (pc0 := 5) (pc' := 27) rfl (hb hby d3_5) rfl ((if0 _ _).trans (feq (by decide : ¬ ((1 : Int32) = (0 : Int32)))).2) (by decide) (by decide) ?_
  exact k_)
 obtain ⟨T104, X104, e104, st104⟩ := getS2 X102 hx hZ hown (host := "") (Or.inl (own_w hw 41 rfl)) Via.refl e102 (G.1.ext O1.2) (g := (mkF m 27 #[.val (.ref a1), .val (.ref a2), .val (.int (0 : Int32)), .val (.int (1 : Int32)), .val .null, .unset] [])) rfl (hb hby d3_27)
 have c105 : ¬ (cs1 = (0 : Int32)) := G.2.1
 have p106 : Go p.tables e below _ (T104.setTop (mkF m 36 #[.val (.ref a1), .val (.ref a2), .val (.int (0 : Int32)), .val (.int (1 : Int32)), .val .null, .unset] [(.int (1 : Int32)), (.int (0 : Int32)), (.ref a2)])) := fun t_ k_ => (gc p103 st104) t_ (by
  refine XS.ifNo X104.here hx rfl (hb hby d3_30) rfl ((if0 _ _).trans (feq c105).1) ?_
  refine XS.aloadN X104.here hx rfl (hb hby d3_33) rfl rfl ?_
  refine XS.iloadN X104.here hx rfl (hb hby d3_34) rfl ?_
  refine XS.iloadN X104.here hx rfl (hb hby d3_35) rfl ?_
  exact k_)
 obtain ⟨_, _, ⟨T107, L107, k107, n107⟩, -, X107, ⟨Lc107, hQ107, l107, y107, z107⟩, st107⟩ := Jvm.LawKit.callS X104 hx (y := (⟨"java/lang/StringUTF16", "compress", "([CII)[B"⟩ : MethodName)) hown (mvT hZ (own_w hw 42 rfl)) (mvT hZ (own_w hw 43 rfl)) (mvT hZ (own_w hw 44 rfl)) (mvT hZ (own_w hw 45 rfl)) (by decide) (backOf (W := 0) (rm8_U1 l Z a0 hw [] a2 k1 c0 cs1 fm h0 n0 (Nat.le_trans Z0 (Keep.refl h0 [a1]).1) O1 G V1 a0_ b0_ big) hZ (own_w hw 45 rfl) (own_w hw 44 rfl) (by decide) (by decide)) (g := (mkF m 36 #[.val (.ref a1), .val (.ref a2), .val (.int (0 : Int32)), .val (.int (1 : Int32)), .val .null, .unset] [(.int (1 : Int32)), (.int (0 : Int32)), (.ref a2)])) rfl (by rw [hml]; rfl) (argsL := [(.ref a2), (.int (0 : Int32)), (.int (1 : Int32))]) (rest := []) (lenOf pd8 rfl) rfl (by show 2 * 0 + _ ≤ _; exact Nat.le_of_eq rfl) (hb hby d3_36) (fun _ _ => ⟨rfl, e104, (by decide : 0 + 2 ≤ _), (by decide : 0 + 3 ≤ _)⟩)
 dsimp only [Pt.U, Pt.locs, Pt.cells, Pt.slots] at X107 l107 y107 z107 st107 hQ107
 subst l107 y107 z107
 obtain ⟨x108, x109, rfl, N107q, q107_K, q107_g, q107_z, q107_V⟩ := hQ107
 have N107 := Fr.app N0 N107q
 have K110 : Keep h0 T107.heap [a1] := (Keep.refl h0 [a1]).trans q107_K all0
 have ne_a1_x108 : a1 ≠ x108 := Nat.ne_of_lt (Nat.lt_of_lt_of_le E1.lt q107_z)
 have ne_a2_x108 : a2 ≠ x108 := Nat.ne_of_lt (Nat.lt_of_lt_of_le V1.lt q107_z)
 have p111 : Go p.tables e below _ (T107.setTop (mkF m 45 #[.val (.ref a1), .val (.ref a2), .val (.int (0 : Int32)), .val (.int (1 : Int32)), .val .null, .val (.ref x108)] [(.int (1 : Int32)), (.ref x108), (.ref a1)])) := fun t_ k_ => (gc p106 st107) t_ (by
  refine XS.astore X107.here hx rfl (hb hby d3_39) rfl rfl (l' := #[.val (.ref a1), .val (.ref a2), .val (.int (0 : Int32)), .val (.int (1 : Int32)), .val .null, .val (.ref x108)]) rfl ?_
  refine XS.aloadN X107.here hx rfl (hb hby d3_41) rfl rfl ?_
  refine XS.aload X107.here hx rfl (hb hby d3_42) rfl rfl ?_
  refine XS.iloadN X107.here hx rfl (hb hby d3_44) rfl ?_
  exact k_)
 obtain ⟨_, _, ⟨T112, L112, k112, n112⟩, -, X112, ⟨Lc112, hQ112, l112, y112, z112⟩, st112⟩ := Jvm.LawKit.callS X107 hx (y := (⟨"java/lang/StringUTF16", "coderFromArrayLen", "([BI)B"⟩ : MethodName)) hown (mvT hZ (own_w hw 49 rfl)) (mvT hZ (own_w hw 50 rfl)) (mvT hZ (own_w hw 44 rfl)) (mvT hZ (own_w hw 51 rfl)) (by decide) (backOf (W := 1) (rm10_U1 l Z a0 hw [] x108 x109 [(.int (own_x0 c0)), (.int (own_x8 c0))] T107.heap n0 (Nat.le_trans Z0 K110.1) q107_V) hZ (own_w hw 51 rfl) (own_w hw 44 rfl) (by decide) (by decide)) (g := (mkF m 45 #[.val (.ref a1), .val (.ref a2), .val (.int (0 : Int32)), .val (.int (1 : Int32)), .val .null, .val (.ref x108)] [(.int (1 : Int32)), (.ref x108), (.ref a1)])) rfl (by rw [hml]; rfl) (argsL := [(.ref x108), (.int (1 : Int32))]) (rest := [(.ref a1)]) (lenOf pd9 rfl) rfl (by show 2 * 0 + _ ≤ _; exact Nat.le_of_eq rfl) (hb hby d3_45) (fun _ _ => ⟨rfl, rfl, (by decide : 2 + 0 ≤ _), (by decide : 3 + 0 ≤ _)⟩)
 dsimp only [Pt.U, Pt.locs, Pt.cells, Pt.slots] at X112 l112 y112 z112 st112 hQ112
 subst l112 y112 z112
 obtain ⟨rfl, N112q, q112_hh⟩ := hQ112
 have N112 := Fr.app N107 N112q
 have f113 := (F1.keep q107_K nin0)
 have f114 := (E1.keep q107_K)
 obtain ⟨T115, h115, X115, e115, W115, st115⟩ := putFN X112 hx hZ hown (own_w hw 26 rfl) Via.refl q112_hh f113 f114 (Or.inr ⟨(own_w hw 22 rfl), rfl, hnm⟩) (own_w hw 7 rfl) (ty := .byte) (v' := (.int (1 : Int32))) (by decide) rfl (by decide) (g := (mkF m 48 #[.val (.ref a1), .val (.ref a2), .val (.int (0 : Int32)), .val (.int (1 : Int32)), .val .null, .val (.ref x108)] [(.int (1 : Int32)), (.ref a1)])) rfl rfl (hb hby d3_48)
 have K116 : Keep h0 h115 [a1] := K110.wr W115 (Or.inl (List.mem_of_getElem? (i := 0) rfl))
 have N115 := Fr.snoc X115 N112 g1
 have F115 : Fld Z h115 a1 "java/lang/String" "coder" "B" (.int (1 : Int32)) := f113.same W115
 have p117 : Go p.tables e below _ (T115.setTop (mkF m 54 #[.val (.ref a1), .val (.ref a2), .val (.int (0 : Int32)), .val (.int (1 : Int32)), .val .null, .val (.ref x108)] [(.ref x108), (.ref a1)])) := fun t_ k_ => (gc (gc p111 st112) st115) t_ (by
  refine XS.aloadN X115.here hx rfl (hb hby d3_51) rfl rfl ?_
  refine XS.aload X115.here hx rfl (hb hby d3_52) rfl rfl ?_
  exact k_)
 have f118 := ((F2.keep q107_K nin0).other W115 (Or.inr (slot_ne (Or.inr (own_w hw 21 rfl)) (Or.inr (own_w hw 22 rfl)) (by decide) (t := (.array .byte)) (t' := .byte) (by decide) (by decide))))
 have f119 := (f114.wr W115)
 obtain ⟨T120, h120, X120, e120, W120, st120⟩ := putF X115 hx hZ hown (host := "") (Or.inl (own_w hw 25 rfl)) Via.refl e115 f118 f119 (Or.inr ⟨(own_w hw 21 rfl), rfl, hnm⟩) (own_w hw 7 rfl) (ty := (.array .byte)) (by decide) rfl rfl (g := (mkF m 54 #[.val (.ref a1), .val (.ref a2), .val (.int (0 : Int32)), .val (.int (1 : Int32)), .val .null, .val (.ref x108)] [(.ref x108), (.ref a1)])) rfl rfl (hb hby d3_54)
 have K121 : Keep h0 h120 [a1] := K116.wr W120 (Or.inl (List.mem_of_getElem? (i := 0) rfl))
 have N120 := Fr.snoc X120 N115 g1
 have F120 : Fld Z h120 a1 "java/lang/String" "value" "[B" (.ref x108) := f118.same W120
 have f122 := (f119.wr W120)
 have f123 := (F115.other W120 (Or.inr (slot_ne (Or.inr (own_w hw 22 rfl)) (Or.inr (own_w hw 21 rfl)) (by decide) (t := .byte) (t' := (.array .byte)) (by decide) (by decide))))
 have f124 := ((q107_V.other W115 (Ne.symm ne_a1_x108)).other W120 (Ne.symm ne_a1_x108))
 obtain ⟨fs, hr, hrun, hended, hW, hsame⟩ := X120.leave (v := none) (fun _ => rfl)
 refine ⟨_, _, (gc p117 st120) _ (X120.returnOut hx Bd.returns (hb hby d3_57) hr), hrun, hended, _, _, rfl, ?_, ⟨_, rfl⟩, hW, hsame.mono (by decide) (by decide)⟩
 show Q3_U1 Z a1 a2 k1 c0 cs1 fm h0 n0 _ T120.heap _
 rw [e120]
 exact ⟨x108, x109, rfl, N120, K121, f122, f123, F120, q107_g, (Nat.le_trans (Keep.refl h0 [a1]).1 q107_z), f124, ne_a1_x108⟩
theorem ef_rm2_U1 (m : MethodId) (a1 : Addr) (a2 : Addr) (k1 : ClassId) (c0 : Int32) (cs1 : Int32) (fm : Value) : entryFrame m #[(.ref a1), (.ref a2)] 2 = mkF m 0 #[.val (.ref a1), .val (.ref a2)] [] := by first | (simp [entryFrame, mkF, argsToLocals, Value.category]; done) | rfl
def Q2_U1 (Z : State) (a1 : Addr) (a2 : Addr) (k1 : ClassId) (c0 : Int32) (cs1 : Int32) (fm : Value) (h0 : Heap) (n0 : Nat) (v : Option Value) (h : Heap) (L : List Loc) : Prop := ∃ (b : Addr) (kb : ClassId), v = none ∧ Fr n0 L ∧ (Keep h0 h [a1]) ∧ (Exa Z h a1 "java/lang/String") ∧ (Fld Z h a1 "java/lang/String" "coder" "B" (.int (1 : Int32))) ∧ (Fld Z h a1 "java/lang/String" "value" "[B" (.ref b)) ∧ (n0 ≤ b) ∧ (h0.size ≤ b) ∧ (Arv Z h b kb .byte (2 : Int32) [(.int (own_x0 c0)), (.int (own_x8 c0))] (.int (0 : Int32))) ∧ (a1 ≠ b)
set_option maxRecDepth 65536 in
set_option maxHeartbeats 40000000 in
theorem rm2_U1 (l : Launch) (Z : State) (a0 : Array Value) (hw : ∀ d ∈ tables_1, d.before a0 Z = true) (ws : List Jvm.Cond) (a1 : Addr) (a2 : Addr) (k1 : ClassId) (c0 : Int32) (cs1 : Int32) (fm : Value) (h0 : Heap) (n0 : Nat) (Z0 : n0 ≤ h0.size) (O1 : Old Z n0 h0) (G : own_G Z cs1 fm) (F1 : Fld Z h0 a1 "java/lang/String" "coder" "B" (.int (0 : Int32))) (F2 : Fld Z h0 a1 "java/lang/String" "value" "[B" .null) (E1 : Exa Z h0 a1 "java/lang/String") (V1 : Arv Z h0 a2 k1 .char (1 : Int32) [(.int c0)] (.int (0 : Int32))) (ne : a1 ≠ a2) (g1 : n0 ≤ a1) (a0_ : ¬ (c0 < (0 : Int32))) (b0_ : ¬ ((65535 : Int32) < c0)) (big : ((255 : Int32) < c0)) :
  MetFree l (⟨"java/lang/String", "<init>", "([C)V"⟩ : MethodName) (head1 (Jvm.Cond.code (⟨"java/lang/String", "<init>", "([C)V"⟩ : MethodName) jdk_42_method_3_code 2 none :: ws) ({ frames := 5, cells := 2, slots := 3, locals := 74 } : Room)) (fun a U => a = #[(.ref a1), (.ref a2)] ∧ Z.Warmed39 U.vm ∧ U.heap = h0) (fun _ _ _ _ _ => True) (fun _ U o U' => ∃ v L, o = .returned v ∧ Q2_U1 Z a1 a2 k1 c0 cs1 fm h0 n0 v U'.heap L ∧ FrameEnd U o U' L ({ frames := 5, cells := 2, slots := 3, locals := 74 } : Room).cells ({ frames := 5, cells := 2, slots := 3, locals := 74 } : Room).slots) := by
 refine MetFree.of_bodySF pn2 hisR ?_
 intro p e s m args below meth c s₁ Bd hml0 hP hK
 obtain ⟨rfl, hZ, hh⟩ := hP
 have hx := Bd.exec
 have hby := Bd.bytes
 have hml : c.maxLocals = 2 := hml0
 have hown : s.vm.findClass "java/lang/String" = some m.cls := findClass_of_methodNamed Bd.named
 have hnm := (name_of_methodNamed Bd.named Bd.method).1
 have X0 : Stand p l e ({ frames := 5, cells := 2, slots := 3, locals := 74 } : Room) s m #[(.ref a1), (.ref a2)] below meth c s₁ [] 0 0 := Stand.of_body Bd
 have e0 : s₁.heap = h0 := by rw [← hh, Bd.state]; rfl
 have N0 := Fr.nil n0
 have p0 : Go p.tables e below (s₁.setTop (entryFrame m #[(.ref a1), (.ref a2)] 2)) (s₁.setTop (mkF m 0 #[.val (.ref a1), .val (.ref a2)] [])) := fun t_ k_ => castTop (ef_rm2_U1 m a1 a2 k1 c0 cs1 fm) k_
 have p101 : Go p.tables e below _ (s₁.setTop (mkF m 4 #[.val (.ref a1), .val (.ref a2)] [(.ref a2), (.int (0 : Int32)), (.ref a2), (.ref a1)])) := fun t_ k_ => p0 t_ (by
  refine XS.aloadN X0.here hx rfl (hb hby d2_0) rfl rfl ?_
  refine XS.aloadN X0.here hx rfl (hb hby d2_1) rfl rfl ?_
  refine XS.iconst X0.here hx rfl (hb hby d2_2) ?_
  refine XS.aloadN X0.here hx rfl (hb hby d2_3) rfl rfl ?_
  exact k_)
 obtain ⟨cl102, Ar102, -, S102, Ng102, -, -⟩ := id V1
 have p103 : Go p.tables e below _ (s₁.setTop (mkF m 6 #[.val (.ref a1), .val (.ref a2)] [.null, (.int (1 : Int32)), (.int (0 : Int32)), (.ref a2), (.ref a1)])) := fun t_ k_ => p101 t_ (by
  refine X0.arraylength hx (by rw [e0]; exact Ar102.1) (State.isArrayOf_alike hZ.alike Ar102.2.1) (g := (mkF m 4 #[.val (.ref a1), .val (.ref a2)] [(.ref a2), (.int (0 : Int32)), (.ref a2), (.ref a1)])) rfl rfl (hb hby d2_4) _ ?_
  rw [len_of S102 Ng102]
  show Steps p.tables e below (s₁.setTop (mkF m 5 #[.val (.ref a1), .val (.ref a2)] [(.int (1 : Int32)), (.int (0 : Int32)), (.ref a2), (.ref a1)])) _
  refine XS.aconstNull X0.here hx rfl (hb hby d2_5) ?_
  exact k_)
 obtain ⟨_, _, ⟨T104, L104, k104, n104⟩, -, X104, ⟨Lc104, hQ104, l104, y104, z104⟩, st104⟩ := X0.specialBack hx (y := (⟨"java/lang/String", "<init>", "([CIILjava/lang/Void;)V"⟩ : MethodName)) rfl hown (mvT hZ (own_w hw 12 rfl)) (mvT hZ (own_w hw 13 rfl)) (mvT hZ (own_w hw 15 rfl)) (by decide) (backOf (W := 0) (rm3_U1 l Z a0 hw [] a1 a2 k1 c0 cs1 fm h0 n0 (Nat.le_trans Z0 (Keep.refl h0 [a1]).1) O1 G F1 F2 E1 V1 ne g1 a0_ b0_ big) hZ (own_w hw 15 rfl) (own_w hw 8 rfl) (by decide) (by decide)) (g := (mkF m 6 #[.val (.ref a1), .val (.ref a2)] [.null, (.int (1 : Int32)), (.int (0 : Int32)), (.ref a2), (.ref a1)])) rfl (by rw [hml]; rfl) (Steps.refl _) (a := a1) (argsL := [(.ref a2), (.int (0 : Int32)), (.int (1 : Int32)), .null]) (rest := []) (lenOf pd10 rfl) rfl (by show 2 * 0 + _ ≤ _; exact Nat.le_of_eq rfl) (hb hby d2_6) (fun _ _ => ⟨rfl, e0, (by decide : 0 + 2 ≤ _), (by decide : 0 + 3 ≤ _)⟩)
 dsimp only [Pt.U, Pt.locs, Pt.cells, Pt.slots] at X104 l104 y104 z104 st104 hQ104
 subst l104 y104 z104
 obtain ⟨x105, x106, rfl, N104q, q104_K, q104_E, q104_c, q104_v, q104_g, q104_z, q104_V, q104_n⟩ := hQ104
 have N104 := Fr.app N0 N104q
 have K107 : Keep h0 T104.heap [a1] := (Keep.refl h0 [a1]).trans q104_K (allS (Or.inl (List.mem_of_getElem? (i := 0) rfl)) all0)
 have ne_a1_x105 : a1 ≠ x105 := Nat.ne_of_lt (Nat.lt_of_lt_of_le E1.lt q104_z)
 have ne_a2_x105 : a2 ≠ x105 := Nat.ne_of_lt (Nat.lt_of_lt_of_le V1.lt q104_z)
 obtain ⟨fs, hr, hrun, hended, hW, hsame⟩ := X104.leave (v := none) (fun _ => rfl)
 refine ⟨_, _, (gcT p103 st104) _ (X104.returnOut hx Bd.returns (hb hby d2_9) hr), hrun, hended, _, _, rfl, ?_, ⟨_, rfl⟩, hW, hsame.mono (by decide) (by decide)⟩
 show Q2_U1 Z a1 a2 k1 c0 cs1 fm h0 n0 _ T104.heap _
 exact ⟨x105, x106, rfl, N104, K107, q104_E, q104_c, q104_v, q104_g, (Nat.le_trans (Keep.refl h0 [a1]).1 q104_z), q104_V, q104_n⟩
theorem ef_rm8_L2 (m : MethodId) (a1 : Addr) (k1 : ClassId) (c0 : Int32) (c1 : Int32) : entryFrame m #[(.ref a1), (.int (0 : Int32)), (.int (2 : Int32))] 6 = mkF m 0 #[.val (.ref a1), .val (.int (0 : Int32)), .val (.int (2 : Int32)), .unset, .unset, .unset] [] := by first | (simp [entryFrame, mkF, argsToLocals, Value.category]; done) | rfl
def Q8_L2 (Z : State) (a1 : Addr) (k1 : ClassId) (c0 : Int32) (c1 : Int32) (h0 : Heap) (n0 : Nat) (v : Option Value) (h : Heap) (L : List Loc) : Prop := ∃ (b : Addr) (kb : ClassId), v = some (.ref b) ∧ Fr n0 L ∧ (Keep h0 h []) ∧ (n0 ≤ b) ∧ (h0.size ≤ b) ∧ (Arv Z h b kb .byte (2 : Int32) [(.int (own_xl c0)), (.int (own_xl c1))] (.int (0 : Int32)))
set_option maxRecDepth 65536 in
set_option maxHeartbeats 40000000 in
theorem rm8_L2 (l : Launch) (Z : State) (a0 : Array Value) (hw : ∀ d ∈ tables_1, d.before a0 Z = true) (ws : List Jvm.Cond) (a1 : Addr) (k1 : ClassId) (c0 : Int32) (c1 : Int32) (h0 : Heap) (n0 : Nat) (Z0 : n0 ≤ h0.size) (V1 : Arv Z h0 a1 k1 .char (2 : Int32) [(.int c0), (.int c1)] (.int (0 : Int32))) (l0 : ¬ ((255 : Int32) < c0)) (l1 : ¬ ((255 : Int32) < c1)) :
  MetFree l (⟨"java/lang/StringUTF16", "compress", "([CII)[B"⟩ : MethodName) (head1 (Jvm.Cond.code (⟨"java/lang/StringUTF16", "compress", "([CII)[B"⟩ : MethodName) jdk_52_method_16_code 6 (some (.array .byte)) :: ws) ({ frames := 1, cells := 1, slots := 2, locals := 18 } : Room)) (fun a U => a = #[(.ref a1), (.int (0 : Int32)), (.int (2 : Int32))] ∧ Z.Warmed39 U.vm ∧ U.heap = h0) (fun _ _ _ _ _ => True) (fun _ U o U' => ∃ v L, o = .returned v ∧ Q8_L2 Z a1 k1 c0 c1 h0 n0 v U'.heap L ∧ FrameEnd U o U' L ({ frames := 1, cells := 1, slots := 2, locals := 18 } : Room).cells ({ frames := 1, cells := 1, slots := 2, locals := 18 } : Room).slots) := by
 refine MetFree.of_bodySF pn8 hisR ?_
 intro p e s m args below meth c s₁ Bd hml0 hP hK
 obtain ⟨rfl, hZ, hh⟩ := hP
 have hx := Bd.exec
 have hby := Bd.bytes
 have hml : c.maxLocals = 6 := hml0
 have hown : s.vm.findClass "java/lang/StringUTF16" = some m.cls := findClass_of_methodNamed Bd.named
 have hnm := (name_of_methodNamed Bd.named Bd.method).1
 have X0 : Stand p l e ({ frames := 1, cells := 1, slots := 2, locals := 18 } : Room) s m #[(.ref a1), (.int (0 : Int32)), (.int (2 : Int32))] below meth c s₁ [] 0 0 := Stand.of_body Bd
 have e0 : s₁.heap = h0 := by rw [← hh, Bd.state]; rfl
 have N0 := Fr.nil n0
 have p0 : Go p.tables e below (s₁.setTop (entryFrame m #[(.ref a1), (.int (0 : Int32)), (.int (2 : Int32))] 6)) (s₁.setTop (mkF m 0 #[.val (.ref a1), .val (.int (0 : Int32)), .val (.int (2 : Int32)), .unset, .unset, .unset] [])) := fun t_ k_ => castTop (ef_rm8_L2 m a1 k1 c0 c1) k_
 have p101 : Go p.tables e below _ (s₁.setTop (mkF m 1 #[.val (.ref a1), .val (.int (0 : Int32)), .val (.int (2 : Int32)), .unset, .unset, .unset] [(.int (2 : Int32))])) := fun t_ k_ => p0 t_ (by
  refine XS.iloadN X0.here hx rfl (hb hby d8_0) rfl ?_
  exact k_)
 obtain ⟨T102, h102, k102, X102, e102, E102, A102, st102⟩ := newP X0 hx hZ (own_w hw 20 rfl) e0 (g := (mkF m 1 #[.val (.ref a1), .val (.int (0 : Int32)), .val (.int (2 : Int32)), .unset, .unset, .unset] [(.int (2 : Int32))])) rfl (hb hby d8_1) rfl (by decide) (cap := 2) (by decide) (by decide) (by decide) (by decide)
 obtain ⟨b102, g102⟩ : ∃ z, z = h0.size := ⟨_, rfl⟩
 rw [← g102] at A102 st102
 have ne_a1_b102 : a1 ≠ b102 := Nat.ne_of_lt (Nat.lt_of_lt_of_le V1.lt (Nat.le_of_eq g102.symm))
 have ge_b102 : n0 ≤ b102 := Nat.le_trans (Nat.le_trans Z0 (Keep.refl h0 []).1) (Nat.le_of_eq g102.symm)
 have sz_b102 : h0.size ≤ b102 := Nat.le_trans (Keep.refl h0 []).1 (Nat.le_of_eq g102.symm)
 have K103 : Keep h0 h102 [] := (Keep.refl h0 []).ext E102
 have V102 : Arv Z h102 b102 k102 .byte (2 : Int32) [(.int (0 : Int32)), (.int (0 : Int32))] (.int (0 : Int32)) := (Arv.new A102 (by decide)).pad (pad_rep [] (.int (0 : Int32)) 2)
 have p104 : Go p.tables e below _ (T102.setTop (mkF m 9 #[.val (.ref a1), .val (.int (0 : Int32)), .val (.int (2 : Int32)), .val (.ref b102), .unset, .unset] [(.int (2 : Int32)), (.int (0 : Int32)), (.ref b102), (.int (0 : Int32)), (.ref a1)])) := fun t_ k_ => (gc p101 st102) t_ (by
  refine XS.astoreN X102.here hx rfl (hb hby d8_3) rfl rfl (l' := #[.val (.ref a1), .val (.int (0 : Int32)), .val (.int (2 : Int32)), .val (.ref b102), .unset, .unset]) rfl ?_
  refine XS.aloadN X102.here hx rfl (hb hby d8_4) rfl rfl ?_
  refine XS.iloadN X102.here hx rfl (hb hby d8_5) rfl ?_
  refine XS.aloadN X102.here hx rfl (hb hby d8_6) rfl rfl ?_
  refine XS.iconst X102.here hx rfl (hb hby d8_7) ?_
  refine XS.iloadN X102.here hx rfl (hb hby d8_8) rfl ?_
  exact k_)
 have hl105 : ∀ j, j < 2 → ¬ ((255 : Int32) < own_at [c0, c1] j) := by
  intro j hj
  rcases (by omega : j = 0 ∨ j = 1) with rfl | rfl
  ·exact l0
  ·exact l1
 have f106 := (V1.ext E102)
 obtain ⟨_, _, ⟨T107, L107, k107, n107⟩, -, X107, ⟨Lc107, hQ107, l107, y107, z107⟩, st107⟩ := Jvm.LawKit.callS X102 hx (y := (⟨"java/lang/StringUTF16", "compress", "([CI[BII)I"⟩ : MethodName)) hown (mvT hZ (own_w hw 46 rfl)) (mvT hZ (own_w hw 47 rfl)) (mvT hZ (own_w hw 44 rfl)) (mvT hZ (own_w hw 48 rfl)) (by decide) (backOf (W := 0) (rm9_L l Z a0 hw [] a1 b102 k1 k102 [c0, c1] 2 2 h102 n0 (Nat.le_trans Z0 K103.1) f106 V102 (by decide) rfl hl105 ne_a1_b102 ge_b102) hZ (own_w hw 48 rfl) (own_w hw 44 rfl) (by decide) (by decide)) (g := (mkF m 9 #[.val (.ref a1), .val (.int (0 : Int32)), .val (.int (2 : Int32)), .val (.ref b102), .unset, .unset] [(.int (2 : Int32)), (.int (0 : Int32)), (.ref b102), (.int (0 : Int32)), (.ref a1)])) rfl (by rw [hml]; rfl) (argsL := [(.ref a1), (.int (0 : Int32)), (.ref b102), (.int (0 : Int32)), (.int (2 : Int32))]) (rest := []) (lenOf pd7 rfl) rfl (by show 2 * 0 + _ ≤ _; exact Nat.le_of_eq rfl) (hb hby d8_9) (fun _ _ => ⟨rfl, e102, (by decide : 1 + 0 ≤ _), (by decide : 2 + 0 ≤ _)⟩)
 dsimp only [Pt.U, Pt.locs, Pt.cells, Pt.slots] at X107 l107 y107 z107 st107 hQ107
 subst l107 y107 z107
 obtain ⟨rfl, N107q, q107_K, q107_V⟩ := hQ107
 have N107 := Fr.app N0 N107q
 have K108 : Keep h0 T107.heap [] := K103.trans q107_K (allS (Or.inr sz_b102) all0)
 have f109 : Arv Z T107.heap b102 k102 .byte (2 : Int32) [(.int (own_xl c0)), (.int (own_xl c1))] (.int (0 : Int32)) := q107_V
 have p110 : Go p.tables e below _ (T107.setTop (mkF m 12 #[.val (.ref a1), .val (.int (0 : Int32)), .val (.int (2 : Int32)), .val (.ref b102), .unset, .unset] [(.int (2 : Int32))])) := (gc p104 st107)
 have p111 : Go p.tables e below _ (T107.setTop (mkF m 58 #[.val (.ref a1), .val (.int (0 : Int32)), .val (.int (2 : Int32)), .val (.ref b102), .val (.int (2 : Int32)), .unset] [(.ref b102)])) := fun t_ k_ => p110 t_ (by
  refine XS.istore X107.here hx rfl (hb hby d8_12) rfl (l' := #[.val (.ref a1), .val (.int (0 : Int32)), .val (.int (2 : Int32)), .val (.ref b102), .val (.int (2 : Int32)), .unset]) rfl ?_
  refine XS.iload X107.here hx rfl (hb hby d8_14) rfl ?_
  refine XS.iloadN X107.here hx rfl (hb hby d8_16) rfl ?_
  refine XS.icmpYes X107.here hx rfl (pc0 := 17) (pc' := 57) rfl (hb hby d8_17) rfl (teq (by decide : ((2 : Int32) = (2 : Int32)))).1 (by decide) (by decide) ?_
  refine XS.aloadN X107.here hx rfl (hb hby d8_57) rfl rfl ?_
  exact k_)
 obtain ⟨fs, hr, hrun, hended, hW, hsame⟩ := X107.leave (v := some (.ref b102)) (fun h => by rw [Bd.returns] at h; cases h)
 refine ⟨_, _, p111 _ (retOut X107 hx (w := (.ref b102)) (i := .areturn) Bd.returns rfl (Or.inr (Or.inr (Or.inr (Or.inr ⟨rfl, rfl, rfl⟩)))) (hb hby d8_58) hr), hrun, hended, _, _, rfl, ?_, ⟨_, rfl⟩, hW, hsame.mono (by decide) (by decide)⟩
 show Q8_L2 Z a1 k1 c0 c1 h0 n0 _ T107.heap _
 exact ⟨b102, k102, rfl, N107, K108, ge_b102, sz_b102, f109⟩
theorem ef_rm10_L2 (m : MethodId) (a1 : Addr) (k1 : ClassId) (vs : List Value) : entryFrame m #[(.ref a1), (.int (2 : Int32))] 2 = mkF m 0 #[.val (.ref a1), .val (.int (2 : Int32))] [] := by first | (simp [entryFrame, mkF, argsToLocals, Value.category]; done) | rfl
def Q10_L2 (Z : State) (a1 : Addr) (k1 : ClassId) (vs : List Value) (h0 : Heap) (n0 : Nat) (v : Option Value) (h : Heap) (L : List Loc) : Prop := v = some (.int (0 : Int32)) ∧ Fr n0 L ∧ (h = h0)
set_option maxRecDepth 65536 in
set_option maxHeartbeats 40000000 in
theorem rm10_L2 (l : Launch) (Z : State) (a0 : Array Value) (hw : ∀ d ∈ tables_1, d.before a0 Z = true) (ws : List Jvm.Cond) (a1 : Addr) (k1 : ClassId) (vs : List Value) (h0 : Heap) (n0 : Nat) (Z0 : n0 ≤ h0.size) (V1 : Arv Z h0 a1 k1 .byte (2 : Int32) vs (.int (0 : Int32))) :
  MetFree l (⟨"java/lang/StringUTF16", "coderFromArrayLen", "([BI)B"⟩ : MethodName) (head1 (Jvm.Cond.code (⟨"java/lang/StringUTF16", "coderFromArrayLen", "([BI)B"⟩ : MethodName) jdk_52_method_15_code 2 (some .byte) :: ws) ({ frames := 0, cells := 0, slots := 0, locals := 0 } : Room)) (fun a U => a = #[(.ref a1), (.int (2 : Int32))] ∧ Z.Warmed39 U.vm ∧ U.heap = h0) (fun _ _ _ _ _ => True) (fun _ U o U' => ∃ v L, o = .returned v ∧ Q10_L2 Z a1 k1 vs h0 n0 v U'.heap L ∧ FrameEnd U o U' L ({ frames := 0, cells := 0, slots := 0, locals := 0 } : Room).cells ({ frames := 0, cells := 0, slots := 0, locals := 0 } : Room).slots) := by
 refine MetFree.of_bodySF pn10 hisR ?_
 intro p e s m args below meth c s₁ Bd hml0 hP hK
 obtain ⟨rfl, hZ, hh⟩ := hP
 have hx := Bd.exec
 have hby := Bd.bytes
 have hml : c.maxLocals = 2 := hml0
 have hown : s.vm.findClass "java/lang/StringUTF16" = some m.cls := findClass_of_methodNamed Bd.named
 have hnm := (name_of_methodNamed Bd.named Bd.method).1
 have X0 : Stand p l e ({ frames := 0, cells := 0, slots := 0, locals := 0 } : Room) s m #[(.ref a1), (.int (2 : Int32))] below meth c s₁ [] 0 0 := Stand.of_body Bd
 have e0 : s₁.heap = h0 := by rw [← hh, Bd.state]; rfl
 have N0 := Fr.nil n0
 have p0 : Go p.tables e below (s₁.setTop (entryFrame m #[(.ref a1), (.int (2 : Int32))] 2)) (s₁.setTop (mkF m 0 #[.val (.ref a1), .val (.int (2 : Int32))] [])) := fun t_ k_ => castTop (ef_rm10_L2 m a1 k1 vs) k_
 have p101 : Go p.tables e below _ (s₁.setTop (mkF m 2 #[.val (.ref a1), .val (.int (2 : Int32))] [(.ref a1), (.int (2 : Int32))])) := fun t_ k_ => p0 t_ (by
  refine XS.iloadN X0.here hx rfl (hb hby d10_0) rfl ?_
  refine XS.aloadN X0.here hx rfl (hb hby d10_1) rfl rfl ?_
  exact k_)
 obtain ⟨cl102, Ar102, -, S102, Ng102, -, -⟩ := id V1
 have p103 : Go p.tables e below _ (s₁.setTop (mkF m 8 #[.val (.ref a1), .val (.int (2 : Int32))] [(.int (0 : Int32))])) := fun t_ k_ => p101 t_ (by
  refine X0.arraylength hx (by rw [e0]; exact Ar102.1) (State.isArrayOf_alike hZ.alike Ar102.2.1) (g := (mkF m 2 #[.val (.ref a1), .val (.int (2 : Int32))] [(.ref a1), (.int (2 : Int32))])) rfl rfl (hb hby d10_2) _ ?_
  rw [len_of S102 Ng102]
  show Steps p.tables e below (s₁.setTop (mkF m 3 #[.val (.ref a1), .val (.int (2 : Int32))] [(.int (2 : Int32)), (.int (2 : Int32))])) _
  refine XS.isub X0.here hx rfl (hb hby d10_3) rfl ?_
  refine XS.bipush X0.here hx rfl (hb hby d10_4) ?_
  refine XS.iushr X0.here hx rfl (hb hby d10_6) rfl ?_
  refine XS.i2b X0.here hx rfl (hb hby d10_7) rfl ?_
  exact k_)
 obtain ⟨fs, hr, hrun, hended, hW, hsame⟩ := X0.leave (v := some (.int (0 : Int32))) (fun h => by rw [Bd.returns] at h; cases h)
 refine ⟨_, _, p103 _ (retN X0 hx (t := .byte) Bd.returns (by simp) (hb hby d10_8) hr), hrun, hended, _, _, rfl, ?_, ⟨_, rfl⟩, hW, hsame.mono (by decide) (by decide)⟩
 show Q10_L2 Z a1 k1 vs h0 n0 _ s₁.heap _
 rw [e0]
 exact ⟨rfl, N0, rfl⟩
theorem ef_rm3_L2 (m : MethodId) (a1 : Addr) (a2 : Addr) (k1 : ClassId) (c0 : Int32) (c1 : Int32) (cs1 : Int32) (fm : Value) : entryFrame m #[(.ref a1), (.ref a2), (.int (0 : Int32)), (.int (2 : Int32)), .null] 6 = mkF m 0 #[.val (.ref a1), .val (.ref a2), .val (.int (0 : Int32)), .val (.int (2 : Int32)), .val .null, .unset] [] := by first | (simp [entryFrame, mkF, argsToLocals, Value.category]; done) | rfl
def Q3_L2 (Z : State) (a1 : Addr) (a2 : Addr) (k1 : ClassId) (c0 : Int32) (c1 : Int32) (cs1 : Int32) (fm : Value) (h0 : Heap) (n0 : Nat) (v : Option Value) (h : Heap) (L : List Loc) : Prop := ∃ (b : Addr) (kb : ClassId), v = none ∧ Fr n0 L ∧ (Keep h0 h [a1]) ∧ (Exa Z h a1 "java/lang/String") ∧ (Fld Z h a1 "java/lang/String" "coder" "B" (.int (0 : Int32))) ∧ (Fld Z h a1 "java/lang/String" "value" "[B" (.ref b)) ∧ (n0 ≤ b) ∧ (h0.size ≤ b) ∧ (Arv Z h b kb .byte (2 : Int32) [(.int (own_xl c0)), (.int (own_xl c1))] (.int (0 : Int32))) ∧ (a1 ≠ b)
set_option maxRecDepth 65536 in
set_option maxHeartbeats 40000000 in
theorem rm3_L2 (l : Launch) (Z : State) (a0 : Array Value) (hw : ∀ d ∈ tables_1, d.before a0 Z = true) (ws : List Jvm.Cond) (a1 : Addr) (a2 : Addr) (k1 : ClassId) (c0 : Int32) (c1 : Int32) (cs1 : Int32) (fm : Value) (h0 : Heap) (n0 : Nat) (Z0 : n0 ≤ h0.size) (O1 : Old Z n0 h0) (G : own_G Z cs1 fm) (F1 : Fld Z h0 a1 "java/lang/String" "coder" "B" (.int (0 : Int32))) (F2 : Fld Z h0 a1 "java/lang/String" "value" "[B" .null) (E1 : Exa Z h0 a1 "java/lang/String") (V1 : Arv Z h0 a2 k1 .char (2 : Int32) [(.int c0), (.int c1)] (.int (0 : Int32))) (ne : a1 ≠ a2) (g1 : n0 ≤ a1) (l0 : ¬ ((255 : Int32) < c0)) (l1 : ¬ ((255 : Int32) < c1)) :
  MetFree l (⟨"java/lang/String", "<init>", "([CIILjava/lang/Void;)V"⟩ : MethodName) (head1 (Jvm.Cond.code (⟨"java/lang/String", "<init>", "([CIILjava/lang/Void;)V"⟩ : MethodName) jdk_42_method_149_code 6 none :: ws) ({ frames := 2, cells := 1, slots := 2, locals := 35 } : Room)) (fun a U => a = #[(.ref a1), (.ref a2), (.int (0 : Int32)), (.int (2 : Int32)), .null] ∧ Z.Warmed39 U.vm ∧ U.heap = h0) (fun _ _ _ _ _ => True) (fun _ U o U' => ∃ v L, o = .returned v ∧ Q3_L2 Z a1 a2 k1 c0 c1 cs1 fm h0 n0 v U'.heap L ∧ FrameEnd U o U' L ({ frames := 2, cells := 1, slots := 2, locals := 35 } : Room).cells ({ frames := 2, cells := 1, slots := 2, locals := 35 } : Room).slots) := by
 refine MetFree.of_bodySF pn3 hisR ?_
 intro p e s m args below meth c s₁ Bd hml0 hP hK
 obtain ⟨rfl, hZ, hh⟩ := hP
 have hx := Bd.exec
 have hby := Bd.bytes
 have hml : c.maxLocals = 6 := hml0
 have hown : s.vm.findClass "java/lang/String" = some m.cls := findClass_of_methodNamed Bd.named
 have hnm := (name_of_methodNamed Bd.named Bd.method).1
 have X0 : Stand p l e ({ frames := 2, cells := 1, slots := 2, locals := 35 } : Room) s m #[(.ref a1), (.ref a2), (.int (0 : Int32)), (.int (2 : Int32)), .null] below meth c s₁ [] 0 0 := Stand.of_body Bd
 have e0 : s₁.heap = h0 := by rw [← hh, Bd.state]; rfl
 have N0 := Fr.nil n0
 have p0 : Go p.tables e below (s₁.setTop (entryFrame m #[(.ref a1), (.ref a2), (.int (0 : Int32)), (.int (2 : Int32)), .null] 6)) (s₁.setTop (mkF m 0 #[.val (.ref a1), .val (.ref a2), .val (.int (0 : Int32)), .val (.int (2 : Int32)), .val .null, .unset] [])) := fun t_ k_ => castTop (ef_rm3_L2 m a1 a2 k1 c0 c1 cs1 fm) k_
 have p101 : Go p.tables e below _ (s₁.setTop (mkF m 1 #[.val (.ref a1), .val (.ref a2), .val (.int (0 : Int32)), .val (.int (2 : Int32)), .val .null, .unset] [(.ref a1)])) := fun t_ k_ => p0 t_ (by
  refine XS.aloadN X0.here hx rfl (hb hby d3_0) rfl rfl ?_
  exact k_)
 obtain ⟨T102, X102, e102, st102⟩ := initO X0 hx hZ hown (own_w hw 16 rfl) (own_w hw 17 rfl) (own_w hw 18 rfl) e0 (g := (mkF m 1 #[.val (.ref a1), .val (.ref a2), .val (.int (0 : Int32)), .val (.int (2 : Int32)), .val .null, .unset] [(.ref a1)])) rfl (by rw [hml]; rfl) rfl (hb hby d3_1) (by decide) (W := 0) (by show 2 * 0 + _ ≤ _; exact Nat.le_of_eq rfl) (by decide)
 have p103 : Go p.tables e below _ (T102.setTop (mkF m 27 #[.val (.ref a1), .val (.ref a2), .val (.int (0 : Int32)), .val (.int (2 : Int32)), .val .null, .unset] [])) := fun t_ k_ => (gc p101 st102) t_ (by
  refine XS.iloadN X102.here hx rfl (hb hby d3_4) rfl ?_
  refine XS.ifYes X102.here hx rfl (pc0 := 5) (pc' := 27) rfl (hb hby d3_5) rfl ((if0 _ _).trans (feq (by decide : ¬ ((2 : Int32) = (0 : Int32)))).2) (by decide) (by decide) ?_
  exact k_)
 obtain ⟨T104, X104, e104, st104⟩ := getS2 X102 hx hZ hown (host := "") (Or.inl (own_w hw 41 rfl)) Via.refl e102 (G.1.ext O1.2) (g := (mkF m 27 #[.val (.ref a1), .val (.ref a2), .val (.int (0 : Int32)), .val (.int (2 : Int32)), .val .null, .unset] [])) rfl (hb hby d3_27)
 have c105 : ¬ (cs1 = (0 : Int32)) := G.2.1
 have p106 : Go p.tables e below _ (T104.setTop (mkF m 36 #[.val (.ref a1), .val (.ref a2), .val (.int (0 : Int32)), .val (.int (2 : Int32)), .val .null, .unset] [(.int (2 : Int32)), (.int (0 : Int32)), (.ref a2)])) := fun t_ k_ => (gc p103 st104) t_ (by
  refine XS.ifNo X104.here hx rfl (hb hby d3_30) rfl ((if0 _ _).trans (feq c105).1) ?_
  refine XS.aloadN X104.here hx rfl (hb hby d3_33) rfl rfl ?_
  refine XS.iloadN X104.here hx rfl (hb hby d3_34) rfl ?_
  refine XS.iloadN X104.here hx rfl (hb hby d3_35) rfl ?_
  exact k_)
 obtain ⟨_, _, ⟨T107, L107, k107, n107⟩, -, X107, ⟨Lc107, hQ107, l107, y107, z107⟩, st107⟩ := Jvm.LawKit.callS X104 hx (y := (⟨"java/lang/StringUTF16", "compress", "([CII)[B"⟩ : MethodName)) hown (mvT hZ (own_w hw 42 rfl)) (mvT hZ (own_w hw 43 rfl)) (mvT hZ (own_w hw 44 rfl)) (mvT hZ (own_w hw 45 rfl)) (by decide) (backOf (W := 0) (rm8_L2 l Z a0 hw [] a2 k1 c0 c1 h0 n0 (Nat.le_trans Z0 (Keep.refl h0 [a1]).1) V1 l0 l1) hZ (own_w hw 45 rfl) (own_w hw 44 rfl) (by decide) (by decide)) (g := (mkF m 36 #[.val (.ref a1), .val (.ref a2), .val (.int (0 : Int32)), .val (.int (2 : Int32)), .val .null, .unset] [(.int (2 : Int32)), (.int (0 : Int32)), (.ref a2)])) rfl (by rw [hml]; rfl) (argsL := [(.ref a2), (.int (0 : Int32)), (.int (2 : Int32))]) (rest := []) (lenOf pd8 rfl) rfl (by show 2 * 0 + _ ≤ _; exact Nat.le_of_eq rfl) (hb hby d3_36) (fun _ _ => ⟨rfl, e104, (by decide : 0 + 1 ≤ _), (by decide : 0 + 2 ≤ _)⟩)
 dsimp only [Pt.U, Pt.locs, Pt.cells, Pt.slots] at X107 l107 y107 z107 st107 hQ107
 subst l107 y107 z107
 obtain ⟨x108, x109, rfl, N107q, q107_K, q107_g, q107_z, q107_V⟩ := hQ107
 have N107 := Fr.app N0 N107q
 have K110 : Keep h0 T107.heap [a1] := (Keep.refl h0 [a1]).trans q107_K all0
 have ne_a1_x108 : a1 ≠ x108 := Nat.ne_of_lt (Nat.lt_of_lt_of_le E1.lt q107_z)
 have ne_a2_x108 : a2 ≠ x108 := Nat.ne_of_lt (Nat.lt_of_lt_of_le V1.lt q107_z)
 have p111 : Go p.tables e below _ (T107.setTop (mkF m 45 #[.val (.ref a1), .val (.ref a2), .val (.int (0 : Int32)), .val (.int (2 : Int32)), .val .null, .val (.ref x108)] [(.int (2 : Int32)), (.ref x108), (.ref a1)])) := fun t_ k_ => (gc p106 st107) t_ (by
  refine XS.astore X107.here hx rfl (hb hby d3_39) rfl rfl (l' := #[.val (.ref a1), .val (.ref a2), .val (.int (0 : Int32)), .val (.int (2 : Int32)), .val .null, .val (.ref x108)]) rfl ?_
  refine XS.aloadN X107.here hx rfl (hb hby d3_41) rfl rfl ?_
  refine XS.aload X107.here hx rfl (hb hby d3_42) rfl rfl ?_
  refine XS.iloadN X107.here hx rfl (hb hby d3_44) rfl ?_
  exact k_)
 obtain ⟨_, _, ⟨T112, L112, k112, n112⟩, -, X112, ⟨Lc112, hQ112, l112, y112, z112⟩, st112⟩ := Jvm.LawKit.callS X107 hx (y := (⟨"java/lang/StringUTF16", "coderFromArrayLen", "([BI)B"⟩ : MethodName)) hown (mvT hZ (own_w hw 49 rfl)) (mvT hZ (own_w hw 50 rfl)) (mvT hZ (own_w hw 44 rfl)) (mvT hZ (own_w hw 51 rfl)) (by decide) (backOf (W := 1) (rm10_L2 l Z a0 hw [] x108 x109 [(.int (own_xl c0)), (.int (own_xl c1))] T107.heap n0 (Nat.le_trans Z0 K110.1) q107_V) hZ (own_w hw 51 rfl) (own_w hw 44 rfl) (by decide) (by decide)) (g := (mkF m 45 #[.val (.ref a1), .val (.ref a2), .val (.int (0 : Int32)), .val (.int (2 : Int32)), .val .null, .val (.ref x108)] [(.int (2 : Int32)), (.ref x108), (.ref a1)])) rfl (by rw [hml]; rfl) (argsL := [(.ref x108), (.int (2 : Int32))]) (rest := [(.ref a1)]) (lenOf pd9 rfl) rfl (by show 2 * 0 + _ ≤ _; exact Nat.le_of_eq rfl) (hb hby d3_45) (fun _ _ => ⟨rfl, rfl, (by decide : 1 + 0 ≤ _), (by decide : 2 + 0 ≤ _)⟩)
 dsimp only [Pt.U, Pt.locs, Pt.cells, Pt.slots] at X112 l112 y112 z112 st112 hQ112
 subst l112 y112 z112
 obtain ⟨rfl, N112q, q112_hh⟩ := hQ112
 have N112 := Fr.app N107 N112q
 have f113 := (F1.keep q107_K nin0)
 have f114 := (E1.keep q107_K)
 obtain ⟨T115, h115, X115, e115, W115, st115⟩ := putFN X112 hx hZ hown (own_w hw 26 rfl) Via.refl q112_hh f113 f114 (Or.inr ⟨(own_w hw 22 rfl), rfl, hnm⟩) (own_w hw 7 rfl) (ty := .byte) (v' := (.int (0 : Int32))) (by decide) rfl (by decide) (g := (mkF m 48 #[.val (.ref a1), .val (.ref a2), .val (.int (0 : Int32)), .val (.int (2 : Int32)), .val .null, .val (.ref x108)] [(.int (0 : Int32)), (.ref a1)])) rfl rfl (hb hby d3_48)
 have K116 : Keep h0 h115 [a1] := K110.wr W115 (Or.inl (List.mem_of_getElem? (i := 0) rfl))
 have N115 := Fr.snoc X115 N112 g1
 have F115 : Fld Z h115 a1 "java/lang/String" "coder" "B" (.int (0 : Int32)) := f113.same W115
 have p117 : Go p.tables e below _ (T115.setTop (mkF m 54 #[.val (.ref a1), .val (.ref a2), .val (.int (0 : Int32)), .val (.int (2 : Int32)), .val .null, .val (.ref x108)] [(.ref x108), (.ref a1)])) := fun t_ k_ => (gc (gc p111 st112) st115) t_ (by
  refine XS.aloadN X115.here hx rfl (hb hby d3_51) rfl rfl ?_
  refine XS.aload X115.here hx rfl (hb hby d3_52) rfl rfl ?_
  exact k_)
 have f118 := ((F2.keep q107_K nin0).other W115 (Or.inr (slot_ne (Or.inr (own_w hw 21 rfl)) (Or.inr (own_w hw 22 rfl)) (by decide) (t := (.array .byte)) (t' := .byte) (by decide) (by decide))))
 have f119 := (f114.wr W115)
 obtain ⟨T120, h120, X120, e120, W120, st120⟩ := putF X115 hx hZ hown (host := "") (Or.inl (own_w hw 25 rfl)) Via.refl e115 f118 f119 (Or.inr ⟨(own_w hw 21 rfl), rfl, hnm⟩) (own_w hw 7 rfl) (ty := (.array .byte)) (by decide) rfl rfl (g := (mkF m 54 #[.val (.ref a1), .val (.ref a2), .val (.int (0 : Int32)), .val (.int (2 : Int32)), .val .null, .val (.ref x108)] [(.ref x108), (.ref a1)])) rfl rfl (hb hby d3_54)
 have K121 : Keep h0 h120 [a1] := K116.wr W120 (Or.inl (List.mem_of_getElem? (i := 0) rfl))
 have N120 := Fr.snoc X120 N115 g1
 have F120 : Fld Z h120 a1 "java/lang/String" "value" "[B" (.ref x108) := f118.same W120
 have f122 := (f119.wr W120)
 have f123 := (F115.other W120 (Or.inr (slot_ne (Or.inr (own_w hw 22 rfl)) (Or.inr (own_w hw 21 rfl)) (by decide) (t := .byte) (t' := (.array .byte)) (by decide) (by decide))))
 have f124 := ((q107_V.other W115 (Ne.symm ne_a1_x108)).other W120 (Ne.symm ne_a1_x108))
 obtain ⟨fs, hr, hrun, hended, hW, hsame⟩ := X120.leave (v := none) (fun _ => rfl)
 refine ⟨_, _, (gc p117 st120) _ (X120.returnOut hx Bd.returns (hb hby d3_57) hr), hrun, hended, _, _, rfl, ?_, ⟨_, rfl⟩, hW, hsame.mono (by decide) (by decide)⟩
 show Q3_L2 Z a1 a2 k1 c0 c1 cs1 fm h0 n0 _ T120.heap _
 rw [e120]
 exact ⟨x108, x109, rfl, N120, K121, f122, f123, F120, q107_g, (Nat.le_trans (Keep.refl h0 [a1]).1 q107_z), f124, ne_a1_x108⟩
theorem ef_rm2_L2 (m : MethodId) (a1 : Addr) (a2 : Addr) (k1 : ClassId) (c0 : Int32) (c1 : Int32) (cs1 : Int32) (fm : Value) : entryFrame m #[(.ref a1), (.ref a2)] 2 = mkF m 0 #[.val (.ref a1), .val (.ref a2)] [] := by first | (simp [entryFrame, mkF, argsToLocals, Value.category]; done) | rfl
def Q2_L2 (Z : State) (a1 : Addr) (a2 : Addr) (k1 : ClassId) (c0 : Int32) (c1 : Int32) (cs1 : Int32) (fm : Value) (h0 : Heap) (n0 : Nat) (v : Option Value) (h : Heap) (L : List Loc) : Prop := ∃ (b : Addr) (kb : ClassId), v = none ∧ Fr n0 L ∧ (Keep h0 h [a1]) ∧ (Exa Z h a1 "java/lang/String") ∧ (Fld Z h a1 "java/lang/String" "coder" "B" (.int (0 : Int32))) ∧ (Fld Z h a1 "java/lang/String" "value" "[B" (.ref b)) ∧ (n0 ≤ b) ∧ (h0.size ≤ b) ∧ (Arv Z h b kb .byte (2 : Int32) [(.int (own_xl c0)), (.int (own_xl c1))] (.int (0 : Int32))) ∧ (a1 ≠ b)
set_option maxRecDepth 65536 in
set_option maxHeartbeats 40000000 in
theorem rm2_L2 (l : Launch) (Z : State) (a0 : Array Value) (hw : ∀ d ∈ tables_1, d.before a0 Z = true) (ws : List Jvm.Cond) (a1 : Addr) (a2 : Addr) (k1 : ClassId) (c0 : Int32) (c1 : Int32) (cs1 : Int32) (fm : Value) (h0 : Heap) (n0 : Nat) (Z0 : n0 ≤ h0.size) (O1 : Old Z n0 h0) (G : own_G Z cs1 fm) (F1 : Fld Z h0 a1 "java/lang/String" "coder" "B" (.int (0 : Int32))) (F2 : Fld Z h0 a1 "java/lang/String" "value" "[B" .null) (E1 : Exa Z h0 a1 "java/lang/String") (V1 : Arv Z h0 a2 k1 .char (2 : Int32) [(.int c0), (.int c1)] (.int (0 : Int32))) (ne : a1 ≠ a2) (g1 : n0 ≤ a1) (l0 : ¬ ((255 : Int32) < c0)) (l1 : ¬ ((255 : Int32) < c1)) :
  MetFree l (⟨"java/lang/String", "<init>", "([C)V"⟩ : MethodName) (head1 (Jvm.Cond.code (⟨"java/lang/String", "<init>", "([C)V"⟩ : MethodName) jdk_42_method_3_code 2 none :: ws) ({ frames := 3, cells := 1, slots := 2, locals := 52 } : Room)) (fun a U => a = #[(.ref a1), (.ref a2)] ∧ Z.Warmed39 U.vm ∧ U.heap = h0) (fun _ _ _ _ _ => True) (fun _ U o U' => ∃ v L, o = .returned v ∧ Q2_L2 Z a1 a2 k1 c0 c1 cs1 fm h0 n0 v U'.heap L ∧ FrameEnd U o U' L ({ frames := 3, cells := 1, slots := 2, locals := 52 } : Room).cells ({ frames := 3, cells := 1, slots := 2, locals := 52 } : Room).slots) := by
 refine MetFree.of_bodySF pn2 hisR ?_
 intro p e s m args below meth c s₁ Bd hml0 hP hK
 obtain ⟨rfl, hZ, hh⟩ := hP
 have hx := Bd.exec
 have hby := Bd.bytes
 have hml : c.maxLocals = 2 := hml0
 have hown : s.vm.findClass "java/lang/String" = some m.cls := findClass_of_methodNamed Bd.named
 have hnm := (name_of_methodNamed Bd.named Bd.method).1
 have X0 : Stand p l e ({ frames := 3, cells := 1, slots := 2, locals := 52 } : Room) s m #[(.ref a1), (.ref a2)] below meth c s₁ [] 0 0 := Stand.of_body Bd
 have e0 : s₁.heap = h0 := by rw [← hh, Bd.state]; rfl
 have N0 := Fr.nil n0
 have p0 : Go p.tables e below (s₁.setTop (entryFrame m #[(.ref a1), (.ref a2)] 2)) (s₁.setTop (mkF m 0 #[.val (.ref a1), .val (.ref a2)] [])) := fun t_ k_ => castTop (ef_rm2_L2 m a1 a2 k1 c0 c1 cs1 fm) k_
 have p101 : Go p.tables e below _ (s₁.setTop (mkF m 4 #[.val (.ref a1), .val (.ref a2)] [(.ref a2), (.int (0 : Int32)), (.ref a2), (.ref a1)])) := fun t_ k_ => p0 t_ (by
  refine XS.aloadN X0.here hx rfl (hb hby d2_0) rfl rfl ?_
  refine XS.aloadN X0.here hx rfl (hb hby d2_1) rfl rfl ?_
  refine XS.iconst X0.here hx rfl (hb hby d2_2) ?_
  refine XS.aloadN X0.here hx rfl (hb hby d2_3) rfl rfl ?_
  exact k_)
 obtain ⟨cl102, Ar102, -, S102, Ng102, -, -⟩ := id V1
 have p103 : Go p.tables e below _ (s₁.setTop (mkF m 6 #[.val (.ref a1), .val (.ref a2)] [.null, (.int (2 : Int32)), (.int (0 : Int32)), (.ref a2), (.ref a1)])) := fun t_ k_ => p101 t_ (by
  refine X0.arraylength hx (by rw [e0]; exact Ar102.1) (State.isArrayOf_alike hZ.alike Ar102.2.1) (g := (mkF m 4 #[.val (.ref a1), .val (.ref a2)] [(.ref a2), (.int (0 : Int32)), (.ref a2), (.ref a1)])) rfl rfl (hb hby d2_4) _ ?_
  rw [len_of S102 Ng102]
  show Steps p.tables e below (s₁.setTop (mkF m 5 #[.val (.ref a1), .val (.ref a2)] [(.int (2 : Int32)), (.int (0 : Int32)), (.ref a2), (.ref a1)])) _
  refine XS.aconstNull X0.here hx rfl (hb hby d2_5) ?_
  exact k_)
 obtain ⟨_, _, ⟨T104, L104, k104, n104⟩, -, X104, ⟨Lc104, hQ104, l104, y104, z104⟩, st104⟩ := X0.specialBack hx (y := (⟨"java/lang/String", "<init>", "([CIILjava/lang/Void;)V"⟩ : MethodName)) rfl hown (mvT hZ (own_w hw 12 rfl)) (mvT hZ (own_w hw 13 rfl)) (mvT hZ (own_w hw 15 rfl)) (by decide) (backOf (W := 0) (rm3_L2 l Z a0 hw [] a1 a2 k1 c0 c1 cs1 fm h0 n0 (Nat.le_trans Z0 (Keep.refl h0 [a1]).1) O1 G F1 F2 E1 V1 ne g1 l0 l1) hZ (own_w hw 15 rfl) (own_w hw 8 rfl) (by decide) (by decide)) (g := (mkF m 6 #[.val (.ref a1), .val (.ref a2)] [.null, (.int (2 : Int32)), (.int (0 : Int32)), (.ref a2), (.ref a1)])) rfl (by rw [hml]; rfl) (Steps.refl _) (a := a1) (argsL := [(.ref a2), (.int (0 : Int32)), (.int (2 : Int32)), .null]) (rest := []) (lenOf pd10 rfl) rfl (by show 2 * 0 + _ ≤ _; exact Nat.le_of_eq rfl) (hb hby d2_6) (fun _ _ => ⟨rfl, e0, (by decide : 0 + 1 ≤ _), (by decide : 0 + 2 ≤ _)⟩)
 dsimp only [Pt.U, Pt.locs, Pt.cells, Pt.slots] at X104 l104 y104 z104 st104 hQ104
 subst l104 y104 z104
 obtain ⟨x105, x106, rfl, N104q, q104_K, q104_E, q104_c, q104_v, q104_g, q104_z, q104_V, q104_n⟩ := hQ104
 have N104 := Fr.app N0 N104q
 have K107 : Keep h0 T104.heap [a1] := (Keep.refl h0 [a1]).trans q104_K (allS (Or.inl (List.mem_of_getElem? (i := 0) rfl)) all0)
 have ne_a1_x105 : a1 ≠ x105 := Nat.ne_of_lt (Nat.lt_of_lt_of_le E1.lt q104_z)
 have ne_a2_x105 : a2 ≠ x105 := Nat.ne_of_lt (Nat.lt_of_lt_of_le V1.lt q104_z)
 obtain ⟨fs, hr, hrun, hended, hW, hsame⟩ := X104.leave (v := none) (fun _ => rfl)
 refine ⟨_, _, (gcT p103 st104) _ (X104.returnOut hx Bd.returns (hb hby d2_9) hr), hrun, hended, _, _, rfl, ?_, ⟨_, rfl⟩, hW, hsame.mono (by decide) (by decide)⟩
 show Q2_L2 Z a1 a2 k1 c0 c1 cs1 fm h0 n0 _ T104.heap _
 exact ⟨x105, x106, rfl, N104, K107, q104_E, q104_c, q104_v, q104_g, (Nat.le_trans (Keep.refl h0 [a1]).1 q104_z), q104_V, q104_n⟩
theorem ef_rm20_U2 (m : MethodId)  : entryFrame m #[(.int (2 : Int32))] 1 = mkF m 0 #[.val (.int (2 : Int32))] [] := by first | (simp [entryFrame, mkF, argsToLocals, Value.category]; done) | rfl
def Q20_U2 (Z : State)  (h0 : Heap) (n0 : Nat) (v : Option Value) (h : Heap) (L : List Loc) : Prop := v = some (.int (4 : Int32)) ∧ Fr n0 L ∧ (h = h0)
set_option maxRecDepth 65536 in
set_option maxHeartbeats 40000000 in
theorem rm20_U2 (l : Launch) (Z : State) (a0 : Array Value) (hw : ∀ d ∈ tables_1, d.before a0 Z = true) (ws : List Jvm.Cond)  (h0 : Heap) (n0 : Nat) (Z0 : n0 ≤ h0.size) :
  MetFree l (⟨"java/lang/StringUTF16", "newBytesLength", "(I)I"⟩ : MethodName) (head1 (Jvm.Cond.code (⟨"java/lang/StringUTF16", "newBytesLength", "(I)I"⟩ : MethodName) jdk_52_method_3_code 1 (some .int) :: ws) ({ frames := 0, cells := 0, slots := 0, locals := 0 } : Room)) (fun a U => a = #[(.int (2 : Int32))] ∧ Z.Warmed39 U.vm ∧ U.heap = h0) (fun _ _ _ _ _ => True) (fun _ U o U' => ∃ v L, o = .returned v ∧ Q20_U2 Z  h0 n0 v U'.heap L ∧ FrameEnd U o U' L ({ frames := 0, cells := 0, slots := 0, locals := 0 } : Room).cells ({ frames := 0, cells := 0, slots := 0, locals := 0 } : Room).slots) := by
 refine MetFree.of_bodySF pn20 hisR ?_
 intro p e s m args below meth c s₁ Bd hml0 hP hK
 obtain ⟨rfl, hZ, hh⟩ := hP
 have hx := Bd.exec
 have hby := Bd.bytes
 have hml : c.maxLocals = 1 := hml0
 have hown : s.vm.findClass "java/lang/StringUTF16" = some m.cls := findClass_of_methodNamed Bd.named
 have hnm := (name_of_methodNamed Bd.named Bd.method).1
 have X0 : Stand p l e ({ frames := 0, cells := 0, slots := 0, locals := 0 } : Room) s m #[(.int (2 : Int32))] below meth c s₁ [] 0 0 := Stand.of_body Bd
 have e0 : s₁.heap = h0 := by rw [← hh, Bd.state]; rfl
 have N0 := Fr.nil n0
 have p0 : Go p.tables e below (s₁.setTop (entryFrame m #[(.int (2 : Int32))] 1)) (s₁.setTop (mkF m 0 #[.val (.int (2 : Int32))] [])) := fun t_ k_ => castTop (ef_rm20_U2 m ) k_
 have p101 : Go p.tables e below _ (s₁.setTop (mkF m 58 #[.val (.int (2 : Int32))] [(.int (4 : Int32))])) := fun t_ k_ => p0 t_ (by
  refine XS.iloadN X0.here hx rfl (hb hby d20_0) rfl ?_
  refine XS.ifYes X0.here hx rfl (pc0 := 1) (pc' := 12) rfl (hb hby d20_1) rfl ((if0 _ _).trans (flt (by decide : ¬ ((2 : Int32) < (0 : Int32)))).2.1) (by decide) (by decide) ?_
  refine XS.iloadN X0.here hx rfl (hb hby d20_12) rfl ?_
  refine X0.ldcInt hx hown (mvT hZ (own_w hw 91 rfl)) (g := (mkF m 13 #[.val (.int (2 : Int32))] [(.int (2 : Int32))])) rfl (hb hby d20_13) _ ?_
  refine XS.icmpYes X0.here hx rfl (pc0 := 15) (pc' := 55) rfl (hb hby d20_15) rfl (tlt (by decide : ((2 : Int32) < (1073741823 : Int32)))).1 (by decide) (by decide) ?_
  refine XS.iloadN X0.here hx rfl (hb hby d20_55) rfl ?_
  refine XS.iconst X0.here hx rfl (hb hby d20_56) ?_
  refine XS.ishl X0.here hx rfl (hb hby d20_57) rfl ?_
  exact k_)
 obtain ⟨fs, hr, hrun, hended, hW, hsame⟩ := X0.leave (v := some (.int (4 : Int32))) (fun h => by rw [Bd.returns] at h; cases h)
 refine ⟨_, _, p101 _ (retI X0 hx Bd.returns (hb hby d20_58) hr), hrun, hended, _, _, rfl, ?_, ⟨_, rfl⟩, hW, hsame.mono (by decide) (by decide)⟩
 show Q20_U2 Z  h0 n0 _ s₁.heap _
 rw [e0]
 exact ⟨rfl, N0, rfl⟩
theorem ef_rm19_U2 (m : MethodId)  : entryFrame m #[(.int (2 : Int32))] 1 = mkF m 0 #[.val (.int (2 : Int32))] [] := by first | (simp [entryFrame, mkF, argsToLocals, Value.category]; done) | rfl
def Q19_U2 (Z : State)  (h0 : Heap) (n0 : Nat) (v : Option Value) (h : Heap) (L : List Loc) : Prop := ∃ (b : Addr) (kb : ClassId), v = some (.ref b) ∧ Fr n0 L ∧ (Keep h0 h []) ∧ (n0 ≤ b) ∧ (h0.size ≤ b) ∧ (Arv Z h b kb .byte (4 : Int32) [(.int (0 : Int32)), (.int (0 : Int32)), (.int (0 : Int32)), (.int (0 : Int32))] (.int (0 : Int32)))
set_option maxRecDepth 65536 in
set_option maxHeartbeats 40000000 in
theorem rm19_U2 (l : Launch) (Z : State) (a0 : Array Value) (hw : ∀ d ∈ tables_1, d.before a0 Z = true) (ws : List Jvm.Cond)  (h0 : Heap) (n0 : Nat) (Z0 : n0 ≤ h0.size) :
  MetFree l (⟨"java/lang/StringUTF16", "newBytesFor", "(I)[B"⟩ : MethodName) (head1 (Jvm.Cond.code (⟨"java/lang/StringUTF16", "newBytesFor", "(I)[B"⟩ : MethodName) jdk_52_method_2_code 1 (some (.array .byte)) :: ws) ({ frames := 1, cells := 1, slots := 4, locals := 12 } : Room)) (fun a U => a = #[(.int (2 : Int32))] ∧ Z.Warmed39 U.vm ∧ U.heap = h0) (fun _ _ _ _ _ => True) (fun _ U o U' => ∃ v L, o = .returned v ∧ Q19_U2 Z  h0 n0 v U'.heap L ∧ FrameEnd U o U' L ({ frames := 1, cells := 1, slots := 4, locals := 12 } : Room).cells ({ frames := 1, cells := 1, slots := 4, locals := 12 } : Room).slots) := by
 refine MetFree.of_bodySF pn19 hisR ?_
 intro p e s m args below meth c s₁ Bd hml0 hP hK
 obtain ⟨rfl, hZ, hh⟩ := hP
 have hx := Bd.exec
 have hby := Bd.bytes
 have hml : c.maxLocals = 1 := hml0
 have hown : s.vm.findClass "java/lang/StringUTF16" = some m.cls := findClass_of_methodNamed Bd.named
 have hnm := (name_of_methodNamed Bd.named Bd.method).1
 have X0 : Stand p l e ({ frames := 1, cells := 1, slots := 4, locals := 12 } : Room) s m #[(.int (2 : Int32))] below meth c s₁ [] 0 0 := Stand.of_body Bd
 have e0 : s₁.heap = h0 := by rw [← hh, Bd.state]; rfl
 have N0 := Fr.nil n0
 have p0 : Go p.tables e below (s₁.setTop (entryFrame m #[(.int (2 : Int32))] 1)) (s₁.setTop (mkF m 0 #[.val (.int (2 : Int32))] [])) := fun t_ k_ => castTop (ef_rm19_U2 m ) k_
 have p101 : Go p.tables e below _ (s₁.setTop (mkF m 1 #[.val (.int (2 : Int32))] [(.int (2 : Int32))])) := fun t_ k_ => p0 t_ (by
  refine XS.iloadN X0.here hx rfl (hb hby d19_0) rfl ?_
  exact k_)
 obtain ⟨_, _, ⟨T102, L102, k102, n102⟩, -, X102, ⟨Lc102, hQ102, l102, y102, z102⟩, st102⟩ := Jvm.LawKit.callS X0 hx (y := (⟨"java/lang/StringUTF16", "newBytesLength", "(I)I"⟩ : MethodName)) hown (mvT hZ (own_w hw 88 rfl)) (mvT hZ (own_w hw 89 rfl)) (mvT hZ (own_w hw 44 rfl)) (mvT hZ (own_w hw 90 rfl)) (by decide) (backOf (W := 0) (rm20_U2 l Z a0 hw []  h0 n0 (Nat.le_trans Z0 (Keep.refl h0 []).1) ) hZ (own_w hw 90 rfl) (own_w hw 44 rfl) (by decide) (by decide)) (g := (mkF m 1 #[.val (.int (2 : Int32))] [(.int (2 : Int32))])) rfl (by rw [hml]; rfl) (argsL := [(.int (2 : Int32))]) (rest := []) (lenOf pd11 rfl) rfl (by show 2 * 0 + _ ≤ _; exact Nat.le_of_eq rfl) (hb hby d19_1) (fun _ _ => ⟨rfl, e0, (by decide : 0 + 0 ≤ _), (by decide : 0 + 0 ≤ _)⟩)
 dsimp only [Pt.U, Pt.locs, Pt.cells, Pt.slots] at X102 l102 y102 z102 st102 hQ102
 subst l102 y102 z102
 obtain ⟨rfl, N102q, q102_hh⟩ := hQ102
 have N102 := Fr.app N0 N102q
 obtain ⟨T103, h103, k103, X103, e103, E103, A103, st103⟩ := newP X102 hx hZ (own_w hw 20 rfl) q102_hh (g := (mkF m 4 #[.val (.int (2 : Int32))] [(.int (4 : Int32))])) rfl (hb hby d19_4) rfl (by decide) (cap := 4) (by decide) (by decide) (by decide) (by decide)
 obtain ⟨b103, g103⟩ : ∃ z, z = h0.size := ⟨_, rfl⟩
 rw [← g103] at A103 st103
 have ge_b103 : n0 ≤ b103 := Nat.le_trans (Nat.le_trans Z0 (Keep.refl h0 []).1) (Nat.le_of_eq g103.symm)
 have sz_b103 : h0.size ≤ b103 := Nat.le_trans (Keep.refl h0 []).1 (Nat.le_of_eq g103.symm)
 have K104 : Keep h0 h103 [] := (Keep.refl h0 []).ext E103
 have V103 : Arv Z h103 b103 k103 .byte (4 : Int32) [(.int (0 : Int32)), (.int (0 : Int32)), (.int (0 : Int32)), (.int (0 : Int32))] (.int (0 : Int32)) := (Arv.new A103 (by decide)).pad (pad_rep [] (.int (0 : Int32)) 4)
 obtain ⟨fs, hr, hrun, hended, hW, hsame⟩ := X103.leave (v := some (.ref b103)) (fun h => by rw [Bd.returns] at h; cases h)
 refine ⟨_, _, (gc (gc p101 st102) st103) _ (retOut X103 hx (w := (.ref b103)) (i := .areturn) Bd.returns rfl (Or.inr (Or.inr (Or.inr (Or.inr ⟨rfl, rfl, rfl⟩)))) (hb hby d19_6) hr), hrun, hended, _, _, rfl, ?_, ⟨_, rfl⟩, hW, hsame.mono (by decide) (by decide)⟩
 show Q19_U2 Z  h0 n0 _ T103.heap _
 rw [e103]
 exact ⟨b103, k103, rfl, N102, K104, ge_b103, sz_b103, V103⟩
theorem ef_rm18_U2 (m : MethodId) (a1 : Addr) (k1 : ClassId) (c0 : Int32) (c1 : Int32) (cs1 : Int32) (fm : Value) : entryFrame m #[(.ref a1), (.int (0 : Int32)), (.int (2 : Int32))] 5 = mkF m 0 #[.val (.ref a1), .val (.int (0 : Int32)), .val (.int (2 : Int32)), .unset, .unset] [] := by first | (simp [entryFrame, mkF, argsToLocals, Value.category]; done) | rfl
def Q18_U2 (Z : State) (a1 : Addr) (k1 : ClassId) (c0 : Int32) (c1 : Int32) (cs1 : Int32) (fm : Value) (h0 : Heap) (n0 : Nat) (v : Option Value) (h : Heap) (L : List Loc) : Prop := ∃ (b : Addr) (kb : ClassId), v = some (.ref b) ∧ Fr n0 L ∧ (Keep h0 h []) ∧ (n0 ≤ b) ∧ (h0.size ≤ b) ∧ (Arv Z h b kb .byte (4 : Int32) [(.int (own_x0 c0)), (.int (own_x8 c0)), (.int (own_x0 c1)), (.int (own_x8 c1))] (.int (0 : Int32)))
set_option maxRecDepth 65536 in
set_option maxHeartbeats 40000000 in
theorem rm18_U2 (l : Launch) (Z : State) (a0 : Array Value) (hw : ∀ d ∈ tables_1, d.before a0 Z = true) (ws : List Jvm.Cond) (a1 : Addr) (k1 : ClassId) (c0 : Int32) (c1 : Int32) (cs1 : Int32) (fm : Value) (h0 : Heap) (n0 : Nat) (Z0 : n0 ≤ h0.size) (O1 : Old Z n0 h0) (G : own_G Z cs1 fm) (V1 : Arv Z h0 a1 k1 .char (2 : Int32) [(.int c0), (.int c1)] (.int (0 : Int32))) :
  MetFree l (⟨"java/lang/StringUTF16", "toBytes", "([CII)[B"⟩ : MethodName) (head1 (Jvm.Cond.code (⟨"java/lang/StringUTF16", "toBytes", "([CII)[B"⟩ : MethodName) jdk_52_method_14_code 5 (some (.array .byte)) :: ws) ({ frames := 2, cells := 1, slots := 4, locals := 24 } : Room)) (fun a U => a = #[(.ref a1), (.int (0 : Int32)), (.int (2 : Int32))] ∧ Z.Warmed39 U.vm ∧ U.heap = h0) (fun _ _ _ _ _ => True) (fun _ U o U' => ∃ v L, o = .returned v ∧ Q18_U2 Z a1 k1 c0 c1 cs1 fm h0 n0 v U'.heap L ∧ FrameEnd U o U' L ({ frames := 2, cells := 1, slots := 4, locals := 24 } : Room).cells ({ frames := 2, cells := 1, slots := 4, locals := 24 } : Room).slots) := by
 refine MetFree.of_bodySF pn18 hisR ?_
 intro p e s m args below meth c s₁ Bd hml0 hP hK
 obtain ⟨rfl, hZ, hh⟩ := hP
 have hx := Bd.exec
 have hby := Bd.bytes
 have hml : c.maxLocals = 5 := hml0
 have hown : s.vm.findClass "java/lang/StringUTF16" = some m.cls := findClass_of_methodNamed Bd.named
 have hnm := (name_of_methodNamed Bd.named Bd.method).1
 have X0 : Stand p l e ({ frames := 2, cells := 1, slots := 4, locals := 24 } : Room) s m #[(.ref a1), (.int (0 : Int32)), (.int (2 : Int32))] below meth c s₁ [] 0 0 := Stand.of_body Bd
 have e0 : s₁.heap = h0 := by rw [← hh, Bd.state]; rfl
 have N0 := Fr.nil n0
 have p0 : Go p.tables e below (s₁.setTop (entryFrame m #[(.ref a1), (.int (0 : Int32)), (.int (2 : Int32))] 5)) (s₁.setTop (mkF m 0 #[.val (.ref a1), .val (.int (0 : Int32)), .val (.int (2 : Int32)), .unset, .unset] [])) := fun t_ k_ => castTop (ef_rm18_U2 m a1 k1 c0 c1 cs1 fm) k_
 have p101 : Go p.tables e below _ (s₁.setTop (mkF m 1 #[.val (.ref a1), .val (.int (0 : Int32)), .val (.int (2 : Int32)), .unset, .unset] [(.int (2 : Int32))])) := fun t_ k_ => p0 t_ (by
  refine XS.iloadN X0.here hx rfl (hb hby d18_0) rfl ?_
  exact k_)
 obtain ⟨_, _, ⟨T102, L102, k102, n102⟩, -, X102, ⟨Lc102, hQ102, l102, y102, z102⟩, st102⟩ := Jvm.LawKit.callS X0 hx (y := (⟨"java/lang/StringUTF16", "newBytesFor", "(I)[B"⟩ : MethodName)) hown (mvT hZ (own_w hw 85 rfl)) (mvT hZ (own_w hw 86 rfl)) (mvT hZ (own_w hw 44 rfl)) (mvT hZ (own_w hw 87 rfl)) (by decide) (backOf (W := 0) (rm19_U2 l Z a0 hw []  h0 n0 (Nat.le_trans Z0 (Keep.refl h0 []).1) ) hZ (own_w hw 87 rfl) (own_w hw 44 rfl) (by decide) (by decide)) (g := (mkF m 1 #[.val (.ref a1), .val (.int (0 : Int32)), .val (.int (2 : Int32)), .unset, .unset] [(.int (2 : Int32))])) rfl (by rw [hml]; rfl) (argsL := [(.int (2 : Int32))]) (rest := []) (lenOf pd12 rfl) rfl (by show 2 * 0 + _ ≤ _; exact Nat.le_of_eq rfl) (hb hby d18_1) (fun _ _ => ⟨rfl, e0, (by decide : 0 + 1 ≤ _), (by decide : 0 + 4 ≤ _)⟩)
 dsimp only [Pt.U, Pt.locs, Pt.cells, Pt.slots] at X102 l102 y102 z102 st102 hQ102
 subst l102 y102 z102
 obtain ⟨x103, x104, rfl, N102q, q102_K, q102_g, q102_z, q102_V⟩ := hQ102
 have N102 := Fr.app N0 N102q
 have K105 : Keep h0 T102.heap [] := (Keep.refl h0 []).trans q102_K all0
 have ne_a1_x103 : a1 ≠ x103 := Nat.ne_of_lt (Nat.lt_of_lt_of_le V1.lt q102_z)
 have p106 : Go p.tables e below _ (T102.setTop (mkF m 19 #[.val (.ref a1), .val (.int (0 : Int32)), .val (.int (2 : Int32)), .val (.ref x103), .val (.int (0 : Int32))] [(.int (0 : Int32)), (.ref a1), (.int (0 : Int32)), (.ref x103)])) := fun t_ k_ => (gc p101 st102) t_ (by
  refine XS.astoreN X102.here hx rfl (hb hby d18_4) rfl rfl (l' := #[.val (.ref a1), .val (.int (0 : Int32)), .val (.int (2 : Int32)), .val (.ref x103), .unset]) rfl ?_
  refine XS.iconst X102.here hx rfl (hb hby d18_5) ?_
  refine XS.istore X102.here hx rfl (hb hby d18_6) rfl (l' := #[.val (.ref a1), .val (.int (0 : Int32)), .val (.int (2 : Int32)), .val (.ref x103), .val (.int (0 : Int32))]) rfl ?_
  refine XS.iload X102.here hx rfl (hb hby d18_8) rfl ?_
  refine XS.iloadN X102.here hx rfl (hb hby d18_10) rfl ?_
  refine XS.icmpNo X102.here hx rfl (hb hby d18_11) rfl (tlt (by decide : ((0 : Int32) < (2 : Int32)))).2.1 ?_
  refine XS.aloadN X102.here hx rfl (hb hby d18_14) rfl rfl ?_
  refine XS.iload X102.here hx rfl (hb hby d18_15) rfl ?_
  refine XS.aloadN X102.here hx rfl (hb hby d18_17) rfl rfl ?_
  refine XS.iloadN X102.here hx rfl (hb hby d18_18) rfl ?_
  exact k_)
 have f108 := (V1.keep q102_K nin0)
 obtain ⟨cl107, Ar107, q107, S107, Ng107, H107, G107⟩ := id f108
 have hin107 := inb_of S107 (j := (0 : Int32)) ⟨by decide, by decide⟩
 have hat107 := H107.at (v := (.int c0)) hin107 rfl
 have p109 : Go p.tables e below _ (T102.setTop (mkF m 20 #[.val (.ref a1), .val (.int (0 : Int32)), .val (.int (2 : Int32)), .val (.ref x103), .val (.int (0 : Int32))] [(.int c0), (.int (0 : Int32)), (.ref x103)])) := fun t_ k_ => p106 t_ (by
  refine X102.caload hx (j := (0 : Int32)) (v := (.int c0)) Ar107.1 (State.isArrayOf_alike hZ.alike Ar107.2.1) Ar107.2.2 hin107 hat107 (g := (mkF m 19 #[.val (.ref a1), .val (.int (0 : Int32)), .val (.int (2 : Int32)), .val (.ref x103), .val (.int (0 : Int32))] [(.int (0 : Int32)), (.ref a1), (.int (0 : Int32)), (.ref x103)])) rfl rfl (hb hby d18_19) _ ?_
  exact k_)
 have f110 := (O1.keep q102_K all0)
 obtain ⟨_, _, ⟨T111, L111, k111, n111⟩, -, X111, ⟨Lc111, hQ111, l111, y111, z111⟩, st111⟩ := Jvm.LawKit.callS X102 hx (y := (⟨"java/lang/StringUTF16", "putChar", "([BII)V"⟩ : MethodName)) hown (mvT hZ (own_w hw 92 rfl)) (mvT hZ (own_w hw 93 rfl)) (mvT hZ (own_w hw 44 rfl)) (mvT hZ (own_w hw 94 rfl)) (by decide) (backOf (W := 0) (rm21 l Z a0 hw [] x103 (0 : Int32) c0 x104 (4 : Int32) [(.int (0 : Int32)), (.int (0 : Int32)), (.int (0 : Int32)), (.int (0 : Int32))] 0 cs1 fm T102.heap n0 (Nat.le_trans Z0 K105.1) f110 G q102_V (by decide) (by decide) rfl rfl (Nat.le_of_ble_eq_true rfl) (Nat.le_of_ble_eq_true rfl) q102_g) hZ (own_w hw 94 rfl) (own_w hw 44 rfl) (by decide) (by decide)) (g := (mkF m 20 #[.val (.ref a1), .val (.int (0 : Int32)), .val (.int (2 : Int32)), .val (.ref x103), .val (.int (0 : Int32))] [(.int c0), (.int (0 : Int32)), (.ref x103)])) rfl (by rw [hml]; rfl) (argsL := [(.ref x103), (.int (0 : Int32)), (.int c0)]) (rest := []) (lenOf pd13 rfl) rfl (by show 2 * 0 + _ ≤ _; exact Nat.le_of_eq rfl) (hb hby d18_20) (fun _ _ => ⟨rfl, rfl, (by decide : 1 + 0 ≤ _), (by decide : 4 + 0 ≤ _)⟩)
 dsimp only [Pt.U, Pt.locs, Pt.cells, Pt.slots] at X111 l111 y111 z111 st111 hQ111
 subst l111 y111 z111
 obtain ⟨rfl, N111q, q111_K, q111_V⟩ := hQ111
 have N111 := Fr.app N102 N111q
 have K112 : Keep h0 T111.heap [] := K105.trans q111_K (allS (Or.inr (Nat.le_trans (Keep.refl h0 []).1 q102_z)) all0)
 have f113 : Arv Z T111.heap x103 x104 .byte (4 : Int32) [(.int (own_x0 c0)), (.int (own_x8 c0)), (.int (0 : Int32)), (.int (0 : Int32))] (.int (0 : Int32)) := q111_V
 have p114 : Go p.tables e below _ (T111.setTop (mkF m 19 #[.val (.ref a1), .val (.int (1 : Int32)), .val (.int (2 : Int32)), .val (.ref x103), .val (.int (1 : Int32))] [(.int (1 : Int32)), (.ref a1), (.int (1 : Int32)), (.ref x103)])) := fun t_ k_ => (gc p109 st111) t_ (by
  refine XS.iinc X111.here hx rfl (hb hby d18_23) rfl (l' := #[.val (.ref a1), .val (.int (1 : Int32)), .val (.int (2 : Int32)), .val (.ref x103), .val (.int (0 : Int32))]) rfl ?_
  refine XS.iinc X111.here hx rfl (hb hby d18_26) rfl (l' := #[.val (.ref a1), .val (.int (1 : Int32)), .val (.int (2 : Int32)), .val (.ref x103), .val (.int (1 : Int32))]) rfl ?_
  refine XS.goto X111.here hx rfl (pc0 := 29) (pc' := 8) rfl (hb hby d18_29) (by decide) (by decide) ?_
  refine XS.iload X111.here hx rfl (hb hby d18_8) rfl ?_
  refine XS.iloadN X111.here hx rfl (hb hby d18_10) rfl ?_
  refine XS.icmpNo X111.here hx rfl (hb hby d18_11) rfl (tlt (by decide : ((1 : Int32) < (2 : Int32)))).2.1 ?_
  refine XS.aloadN X111.here hx rfl (hb hby d18_14) rfl rfl ?_
  refine XS.iload X111.here hx rfl (hb hby d18_15) rfl ?_
  refine XS.aloadN X111.here hx rfl (hb hby d18_17) rfl rfl ?_
  refine XS.iloadN X111.here hx rfl (hb hby d18_18) rfl ?_
  exact k_)
 have f116 := (f108.keep q111_K (ninS ne_a1_x103 nin0))
 obtain ⟨cl115, Ar115, q115, S115, Ng115, H115, G115⟩ := id f116
 have hin115 := inb_of S115 (j := (1 : Int32)) ⟨by decide, by decide⟩
 have hat115 := H115.at (v := (.int c1)) hin115 rfl
 have p117 : Go p.tables e below _ (T111.setTop (mkF m 20 #[.val (.ref a1), .val (.int (1 : Int32)), .val (.int (2 : Int32)), .val (.ref x103), .val (.int (1 : Int32))] [(.int c1), (.int (1 : Int32)), (.ref x103)])) := fun t_ k_ => p114 t_ (by
  refine X111.caload hx (j := (1 : Int32)) (v := (.int c1)) Ar115.1 (State.isArrayOf_alike hZ.alike Ar115.2.1) Ar115.2.2 hin115 hat115 (g := (mkF m 19 #[.val (.ref a1), .val (.int (1 : Int32)), .val (.int (2 : Int32)), .val (.ref x103), .val (.int (1 : Int32))] [(.int (1 : Int32)), (.ref a1), (.int (1 : Int32)), (.ref x103)])) rfl rfl (hb hby d18_19) _ ?_
  exact k_)
 have f118 := (f110.keep q111_K (allS q102_g all0))
 obtain ⟨_, _, ⟨T119, L119, k119, n119⟩, -, X119, ⟨Lc119, hQ119, l119, y119, z119⟩, st119⟩ := Jvm.LawKit.callS X111 hx (y := (⟨"java/lang/StringUTF16", "putChar", "([BII)V"⟩ : MethodName)) hown (mvT hZ (own_w hw 92 rfl)) (mvT hZ (own_w hw 93 rfl)) (mvT hZ (own_w hw 44 rfl)) (mvT hZ (own_w hw 94 rfl)) (by decide) (backOf (W := 0) (rm21 l Z a0 hw [] x103 (1 : Int32) c1 x104 (4 : Int32) [(.int (own_x0 c0)), (.int (own_x8 c0)), (.int (0 : Int32)), (.int (0 : Int32))] 2 cs1 fm T111.heap n0 (Nat.le_trans Z0 K112.1) f118 G f113 (by decide) (by decide) rfl rfl (Nat.le_of_ble_eq_true rfl) (Nat.le_of_ble_eq_true rfl) q102_g) hZ (own_w hw 94 rfl) (own_w hw 44 rfl) (by decide) (by decide)) (g := (mkF m 20 #[.val (.ref a1), .val (.int (1 : Int32)), .val (.int (2 : Int32)), .val (.ref x103), .val (.int (1 : Int32))] [(.int c1), (.int (1 : Int32)), (.ref x103)])) rfl (by rw [hml]; rfl) (argsL := [(.ref x103), (.int (1 : Int32)), (.int c1)]) (rest := []) (lenOf pd13 rfl) rfl (by show 2 * 0 + _ ≤ _; exact Nat.le_of_eq rfl) (hb hby d18_20) (fun _ _ => ⟨rfl, rfl, (by decide : 1 + 0 ≤ _), (by decide : 4 + 0 ≤ _)⟩)
 dsimp only [Pt.U, Pt.locs, Pt.cells, Pt.slots] at X119 l119 y119 z119 st119 hQ119
 subst l119 y119 z119
 obtain ⟨rfl, N119q, q119_K, q119_V⟩ := hQ119
 have N119 := Fr.app N111 N119q
 have K120 : Keep h0 T119.heap [] := K112.trans q119_K (allS (Or.inr (Nat.le_trans (Keep.refl h0 []).1 q102_z)) all0)
 have f121 : Arv Z T119.heap x103 x104 .byte (4 : Int32) [(.int (own_x0 c0)), (.int (own_x8 c0)), (.int (own_x0 c1)), (.int (own_x8 c1))] (.int (0 : Int32)) := q119_V
 have p122 : Go p.tables e below _ (T119.setTop (mkF m 33 #[.val (.ref a1), .val (.int (2 : Int32)), .val (.int (2 : Int32)), .val (.ref x103), .val (.int (2 : Int32))] [(.ref x103)])) := fun t_ k_ => (gc p117 st119) t_ (by
  refine XS.iinc X119.here hx rfl (hb hby d18_23) rfl (l' := #[.val (.ref a1), .val (.int (2 : Int32)), .val (.int (2 : Int32)), .val (.ref x103), .val (.int (1 : Int32))]) rfl ?_
  refine XS.iinc X119.here hx rfl (hb hby d18_26) rfl (l' := #[.val (.ref a1), .val (.int (2 : Int32)), .val (.int (2 : Int32)), .val (.ref x103), .val (.int (2 : Int32))]) rfl ?_
  refine XS.goto X119.here hx rfl (pc0 := 29) (pc' := 8) rfl (hb hby d18_29) (by decide) (by decide) ?_
  refine XS.iload X119.here hx rfl (hb hby d18_8) rfl ?_
  refine XS.iloadN X119.here hx rfl (hb hby d18_10) rfl ?_
  refine XS.icmpYes X119.here hx rfl (pc0 := 11) (pc' := 32) rfl (hb hby d18_11) rfl (flt (by decide : ¬ ((2 : Int32) < (2 : Int32)))).2.1 (by decide) (by decide) ?_
  refine XS.aloadN X119.here hx rfl (hb hby d18_32) rfl rfl ?_
  exact k_)
 obtain ⟨fs, hr, hrun, hended, hW, hsame⟩ := X119.leave (v := some (.ref x103)) (fun h => by rw [Bd.returns] at h; cases h)
 refine ⟨_, _, p122 _ (retOut X119 hx (w := (.ref x103)) (i := .areturn) Bd.returns rfl (Or.inr (Or.inr (Or.inr (Or.inr ⟨rfl, rfl, rfl⟩)))) (hb hby d18_33) hr), hrun, hended, _, _, rfl, ?_, ⟨_, rfl⟩, hW, hsame.mono (by decide) (by decide)⟩
 show Q18_U2 Z a1 k1 c0 c1 cs1 fm h0 n0 _ T119.heap _
 exact ⟨x103, x104, rfl, N119, K120, q102_g, (Nat.le_trans (Keep.refl h0 []).1 q102_z), f121⟩
theorem ef_rm8_U2 (m : MethodId) (a1 : Addr) (k1 : ClassId) (c0 : Int32) (c1 : Int32) (cs1 : Int32) (fm : Value) : entryFrame m #[(.ref a1), (.int (0 : Int32)), (.int (2 : Int32))] 6 = mkF m 0 #[.val (.ref a1), .val (.int (0 : Int32)), .val (.int (2 : Int32)), .unset, .unset, .unset] [] := by first | (simp [entryFrame, mkF, argsToLocals, Value.category]; done) | rfl
def Q8_U2 (Z : State) (a1 : Addr) (k1 : ClassId) (c0 : Int32) (c1 : Int32) (cs1 : Int32) (fm : Value) (h0 : Heap) (n0 : Nat) (v : Option Value) (h : Heap) (L : List Loc) : Prop := ∃ (b : Addr) (kb : ClassId), v = some (.ref b) ∧ Fr n0 L ∧ (Keep h0 h []) ∧ (n0 ≤ b) ∧ (h0.size ≤ b) ∧ (Arv Z h b kb .byte (4 : Int32) [(.int (own_x0 c0)), (.int (own_x8 c0)), (.int (own_x0 c1)), (.int (own_x8 c1))] (.int (0 : Int32)))
set_option maxRecDepth 65536 in
set_option maxHeartbeats 40000000 in
theorem rm8_U2 (l : Launch) (Z : State) (a0 : Array Value) (hw : ∀ d ∈ tables_1, d.before a0 Z = true) (ws : List Jvm.Cond) (a1 : Addr) (k1 : ClassId) (c0 : Int32) (c1 : Int32) (cs1 : Int32) (fm : Value) (h0 : Heap) (n0 : Nat) (Z0 : n0 ≤ h0.size) (O1 : Old Z n0 h0) (G : own_G Z cs1 fm) (V1 : Arv Z h0 a1 k1 .char (2 : Int32) [(.int c0), (.int c1)] (.int (0 : Int32))) (a0_ : ¬ (c0 < (0 : Int32))) (b0_ : ¬ ((65535 : Int32) < c0)) (a1_ : ¬ (c1 < (0 : Int32))) (b1_ : ¬ ((65535 : Int32) < c1)) (big : ((255 : Int32) < c0) ∨ ((255 : Int32) < c1)) :
  MetFree l (⟨"java/lang/StringUTF16", "compress", "([CII)[B"⟩ : MethodName) (head1 (Jvm.Cond.code (⟨"java/lang/StringUTF16", "compress", "([CII)[B"⟩ : MethodName) jdk_52_method_16_code 6 (some (.array .byte)) :: ws) ({ frames := 3, cells := 2, slots := 6, locals := 40 } : Room)) (fun a U => a = #[(.ref a1), (.int (0 : Int32)), (.int (2 : Int32))] ∧ Z.Warmed39 U.vm ∧ U.heap = h0) (fun _ _ _ _ _ => True) (fun _ U o U' => ∃ v L, o = .returned v ∧ Q8_U2 Z a1 k1 c0 c1 cs1 fm h0 n0 v U'.heap L ∧ FrameEnd U o U' L ({ frames := 3, cells := 2, slots := 6, locals := 40 } : Room).cells ({ frames := 3, cells := 2, slots := 6, locals := 40 } : Room).slots) := by
 refine MetFree.of_bodySF pn8 hisR ?_
 intro p e s m args below meth c s₁ Bd hml0 hP hK
 obtain ⟨rfl, hZ, hh⟩ := hP
 have hx := Bd.exec
 have hby := Bd.bytes
 have hml : c.maxLocals = 6 := hml0
 have hown : s.vm.findClass "java/lang/StringUTF16" = some m.cls := findClass_of_methodNamed Bd.named
 have hnm := (name_of_methodNamed Bd.named Bd.method).1
 have X0 : Stand p l e ({ frames := 3, cells := 2, slots := 6, locals := 40 } : Room) s m #[(.ref a1), (.int (0 : Int32)), (.int (2 : Int32))] below meth c s₁ [] 0 0 := Stand.of_body Bd
 have e0 : s₁.heap = h0 := by rw [← hh, Bd.state]; rfl
 have N0 := Fr.nil n0
 have p0 : Go p.tables e below (s₁.setTop (entryFrame m #[(.ref a1), (.int (0 : Int32)), (.int (2 : Int32))] 6)) (s₁.setTop (mkF m 0 #[.val (.ref a1), .val (.int (0 : Int32)), .val (.int (2 : Int32)), .unset, .unset, .unset] [])) := fun t_ k_ => castTop (ef_rm8_U2 m a1 k1 c0 c1 cs1 fm) k_
 have p101 : Go p.tables e below _ (s₁.setTop (mkF m 1 #[.val (.ref a1), .val (.int (0 : Int32)), .val (.int (2 : Int32)), .unset, .unset, .unset] [(.int (2 : Int32))])) := fun t_ k_ => p0 t_ (by
  refine XS.iloadN X0.here hx rfl (hb hby d8_0) rfl ?_
  exact k_)
 obtain ⟨T102, h102, k102, X102, e102, E102, A102, st102⟩ := newP X0 hx hZ (own_w hw 20 rfl) e0 (g := (mkF m 1 #[.val (.ref a1), .val (.int (0 : Int32)), .val (.int (2 : Int32)), .unset, .unset, .unset] [(.int (2 : Int32))])) rfl (hb hby d8_1) rfl (by decide) (cap := 2) (by decide) (by decide) (by decide) (by decide)
 obtain ⟨b102, g102⟩ : ∃ z, z = h0.size := ⟨_, rfl⟩
 rw [← g102] at A102 st102
 have ne_a1_b102 : a1 ≠ b102 := Nat.ne_of_lt (Nat.lt_of_lt_of_le V1.lt (Nat.le_of_eq g102.symm))
 have ge_b102 : n0 ≤ b102 := Nat.le_trans (Nat.le_trans Z0 (Keep.refl h0 []).1) (Nat.le_of_eq g102.symm)
 have sz_b102 : h0.size ≤ b102 := Nat.le_trans (Keep.refl h0 []).1 (Nat.le_of_eq g102.symm)
 have K103 : Keep h0 h102 [] := (Keep.refl h0 []).ext E102
 have V102 : Arv Z h102 b102 k102 .byte (2 : Int32) [(.int (0 : Int32)), (.int (0 : Int32))] (.int (0 : Int32)) := (Arv.new A102 (by decide)).pad (pad_rep [] (.int (0 : Int32)) 2)
 have p104 : Go p.tables e below _ (T102.setTop (mkF m 9 #[.val (.ref a1), .val (.int (0 : Int32)), .val (.int (2 : Int32)), .val (.ref b102), .unset, .unset] [(.int (2 : Int32)), (.int (0 : Int32)), (.ref b102), (.int (0 : Int32)), (.ref a1)])) := fun t_ k_ => (gc p101 st102) t_ (by
  refine XS.astoreN X102.here hx rfl (hb hby d8_3) rfl rfl (l' := #[.val (.ref a1), .val (.int (0 : Int32)), .val (.int (2 : Int32)), .val (.ref b102), .unset, .unset]) rfl ?_
  refine XS.aloadN X102.here hx rfl (hb hby d8_4) rfl rfl ?_
  refine XS.iloadN X102.here hx rfl (hb hby d8_5) rfl ?_
  refine XS.aloadN X102.here hx rfl (hb hby d8_6) rfl rfl ?_
  refine XS.iconst X102.here hx rfl (hb hby d8_7) ?_
  refine XS.iloadN X102.here hx rfl (hb hby d8_8) rfl ?_
  exact k_)
 by_cases m0 : (255 : Int32) < c0
 ·have f105 := (V1.ext E102)
  obtain ⟨_, _, ⟨T106, L106, k106, n106⟩, -, X106, ⟨Lc106, hQ106, l106, y106, z106⟩, st106⟩ := Jvm.LawKit.callS X102 hx (y := (⟨"java/lang/StringUTF16", "compress", "([CI[BII)I"⟩ : MethodName)) hown (mvT hZ (own_w hw 46 rfl)) (mvT hZ (own_w hw 47 rfl)) (mvT hZ (own_w hw 44 rfl)) (mvT hZ (own_w hw 48 rfl)) (by decide) (backOf (W := 0) (rm9_U l Z a0 hw [] a1 b102 k1 k102 [c0, c1] 2 0 h102 n0 (Nat.le_trans Z0 K103.1) f105 V102 (by decide) (by decide) (fun j hj => absurd hj (by omega)) m0 ne_a1_b102 ge_b102) hZ (own_w hw 48 rfl) (own_w hw 44 rfl) (by decide) (by decide)) (g := (mkF m 9 #[.val (.ref a1), .val (.int (0 : Int32)), .val (.int (2 : Int32)), .val (.ref b102), .unset, .unset] [(.int (2 : Int32)), (.int (0 : Int32)), (.ref b102), (.int (0 : Int32)), (.ref a1)])) rfl (by rw [hml]; rfl) (argsL := [(.ref a1), (.int (0 : Int32)), (.ref b102), (.int (0 : Int32)), (.int (2 : Int32))]) (rest := []) (lenOf pd7 rfl) rfl (by show 2 * 0 + _ ≤ _; exact Nat.le_of_eq rfl) (hb hby d8_9) (fun _ _ => ⟨rfl, e102, (by decide : 1 + 0 ≤ _), (by decide : 2 + 0 ≤ _)⟩)
  dsimp only [Pt.U, Pt.locs, Pt.cells, Pt.slots] at X106 l106 y106 z106 st106 hQ106
  subst l106 y106 z106
  obtain ⟨rfl, N106q, q106_K, q106_V⟩ := hQ106
  have N106 := Fr.app N0 N106q
  have K107 : Keep h0 T106.heap [] := K103.trans q106_K (allS (Or.inr sz_b102) all0)
  have f108 : Arv Z T106.heap b102 k102 .byte (2 : Int32) [(.int (0 : Int32)), (.int (0 : Int32))] (.int (0 : Int32)) := q106_V
  have p109 : Go p.tables e below _ (T106.setTop (mkF m 12 #[.val (.ref a1), .val (.int (0 : Int32)), .val (.int (2 : Int32)), .val (.ref b102), .unset, .unset] [(.int (0 : Int32))])) := (gc p104 st106)
  have p110 : Go p.tables e below _ (T106.setTop (mkF m 23 #[.val (.ref a1), .val (.int (0 : Int32)), .val (.int (2 : Int32)), .val (.ref b102), .val (.int (0 : Int32)), .unset] [(.int (2 : Int32)), (.int (0 : Int32)), (.ref a1)])) := fun t_ k_ => p109 t_ (by
   refine XS.istore X106.here hx rfl (hb hby d8_12) rfl (l' := #[.val (.ref a1), .val (.int (0 : Int32)), .val (.int (2 : Int32)), .val (.ref b102), .val (.int (0 : Int32)), .unset]) rfl ?_
   refine XS.iload X106.here hx rfl (hb hby d8_14) rfl ?_
   refine XS.iloadN X106.here hx rfl (hb hby d8_16) rfl ?_
   refine XS.icmpNo X106.here hx rfl (hb hby d8_17) rfl (feq (by decide : ¬ ((0 : Int32) = (2 : Int32)))).1 ?_
   refine XS.aloadN X106.here hx rfl (hb hby d8_20) rfl rfl ?_
   refine XS.iloadN X106.here hx rfl (hb hby d8_21) rfl ?_
   refine XS.iloadN X106.here hx rfl (hb hby d8_22) rfl ?_
   exact k_)
  have f111 := (f105.keep q106_K (ninS ne_a1_b102 nin0))
  have f112 := ((O1.ext E102).keep q106_K (allS ge_b102 all0))
  obtain ⟨_, _, ⟨T113, L113, k113, n113⟩, -, X113, ⟨Lc113, hQ113, l113, y113, z113⟩, st113⟩ := Jvm.LawKit.callS X106 hx (y := (⟨"java/lang/StringUTF16", "toBytes", "([CII)[B"⟩ : MethodName)) hown (mvT hZ (own_w hw 82 rfl)) (mvT hZ (own_w hw 83 rfl)) (mvT hZ (own_w hw 44 rfl)) (mvT hZ (own_w hw 84 rfl)) (by decide) (backOf (W := 0) (rm18_U2 l Z a0 hw [] a1 k1 c0 c1 cs1 fm T106.heap n0 (Nat.le_trans Z0 K107.1) f112 G f111) hZ (own_w hw 84 rfl) (own_w hw 44 rfl) (by decide) (by decide)) (g := (mkF m 23 #[.val (.ref a1), .val (.int (0 : Int32)), .val (.int (2 : Int32)), .val (.ref b102), .val (.int (0 : Int32)), .unset] [(.int (2 : Int32)), (.int (0 : Int32)), (.ref a1)])) rfl (by rw [hml]; rfl) (argsL := [(.ref a1), (.int (0 : Int32)), (.int (2 : Int32))]) (rest := []) (lenOf pd8 rfl) rfl (by show 2 * 0 + _ ≤ _; exact Nat.le_of_eq rfl) (hb hby d8_23) (fun _ _ => ⟨rfl, rfl, (by decide : 1 + 1 ≤ _), (by decide : 2 + 4 ≤ _)⟩)
  dsimp only [Pt.U, Pt.locs, Pt.cells, Pt.slots] at X113 l113 y113 z113 st113 hQ113
  subst l113 y113 z113
  obtain ⟨x114, x115, rfl, N113q, q113_K, q113_g, q113_z, q113_V⟩ := hQ113
  have N113 := Fr.app N106 N113q
  have K116 : Keep h0 T113.heap [] := K107.trans q113_K all0
  have ne_a1_x114 : a1 ≠ x114 := Nat.ne_of_lt (Nat.lt_of_lt_of_le f111.lt q113_z)
  have ne_b102_x114 : b102 ≠ x114 := Nat.ne_of_lt (Nat.lt_of_lt_of_le f108.lt q113_z)
  have p117 : Go p.tables e below _ (T113.setTop (mkF m 32 #[.val (.ref a1), .val (.int (0 : Int32)), .val (.int (2 : Int32)), .val (.ref b102), .val (.int (0 : Int32)), .val (.ref x114)] [(.int (0 : Int32)), (.ref x114)])) := fun t_ k_ => (gc p110 st113) t_ (by
   refine XS.astore X113.here hx rfl (hb hby d8_26) rfl rfl (l' := #[.val (.ref a1), .val (.int (0 : Int32)), .val (.int (2 : Int32)), .val (.ref b102), .val (.int (0 : Int32)), .val (.ref x114)]) rfl ?_
   refine XS.aload X113.here hx rfl (hb hby d8_28) rfl rfl ?_
   refine XS.iload X113.here hx rfl (hb hby d8_30) rfl ?_
   exact k_)
  have f118 := (f112.keep q113_K all0)
  obtain ⟨_, _, ⟨T119, L119, k119, n119⟩, -, X119, ⟨Lc119, hQ119, l119, y119, z119⟩, st119⟩ := Jvm.LawKit.callS X113 hx (y := (⟨"java/lang/StringUTF16", "getChar", "([BI)C"⟩ : MethodName)) hown (mvT hZ (own_w hw 98 rfl)) (mvT hZ (own_w hw 99 rfl)) (mvT hZ (own_w hw 44 rfl)) (mvT hZ (own_w hw 100 rfl)) (by decide) (backOf (W := 0) (rm22 l Z a0 hw [] x114 (0 : Int32) x115 (4 : Int32) [(.int (own_x0 c0)), (.int (own_x8 c0)), (.int (own_x0 c1)), (.int (own_x8 c1))] (own_x0 c0) (own_x8 c0) c0 cs1 fm T113.heap n0 (Nat.le_trans Z0 K116.1) f118 G q113_V (by decide) (by decide) rfl rfl (own_l16 c0 a0_ b0_)) hZ (own_w hw 100 rfl) (own_w hw 44 rfl) (by decide) (by decide)) (g := (mkF m 32 #[.val (.ref a1), .val (.int (0 : Int32)), .val (.int (2 : Int32)), .val (.ref b102), .val (.int (0 : Int32)), .val (.ref x114)] [(.int (0 : Int32)), (.ref x114)])) rfl (by rw [hml]; rfl) (argsL := [(.ref x114), (.int (0 : Int32))]) (rest := []) (lenOf pd4 rfl) rfl (by show 2 * 0 + _ ≤ _; exact Nat.le_of_eq rfl) (hb hby d8_32) (fun _ _ => ⟨rfl, rfl, (by decide : 2 + 0 ≤ _), (by decide : 6 + 0 ≤ _)⟩)
  dsimp only [Pt.U, Pt.locs, Pt.cells, Pt.slots] at X119 l119 y119 z119 st119 hQ119
  subst l119 y119 z119
  obtain ⟨rfl, N119q, q119_hh⟩ := hQ119
  have N119 := Fr.app N113 N119q
  have p120 : Go p.tables e below _ (T119.setTop (mkF m 38 #[.val (.ref a1), .val (.int (0 : Int32)), .val (.int (2 : Int32)), .val (.ref b102), .val (.int (0 : Int32)), .val (.ref x114)] [(.int (255 : Int32)), (.int c0)])) := fun t_ k_ => (gc p117 st119) t_ (by
   refine XS.sipush X119.here hx rfl (hb hby d8_35) ?_
   exact k_)
  have c121 : ((255 : Int32) < c0) := m0
  have p122 : Go p.tables e below _ (T119.setTop (mkF m 56 #[.val (.ref a1), .val (.int (0 : Int32)), .val (.int (2 : Int32)), .val (.ref b102), .val (.int (0 : Int32)), .val (.ref x114)] [(.ref x114)])) := fun t_ k_ => p120 t_ (by
   refine XS.icmpYes X119.here hx rfl (pc0 := 38) (pc' := 54) rfl (hb hby d8_38) rfl (tlt c121).2.2.1 (by decide) (by decide) ?_
   refine XS.aload X119.here hx rfl (hb hby d8_54) rfl rfl ?_
   exact k_)
  obtain ⟨fs, hr, hrun, hended, hW, hsame⟩ := X119.leave (v := some (.ref x114)) (fun h => by rw [Bd.returns] at h; cases h)
  refine ⟨_, _, p122 _ (retOut X119 hx (w := (.ref x114)) (i := .areturn) Bd.returns rfl (Or.inr (Or.inr (Or.inr (Or.inr ⟨rfl, rfl, rfl⟩)))) (hb hby d8_56) hr), hrun, hended, _, _, rfl, ?_, ⟨_, rfl⟩, hW, hsame.mono (by decide) (by decide)⟩
  show Q8_U2 Z a1 k1 c0 c1 cs1 fm h0 n0 _ T119.heap _
  rw [q119_hh]
  exact ⟨x114, x115, rfl, N119, K116, q113_g, (Nat.le_trans K107.1 q113_z), q113_V⟩
 ·skip
  by_cases m1 : (255 : Int32) < c1
  ·have hl123 : ∀ j, j < 1 → ¬ ((255 : Int32) < own_at [c0, c1] j) := by
    intro j hj
    rcases (by omega : j = 0) with rfl
    ·exact m0
   have f124 := (V1.ext E102)
   obtain ⟨_, _, ⟨T125, L125, k125, n125⟩, -, X125, ⟨Lc125, hQ125, l125, y125, z125⟩, st125⟩ := Jvm.LawKit.callS X102 hx (y := (⟨"java/lang/StringUTF16", "compress", "([CI[BII)I"⟩ : MethodName)) hown (mvT hZ (own_w hw 46 rfl)) (mvT hZ (own_w hw 47 rfl)) (mvT hZ (own_w hw 44 rfl)) (mvT hZ (own_w hw 48 rfl)) (by decide) (backOf (W := 0) (rm9_U l Z a0 hw [] a1 b102 k1 k102 [c0, c1] 2 1 h102 n0 (Nat.le_trans Z0 K103.1) f124 V102 (by decide) (by decide) hl123 m1 ne_a1_b102 ge_b102) hZ (own_w hw 48 rfl) (own_w hw 44 rfl) (by decide) (by decide)) (g := (mkF m 9 #[.val (.ref a1), .val (.int (0 : Int32)), .val (.int (2 : Int32)), .val (.ref b102), .unset, .unset] [(.int (2 : Int32)), (.int (0 : Int32)), (.ref b102), (.int (0 : Int32)), (.ref a1)])) rfl (by rw [hml]; rfl) (argsL := [(.ref a1), (.int (0 : Int32)), (.ref b102), (.int (0 : Int32)), (.int (2 : Int32))]) (rest := []) (lenOf pd7 rfl) rfl (by show 2 * 0 + _ ≤ _; exact Nat.le_of_eq rfl) (hb hby d8_9) (fun _ _ => ⟨rfl, e102, (by decide : 1 + 0 ≤ _), (by decide : 2 + 0 ≤ _)⟩)
   dsimp only [Pt.U, Pt.locs, Pt.cells, Pt.slots] at X125 l125 y125 z125 st125 hQ125
   subst l125 y125 z125
   obtain ⟨rfl, N125q, q125_K, q125_V⟩ := hQ125
   have N125 := Fr.app N0 N125q
   have K126 : Keep h0 T125.heap [] := K103.trans q125_K (allS (Or.inr sz_b102) all0)
   have f127 : Arv Z T125.heap b102 k102 .byte (2 : Int32) [(.int (own_xl c0)), (.int (0 : Int32))] (.int (0 : Int32)) := q125_V
   have p128 : Go p.tables e below _ (T125.setTop (mkF m 12 #[.val (.ref a1), .val (.int (0 : Int32)), .val (.int (2 : Int32)), .val (.ref b102), .unset, .unset] [(.int (1 : Int32))])) := (gc p104 st125)
   have p129 : Go p.tables e below _ (T125.setTop (mkF m 23 #[.val (.ref a1), .val (.int (0 : Int32)), .val (.int (2 : Int32)), .val (.ref b102), .val (.int (1 : Int32)), .unset] [(.int (2 : Int32)), (.int (0 : Int32)), (.ref a1)])) := fun t_ k_ => p128 t_ (by
    refine XS.istore X125.here hx rfl (hb hby d8_12) rfl (l' := #[.val (.ref a1), .val (.int (0 : Int32)), .val (.int (2 : Int32)), .val (.ref b102), .val (.int (1 : Int32)), .unset]) rfl ?_
    refine XS.iload X125.here hx rfl (hb hby d8_14) rfl ?_
    refine XS.iloadN X125.here hx rfl (hb hby d8_16) rfl ?_
    refine XS.icmpNo X125.here hx rfl (hb hby d8_17) rfl (feq (by decide : ¬ ((1 : Int32) = (2 : Int32)))).1 ?_
    refine XS.aloadN X125.here hx rfl (hb hby d8_20) rfl rfl ?_
    refine XS.iloadN X125.here hx rfl (hb hby d8_21) rfl ?_
    refine XS.iloadN X125.here hx rfl (hb hby d8_22) rfl ?_
    exact k_)
   have f130 := (f124.keep q125_K (ninS ne_a1_b102 nin0))
   have f131 := ((O1.ext E102).keep q125_K (allS ge_b102 all0))
   obtain ⟨_, _, ⟨T132, L132, k132, n132⟩, -, X132, ⟨Lc132, hQ132, l132, y132, z132⟩, st132⟩ := Jvm.LawKit.callS X125 hx (y := (⟨"java/lang/StringUTF16", "toBytes", "([CII)[B"⟩ : MethodName)) hown (mvT hZ (own_w hw 82 rfl)) (mvT hZ (own_w hw 83 rfl)) (mvT hZ (own_w hw 44 rfl)) (mvT hZ (own_w hw 84 rfl)) (by decide) (backOf (W := 0) (rm18_U2 l Z a0 hw [] a1 k1 c0 c1 cs1 fm T125.heap n0 (Nat.le_trans Z0 K126.1) f131 G f130) hZ (own_w hw 84 rfl) (own_w hw 44 rfl) (by decide) (by decide)) (g := (mkF m 23 #[.val (.ref a1), .val (.int (0 : Int32)), .val (.int (2 : Int32)), .val (.ref b102), .val (.int (1 : Int32)), .unset] [(.int (2 : Int32)), (.int (0 : Int32)), (.ref a1)])) rfl (by rw [hml]; rfl) (argsL := [(.ref a1), (.int (0 : Int32)), (.int (2 : Int32))]) (rest := []) (lenOf pd8 rfl) rfl (by show 2 * 0 + _ ≤ _; exact Nat.le_of_eq rfl) (hb hby d8_23) (fun _ _ => ⟨rfl, rfl, (by decide : 1 + 1 ≤ _), (by decide : 2 + 4 ≤ _)⟩)
   dsimp only [Pt.U, Pt.locs, Pt.cells, Pt.slots] at X132 l132 y132 z132 st132 hQ132
   subst l132 y132 z132
   obtain ⟨x133, x134, rfl, N132q, q132_K, q132_g, q132_z, q132_V⟩ := hQ132
   have N132 := Fr.app N125 N132q
   have K135 : Keep h0 T132.heap [] := K126.trans q132_K all0
   have ne_a1_x133 : a1 ≠ x133 := Nat.ne_of_lt (Nat.lt_of_lt_of_le f130.lt q132_z)
   have ne_b102_x133 : b102 ≠ x133 := Nat.ne_of_lt (Nat.lt_of_lt_of_le f127.lt q132_z)
   have p136 : Go p.tables e below _ (T132.setTop (mkF m 32 #[.val (.ref a1), .val (.int (0 : Int32)), .val (.int (2 : Int32)), .val (.ref b102), .val (.int (1 : Int32)), .val (.ref x133)] [(.int (1 : Int32)), (.ref x133)])) := fun t_ k_ => (gc p129 st132) t_ (by
    refine XS.astore X132.here hx rfl (hb hby d8_26) rfl rfl (l' := #[.val (.ref a1), .val (.int (0 : Int32)), .val (.int (2 : Int32)), .val (.ref b102), .val (.int (1 : Int32)), .val (.ref x133)]) rfl ?_
    refine XS.aload X132.here hx rfl (hb hby d8_28) rfl rfl ?_
    refine XS.iload X132.here hx rfl (hb hby d8_30) rfl ?_
    exact k_)
   have f137 := (f131.keep q132_K all0)
   obtain ⟨_, _, ⟨T138, L138, k138, n138⟩, -, X138, ⟨Lc138, hQ138, l138, y138, z138⟩, st138⟩ := Jvm.LawKit.callS X132 hx (y := (⟨"java/lang/StringUTF16", "getChar", "([BI)C"⟩ : MethodName)) hown (mvT hZ (own_w hw 98 rfl)) (mvT hZ (own_w hw 99 rfl)) (mvT hZ (own_w hw 44 rfl)) (mvT hZ (own_w hw 100 rfl)) (by decide) (backOf (W := 0) (rm22 l Z a0 hw [] x133 (1 : Int32) x134 (4 : Int32) [(.int (own_x0 c0)), (.int (own_x8 c0)), (.int (own_x0 c1)), (.int (own_x8 c1))] (own_x0 c1) (own_x8 c1) c1 cs1 fm T132.heap n0 (Nat.le_trans Z0 K135.1) f137 G q132_V (by decide) (by decide) rfl rfl (own_l16 c1 a1_ b1_)) hZ (own_w hw 100 rfl) (own_w hw 44 rfl) (by decide) (by decide)) (g := (mkF m 32 #[.val (.ref a1), .val (.int (0 : Int32)), .val (.int (2 : Int32)), .val (.ref b102), .val (.int (1 : Int32)), .val (.ref x133)] [(.int (1 : Int32)), (.ref x133)])) rfl (by rw [hml]; rfl) (argsL := [(.ref x133), (.int (1 : Int32))]) (rest := []) (lenOf pd4 rfl) rfl (by show 2 * 0 + _ ≤ _; exact Nat.le_of_eq rfl) (hb hby d8_32) (fun _ _ => ⟨rfl, rfl, (by decide : 2 + 0 ≤ _), (by decide : 6 + 0 ≤ _)⟩)
   dsimp only [Pt.U, Pt.locs, Pt.cells, Pt.slots] at X138 l138 y138 z138 st138 hQ138
   subst l138 y138 z138
   obtain ⟨rfl, N138q, q138_hh⟩ := hQ138
   have N138 := Fr.app N132 N138q
   have p139 : Go p.tables e below _ (T138.setTop (mkF m 38 #[.val (.ref a1), .val (.int (0 : Int32)), .val (.int (2 : Int32)), .val (.ref b102), .val (.int (1 : Int32)), .val (.ref x133)] [(.int (255 : Int32)), (.int c1)])) := fun t_ k_ => (gc p136 st138) t_ (by
    refine XS.sipush X138.here hx rfl (hb hby d8_35) ?_
    exact k_)
   have c140 : ((255 : Int32) < c1) := m1
   have p141 : Go p.tables e below _ (T138.setTop (mkF m 56 #[.val (.ref a1), .val (.int (0 : Int32)), .val (.int (2 : Int32)), .val (.ref b102), .val (.int (1 : Int32)), .val (.ref x133)] [(.ref x133)])) := fun t_ k_ => p139 t_ (by
    refine XS.icmpYes X138.here hx rfl (pc0 := 38) (pc' := 54) rfl (hb hby d8_38) rfl (tlt c140).2.2.1 (by decide) (by decide) ?_
    refine XS.aload X138.here hx rfl (hb hby d8_54) rfl rfl ?_
    exact k_)
   obtain ⟨fs, hr, hrun, hended, hW, hsame⟩ := X138.leave (v := some (.ref x133)) (fun h => by rw [Bd.returns] at h; cases h)
   refine ⟨_, _, p141 _ (retOut X138 hx (w := (.ref x133)) (i := .areturn) Bd.returns rfl (Or.inr (Or.inr (Or.inr (Or.inr ⟨rfl, rfl, rfl⟩)))) (hb hby d8_56) hr), hrun, hended, _, _, rfl, ?_, ⟨_, rfl⟩, hW, hsame.mono (by decide) (by decide)⟩
   show Q8_U2 Z a1 k1 c0 c1 cs1 fm h0 n0 _ T138.heap _
   rw [q138_hh]
   exact ⟨x133, x134, rfl, N138, K135, q132_g, (Nat.le_trans K126.1 q132_z), q132_V⟩
  ·exact absurd big (by simp [m0, m1])
theorem ef_rm10_U2 (m : MethodId) (a1 : Addr) (k1 : ClassId) (vs : List Value) : entryFrame m #[(.ref a1), (.int (2 : Int32))] 2 = mkF m 0 #[.val (.ref a1), .val (.int (2 : Int32))] [] := by first | (simp [entryFrame, mkF, argsToLocals, Value.category]; done) | rfl
def Q10_U2 (Z : State) (a1 : Addr) (k1 : ClassId) (vs : List Value) (h0 : Heap) (n0 : Nat) (v : Option Value) (h : Heap) (L : List Loc) : Prop := v = some (.int (1 : Int32)) ∧ Fr n0 L ∧ (h = h0)
set_option maxRecDepth 65536 in
set_option maxHeartbeats 40000000 in
theorem rm10_U2 (l : Launch) (Z : State) (a0 : Array Value) (hw : ∀ d ∈ tables_1, d.before a0 Z = true) (ws : List Jvm.Cond) (a1 : Addr) (k1 : ClassId) (vs : List Value) (h0 : Heap) (n0 : Nat) (Z0 : n0 ≤ h0.size) (V1 : Arv Z h0 a1 k1 .byte (4 : Int32) vs (.int (0 : Int32))) :
  MetFree l (⟨"java/lang/StringUTF16", "coderFromArrayLen", "([BI)B"⟩ : MethodName) (head1 (Jvm.Cond.code (⟨"java/lang/StringUTF16", "coderFromArrayLen", "([BI)B"⟩ : MethodName) jdk_52_method_15_code 2 (some .byte) :: ws) ({ frames := 0, cells := 0, slots := 0, locals := 0 } : Room)) (fun a U => a = #[(.ref a1), (.int (2 : Int32))] ∧ Z.Warmed39 U.vm ∧ U.heap = h0) (fun _ _ _ _ _ => True) (fun _ U o U' => ∃ v L, o = .returned v ∧ Q10_U2 Z a1 k1 vs h0 n0 v U'.heap L ∧ FrameEnd U o U' L ({ frames := 0, cells := 0, slots := 0, locals := 0 } : Room).cells ({ frames := 0, cells := 0, slots := 0, locals := 0 } : Room).slots) := by
 refine MetFree.of_bodySF pn10 hisR ?_
 intro p e s m args below meth c s₁ Bd hml0 hP hK
 obtain ⟨rfl, hZ, hh⟩ := hP
 have hx := Bd.exec
 have hby := Bd.bytes
 have hml : c.maxLocals = 2 := hml0
 have hown : s.vm.findClass "java/lang/StringUTF16" = some m.cls := findClass_of_methodNamed Bd.named
 have hnm := (name_of_methodNamed Bd.named Bd.method).1
 have X0 : Stand p l e ({ frames := 0, cells := 0, slots := 0, locals := 0 } : Room) s m #[(.ref a1), (.int (2 : Int32))] below meth c s₁ [] 0 0 := Stand.of_body Bd
 have e0 : s₁.heap = h0 := by rw [← hh, Bd.state]; rfl
 have N0 := Fr.nil n0
 have p0 : Go p.tables e below (s₁.setTop (entryFrame m #[(.ref a1), (.int (2 : Int32))] 2)) (s₁.setTop (mkF m 0 #[.val (.ref a1), .val (.int (2 : Int32))] [])) := fun t_ k_ => castTop (ef_rm10_U2 m a1 k1 vs) k_
 have p101 : Go p.tables e below _ (s₁.setTop (mkF m 2 #[.val (.ref a1), .val (.int (2 : Int32))] [(.ref a1), (.int (2 : Int32))])) := fun t_ k_ => p0 t_ (by
  refine XS.iloadN X0.here hx rfl (hb hby d10_0) rfl ?_
  refine XS.aloadN X0.here hx rfl (hb hby d10_1) rfl rfl ?_
  exact k_)
 obtain ⟨cl102, Ar102, -, S102, Ng102, -, -⟩ := id V1
 have p103 : Go p.tables e below _ (s₁.setTop (mkF m 8 #[.val (.ref a1), .val (.int (2 : Int32))] [(.int (1 : Int32))])) := fun t_ k_ => p101 t_ (by
  refine X0.arraylength hx (by rw [e0]; exact Ar102.1) (State.isArrayOf_alike hZ.alike Ar102.2.1) (g := (mkF m 2 #[.val (.ref a1), .val (.int (2 : Int32))] [(.ref a1), (.int (2 : Int32))])) rfl rfl (hb hby d10_2) _ ?_
  rw [len_of S102 Ng102]
  show Steps p.tables e below (s₁.setTop (mkF m 3 #[.val (.ref a1), .val (.int (2 : Int32))] [(.int (4 : Int32)), (.int (2 : Int32))])) _
  refine XS.isub X0.here hx rfl (hb hby d10_3) rfl ?_
  refine XS.bipush X0.here hx rfl (hb hby d10_4) ?_
  refine XS.iushr X0.here hx rfl (hb hby d10_6) rfl ?_
  refine XS.i2b X0.here hx rfl (hb hby d10_7) rfl ?_
  exact k_)
 obtain ⟨fs, hr, hrun, hended, hW, hsame⟩ := X0.leave (v := some (.int (1 : Int32))) (fun h => by rw [Bd.returns] at h; cases h)
 refine ⟨_, _, p103 _ (retN X0 hx (t := .byte) Bd.returns (by simp) (hb hby d10_8) hr), hrun, hended, _, _, rfl, ?_, ⟨_, rfl⟩, hW, hsame.mono (by decide) (by decide)⟩
 show Q10_U2 Z a1 k1 vs h0 n0 _ s₁.heap _
 rw [e0]
 exact ⟨rfl, N0, rfl⟩
theorem ef_rm3_U2 (m : MethodId) (a1 : Addr) (a2 : Addr) (k1 : ClassId) (c0 : Int32) (c1 : Int32) (cs1 : Int32) (fm : Value) : entryFrame m #[(.ref a1), (.ref a2), (.int (0 : Int32)), (.int (2 : Int32)), .null] 6 = mkF m 0 #[.val (.ref a1), .val (.ref a2), .val (.int (0 : Int32)), .val (.int (2 : Int32)), .val .null, .unset] [] := by first | (simp [entryFrame, mkF, argsToLocals, Value.category]; done) | rfl
def Q3_U2 (Z : State) (a1 : Addr) (a2 : Addr) (k1 : ClassId) (c0 : Int32) (c1 : Int32) (cs1 : Int32) (fm : Value) (h0 : Heap) (n0 : Nat) (v : Option Value) (h : Heap) (L : List Loc) : Prop := ∃ (b : Addr) (kb : ClassId), v = none ∧ Fr n0 L ∧ (Keep h0 h [a1]) ∧ (Exa Z h a1 "java/lang/String") ∧ (Fld Z h a1 "java/lang/String" "coder" "B" (.int (1 : Int32))) ∧ (Fld Z h a1 "java/lang/String" "value" "[B" (.ref b)) ∧ (n0 ≤ b) ∧ (h0.size ≤ b) ∧ (Arv Z h b kb .byte (4 : Int32) [(.int (own_x0 c0)), (.int (own_x8 c0)), (.int (own_x0 c1)), (.int (own_x8 c1))] (.int (0 : Int32))) ∧ (a1 ≠ b)
set_option maxRecDepth 65536 in
set_option maxHeartbeats 40000000 in
theorem rm3_U2 (l : Launch) (Z : State) (a0 : Array Value) (hw : ∀ d ∈ tables_1, d.before a0 Z = true) (ws : List Jvm.Cond) (a1 : Addr) (a2 : Addr) (k1 : ClassId) (c0 : Int32) (c1 : Int32) (cs1 : Int32) (fm : Value) (h0 : Heap) (n0 : Nat) (Z0 : n0 ≤ h0.size) (O1 : Old Z n0 h0) (G : own_G Z cs1 fm) (F1 : Fld Z h0 a1 "java/lang/String" "coder" "B" (.int (0 : Int32))) (F2 : Fld Z h0 a1 "java/lang/String" "value" "[B" .null) (E1 : Exa Z h0 a1 "java/lang/String") (V1 : Arv Z h0 a2 k1 .char (2 : Int32) [(.int c0), (.int c1)] (.int (0 : Int32))) (ne : a1 ≠ a2) (g1 : n0 ≤ a1) (a0_ : ¬ (c0 < (0 : Int32))) (b0_ : ¬ ((65535 : Int32) < c0)) (a1_ : ¬ (c1 < (0 : Int32))) (b1_ : ¬ ((65535 : Int32) < c1)) (big : ((255 : Int32) < c0) ∨ ((255 : Int32) < c1)) :
  MetFree l (⟨"java/lang/String", "<init>", "([CIILjava/lang/Void;)V"⟩ : MethodName) (head1 (Jvm.Cond.code (⟨"java/lang/String", "<init>", "([CIILjava/lang/Void;)V"⟩ : MethodName) jdk_42_method_149_code 6 none :: ws) ({ frames := 4, cells := 2, slots := 6, locals := 57 } : Room)) (fun a U => a = #[(.ref a1), (.ref a2), (.int (0 : Int32)), (.int (2 : Int32)), .null] ∧ Z.Warmed39 U.vm ∧ U.heap = h0) (fun _ _ _ _ _ => True) (fun _ U o U' => ∃ v L, o = .returned v ∧ Q3_U2 Z a1 a2 k1 c0 c1 cs1 fm h0 n0 v U'.heap L ∧ FrameEnd U o U' L ({ frames := 4, cells := 2, slots := 6, locals := 57 } : Room).cells ({ frames := 4, cells := 2, slots := 6, locals := 57 } : Room).slots) := by
 refine MetFree.of_bodySF pn3 hisR ?_
 intro p e s m args below meth c s₁ Bd hml0 hP hK
 obtain ⟨rfl, hZ, hh⟩ := hP
 have hx := Bd.exec
 have hby := Bd.bytes
 have hml : c.maxLocals = 6 := hml0
 have hown : s.vm.findClass "java/lang/String" = some m.cls := findClass_of_methodNamed Bd.named
 have hnm := (name_of_methodNamed Bd.named Bd.method).1
 have X0 : Stand p l e ({ frames := 4, cells := 2, slots := 6, locals := 57 } : Room) s m #[(.ref a1), (.ref a2), (.int (0 : Int32)), (.int (2 : Int32)), .null] below meth c s₁ [] 0 0 := Stand.of_body Bd
 have e0 : s₁.heap = h0 := by rw [← hh, Bd.state]; rfl
 have N0 := Fr.nil n0
 have p0 : Go p.tables e below (s₁.setTop (entryFrame m #[(.ref a1), (.ref a2), (.int (0 : Int32)), (.int (2 : Int32)), .null] 6)) (s₁.setTop (mkF m 0 #[.val (.ref a1), .val (.ref a2), .val (.int (0 : Int32)), .val (.int (2 : Int32)), .val .null, .unset] [])) := fun t_ k_ => castTop (ef_rm3_U2 m a1 a2 k1 c0 c1 cs1 fm) k_
 have p101 : Go p.tables e below _ (s₁.setTop (mkF m 1 #[.val (.ref a1), .val (.ref a2), .val (.int (0 : Int32)), .val (.int (2 : Int32)), .val .null, .unset] [(.ref a1)])) := fun t_ k_ => p0 t_ (by
  refine XS.aloadN X0.here hx rfl (hb hby d3_0) rfl rfl ?_
  exact k_)
 obtain ⟨T102, X102, e102, st102⟩ := initO X0 hx hZ hown (own_w hw 16 rfl) (own_w hw 17 rfl) (own_w hw 18 rfl) e0 (g := (mkF m 1 #[.val (.ref a1), .val (.ref a2), .val (.int (0 : Int32)), .val (.int (2 : Int32)), .val .null, .unset] [(.ref a1)])) rfl (by rw [hml]; rfl) rfl (hb hby d3_1) (by decide) (W := 0) (by show 2 * 0 + _ ≤ _; exact Nat.le_of_eq rfl) (by decide)
 have p103 : Go p.tables e below _ (T102.setTop (mkF m 27 #[.val (.ref a1), .val (.ref a2), .val (.int (0 : Int32)), .val (.int (2 : Int32)), .val .null, .unset] [])) := fun t_ k_ => (gc p101 st102) t_ (by
  refine XS.iloadN X102.here hx rfl (hb hby d3_4) rfl ?_
  refine XS.ifYes X102.here hx rfl (pc0 := 5) (pc' := 27) rfl (hb hby d3_5) rfl ((if0 _ _).trans (feq (by decide : ¬ ((2 : Int32) = (0 : Int32)))).2) (by decide) (by decide) ?_
  exact k_)
 obtain ⟨T104, X104, e104, st104⟩ := getS2 X102 hx hZ hown (host := "") (Or.inl (own_w hw 41 rfl)) Via.refl e102 (G.1.ext O1.2) (g := (mkF m 27 #[.val (.ref a1), .val (.ref a2), .val (.int (0 : Int32)), .val (.int (2 : Int32)), .val .null, .unset] [])) rfl (hb hby d3_27)
 have c105 : ¬ (cs1 = (0 : Int32)) := G.2.1
 have p106 : Go p.tables e below _ (T104.setTop (mkF m 36 #[.val (.ref a1), .val (.ref a2), .val (.int (0 : Int32)), .val (.int (2 : Int32)), .val .null, .unset] [(.int (2 : Int32)), (.int (0 : Int32)), (.ref a2)])) := fun t_ k_ => (gc p103 st104) t_ (by
  refine XS.ifNo X104.here hx rfl (hb hby d3_30) rfl ((if0 _ _).trans (feq c105).1) ?_
  refine XS.aloadN X104.here hx rfl (hb hby d3_33) rfl rfl ?_
  refine XS.iloadN X104.here hx rfl (hb hby d3_34) rfl ?_
  refine XS.iloadN X104.here hx rfl (hb hby d3_35) rfl ?_
  exact k_)
 obtain ⟨_, _, ⟨T107, L107, k107, n107⟩, -, X107, ⟨Lc107, hQ107, l107, y107, z107⟩, st107⟩ := Jvm.LawKit.callS X104 hx (y := (⟨"java/lang/StringUTF16", "compress", "([CII)[B"⟩ : MethodName)) hown (mvT hZ (own_w hw 42 rfl)) (mvT hZ (own_w hw 43 rfl)) (mvT hZ (own_w hw 44 rfl)) (mvT hZ (own_w hw 45 rfl)) (by decide) (backOf (W := 0) (rm8_U2 l Z a0 hw [] a2 k1 c0 c1 cs1 fm h0 n0 (Nat.le_trans Z0 (Keep.refl h0 [a1]).1) O1 G V1 a0_ b0_ a1_ b1_ big) hZ (own_w hw 45 rfl) (own_w hw 44 rfl) (by decide) (by decide)) (g := (mkF m 36 #[.val (.ref a1), .val (.ref a2), .val (.int (0 : Int32)), .val (.int (2 : Int32)), .val .null, .unset] [(.int (2 : Int32)), (.int (0 : Int32)), (.ref a2)])) rfl (by rw [hml]; rfl) (argsL := [(.ref a2), (.int (0 : Int32)), (.int (2 : Int32))]) (rest := []) (lenOf pd8 rfl) rfl (by show 2 * 0 + _ ≤ _; exact Nat.le_of_eq rfl) (hb hby d3_36) (fun _ _ => ⟨rfl, e104, (by decide : 0 + 2 ≤ _), (by decide : 0 + 6 ≤ _)⟩)
 dsimp only [Pt.U, Pt.locs, Pt.cells, Pt.slots] at X107 l107 y107 z107 st107 hQ107
 subst l107 y107 z107
 obtain ⟨x108, x109, rfl, N107q, q107_K, q107_g, q107_z, q107_V⟩ := hQ107
 have N107 := Fr.app N0 N107q
 have K110 : Keep h0 T107.heap [a1] := (Keep.refl h0 [a1]).trans q107_K all0
 have ne_a1_x108 : a1 ≠ x108 := Nat.ne_of_lt (Nat.lt_of_lt_of_le E1.lt q107_z)
 have ne_a2_x108 : a2 ≠ x108 := Nat.ne_of_lt (Nat.lt_of_lt_of_le V1.lt q107_z)
 have p111 : Go p.tables e below _ (T107.setTop (mkF m 45 #[.val (.ref a1), .val (.ref a2), .val (.int (0 : Int32)), .val (.int (2 : Int32)), .val .null, .val (.ref x108)] [(.int (2 : Int32)), (.ref x108), (.ref a1)])) := fun t_ k_ => (gc p106 st107) t_ (by
  refine XS.astore X107.here hx rfl (hb hby d3_39) rfl rfl (l' := #[.val (.ref a1), .val (.ref a2), .val (.int (0 : Int32)), .val (.int (2 : Int32)), .val .null, .val (.ref x108)]) rfl ?_
  refine XS.aloadN X107.here hx rfl (hb hby d3_41) rfl rfl ?_
  refine XS.aload X107.here hx rfl (hb hby d3_42) rfl rfl ?_
  refine XS.iloadN X107.here hx rfl (hb hby d3_44) rfl ?_
  exact k_)
 obtain ⟨_, _, ⟨T112, L112, k112, n112⟩, -, X112, ⟨Lc112, hQ112, l112, y112, z112⟩, st112⟩ := Jvm.LawKit.callS X107 hx (y := (⟨"java/lang/StringUTF16", "coderFromArrayLen", "([BI)B"⟩ : MethodName)) hown (mvT hZ (own_w hw 49 rfl)) (mvT hZ (own_w hw 50 rfl)) (mvT hZ (own_w hw 44 rfl)) (mvT hZ (own_w hw 51 rfl)) (by decide) (backOf (W := 1) (rm10_U2 l Z a0 hw [] x108 x109 [(.int (own_x0 c0)), (.int (own_x8 c0)), (.int (own_x0 c1)), (.int (own_x8 c1))] T107.heap n0 (Nat.le_trans Z0 K110.1) q107_V) hZ (own_w hw 51 rfl) (own_w hw 44 rfl) (by decide) (by decide)) (g := (mkF m 45 #[.val (.ref a1), .val (.ref a2), .val (.int (0 : Int32)), .val (.int (2 : Int32)), .val .null, .val (.ref x108)] [(.int (2 : Int32)), (.ref x108), (.ref a1)])) rfl (by rw [hml]; rfl) (argsL := [(.ref x108), (.int (2 : Int32))]) (rest := [(.ref a1)]) (lenOf pd9 rfl) rfl (by show 2 * 0 + _ ≤ _; exact Nat.le_of_eq rfl) (hb hby d3_45) (fun _ _ => ⟨rfl, rfl, (by decide : 2 + 0 ≤ _), (by decide : 6 + 0 ≤ _)⟩)
 dsimp only [Pt.U, Pt.locs, Pt.cells, Pt.slots] at X112 l112 y112 z112 st112 hQ112
 subst l112 y112 z112
 obtain ⟨rfl, N112q, q112_hh⟩ := hQ112
 have N112 := Fr.app N107 N112q
 have f113 := (F1.keep q107_K nin0)
 have f114 := (E1.keep q107_K)
 obtain ⟨T115, h115, X115, e115, W115, st115⟩ := putFN X112 hx hZ hown (own_w hw 26 rfl) Via.refl q112_hh f113 f114 (Or.inr ⟨(own_w hw 22 rfl), rfl, hnm⟩) (own_w hw 7 rfl) (ty := .byte) (v' := (.int (1 : Int32))) (by decide) rfl (by decide) (g := (mkF m 48 #[.val (.ref a1), .val (.ref a2), .val (.int (0 : Int32)), .val (.int (2 : Int32)), .val .null, .val (.ref x108)] [(.int (1 : Int32)), (.ref a1)])) rfl rfl (hb hby d3_48)
 have K116 : Keep h0 h115 [a1] := K110.wr W115 (Or.inl (List.mem_of_getElem? (i := 0) rfl))
 have N115 := Fr.snoc X115 N112 g1
 have F115 : Fld Z h115 a1 "java/lang/String" "coder" "B" (.int (1 : Int32)) := f113.same W115
 have p117 : Go p.tables e below _ (T115.setTop (mkF m 54 #[.val (.ref a1), .val (.ref a2), .val (.int (0 : Int32)), .val (.int (2 : Int32)), .val .null, .val (.ref x108)] [(.ref x108), (.ref a1)])) := fun t_ k_ => (gc (gc p111 st112) st115) t_ (by
  refine XS.aloadN X115.here hx rfl (hb hby d3_51) rfl rfl ?_
  refine XS.aload X115.here hx rfl (hb hby d3_52) rfl rfl ?_
  exact k_)
 have f118 := ((F2.keep q107_K nin0).other W115 (Or.inr (slot_ne (Or.inr (own_w hw 21 rfl)) (Or.inr (own_w hw 22 rfl)) (by decide) (t := (.array .byte)) (t' := .byte) (by decide) (by decide))))
 have f119 := (f114.wr W115)
 obtain ⟨T120, h120, X120, e120, W120, st120⟩ := putF X115 hx hZ hown (host := "") (Or.inl (own_w hw 25 rfl)) Via.refl e115 f118 f119 (Or.inr ⟨(own_w hw 21 rfl), rfl, hnm⟩) (own_w hw 7 rfl) (ty := (.array .byte)) (by decide) rfl rfl (g := (mkF m 54 #[.val (.ref a1), .val (.ref a2), .val (.int (0 : Int32)), .val (.int (2 : Int32)), .val .null, .val (.ref x108)] [(.ref x108), (.ref a1)])) rfl rfl (hb hby d3_54)
 have K121 : Keep h0 h120 [a1] := K116.wr W120 (Or.inl (List.mem_of_getElem? (i := 0) rfl))
 have N120 := Fr.snoc X120 N115 g1
 have F120 : Fld Z h120 a1 "java/lang/String" "value" "[B" (.ref x108) := f118.same W120
 have f122 := (f119.wr W120)
 have f123 := (F115.other W120 (Or.inr (slot_ne (Or.inr (own_w hw 22 rfl)) (Or.inr (own_w hw 21 rfl)) (by decide) (t := .byte) (t' := (.array .byte)) (by decide) (by decide))))
 have f124 := ((q107_V.other W115 (Ne.symm ne_a1_x108)).other W120 (Ne.symm ne_a1_x108))
 obtain ⟨fs, hr, hrun, hended, hW, hsame⟩ := X120.leave (v := none) (fun _ => rfl)
 refine ⟨_, _, (gc p117 st120) _ (X120.returnOut hx Bd.returns (hb hby d3_57) hr), hrun, hended, _, _, rfl, ?_, ⟨_, rfl⟩, hW, hsame.mono (by decide) (by decide)⟩
 show Q3_U2 Z a1 a2 k1 c0 c1 cs1 fm h0 n0 _ T120.heap _
 rw [e120]
 exact ⟨x108, x109, rfl, N120, K121, f122, f123, F120, q107_g, (Nat.le_trans (Keep.refl h0 [a1]).1 q107_z), f124, ne_a1_x108⟩
theorem ef_rm2_U2 (m : MethodId) (a1 : Addr) (a2 : Addr) (k1 : ClassId) (c0 : Int32) (c1 : Int32) (cs1 : Int32) (fm : Value) : entryFrame m #[(.ref a1), (.ref a2)] 2 = mkF m 0 #[.val (.ref a1), .val (.ref a2)] [] := by first | (simp [entryFrame, mkF, argsToLocals, Value.category]; done) | rfl
def Q2_U2 (Z : State) (a1 : Addr) (a2 : Addr) (k1 : ClassId) (c0 : Int32) (c1 : Int32) (cs1 : Int32) (fm : Value) (h0 : Heap) (n0 : Nat) (v : Option Value) (h : Heap) (L : List Loc) : Prop := ∃ (b : Addr) (kb : ClassId), v = none ∧ Fr n0 L ∧ (Keep h0 h [a1]) ∧ (Exa Z h a1 "java/lang/String") ∧ (Fld Z h a1 "java/lang/String" "coder" "B" (.int (1 : Int32))) ∧ (Fld Z h a1 "java/lang/String" "value" "[B" (.ref b)) ∧ (n0 ≤ b) ∧ (h0.size ≤ b) ∧ (Arv Z h b kb .byte (4 : Int32) [(.int (own_x0 c0)), (.int (own_x8 c0)), (.int (own_x0 c1)), (.int (own_x8 c1))] (.int (0 : Int32))) ∧ (a1 ≠ b)
set_option maxRecDepth 65536 in
set_option maxHeartbeats 40000000 in
theorem rm2_U2 (l : Launch) (Z : State) (a0 : Array Value) (hw : ∀ d ∈ tables_1, d.before a0 Z = true) (ws : List Jvm.Cond) (a1 : Addr) (a2 : Addr) (k1 : ClassId) (c0 : Int32) (c1 : Int32) (cs1 : Int32) (fm : Value) (h0 : Heap) (n0 : Nat) (Z0 : n0 ≤ h0.size) (O1 : Old Z n0 h0) (G : own_G Z cs1 fm) (F1 : Fld Z h0 a1 "java/lang/String" "coder" "B" (.int (0 : Int32))) (F2 : Fld Z h0 a1 "java/lang/String" "value" "[B" .null) (E1 : Exa Z h0 a1 "java/lang/String") (V1 : Arv Z h0 a2 k1 .char (2 : Int32) [(.int c0), (.int c1)] (.int (0 : Int32))) (ne : a1 ≠ a2) (g1 : n0 ≤ a1) (a0_ : ¬ (c0 < (0 : Int32))) (b0_ : ¬ ((65535 : Int32) < c0)) (a1_ : ¬ (c1 < (0 : Int32))) (b1_ : ¬ ((65535 : Int32) < c1)) (big : ((255 : Int32) < c0) ∨ ((255 : Int32) < c1)) :
  MetFree l (⟨"java/lang/String", "<init>", "([C)V"⟩ : MethodName) (head1 (Jvm.Cond.code (⟨"java/lang/String", "<init>", "([C)V"⟩ : MethodName) jdk_42_method_3_code 2 none :: ws) ({ frames := 5, cells := 2, slots := 6, locals := 74 } : Room)) (fun a U => a = #[(.ref a1), (.ref a2)] ∧ Z.Warmed39 U.vm ∧ U.heap = h0) (fun _ _ _ _ _ => True) (fun _ U o U' => ∃ v L, o = .returned v ∧ Q2_U2 Z a1 a2 k1 c0 c1 cs1 fm h0 n0 v U'.heap L ∧ FrameEnd U o U' L ({ frames := 5, cells := 2, slots := 6, locals := 74 } : Room).cells ({ frames := 5, cells := 2, slots := 6, locals := 74 } : Room).slots) := by
 refine MetFree.of_bodySF pn2 hisR ?_
 intro p e s m args below meth c s₁ Bd hml0 hP hK
 obtain ⟨rfl, hZ, hh⟩ := hP
 have hx := Bd.exec
 have hby := Bd.bytes
 have hml : c.maxLocals = 2 := hml0
 have hown : s.vm.findClass "java/lang/String" = some m.cls := findClass_of_methodNamed Bd.named
 have hnm := (name_of_methodNamed Bd.named Bd.method).1
 have X0 : Stand p l e ({ frames := 5, cells := 2, slots := 6, locals := 74 } : Room) s m #[(.ref a1), (.ref a2)] below meth c s₁ [] 0 0 := Stand.of_body Bd
 have e0 : s₁.heap = h0 := by rw [← hh, Bd.state]; rfl
 have N0 := Fr.nil n0
 have p0 : Go p.tables e below (s₁.setTop (entryFrame m #[(.ref a1), (.ref a2)] 2)) (s₁.setTop (mkF m 0 #[.val (.ref a1), .val (.ref a2)] [])) := fun t_ k_ => castTop (ef_rm2_U2 m a1 a2 k1 c0 c1 cs1 fm) k_
 have p101 : Go p.tables e below _ (s₁.setTop (mkF m 4 #[.val (.ref a1), .val (.ref a2)] [(.ref a2), (.int (0 : Int32)), (.ref a2), (.ref a1)])) := fun t_ k_ => p0 t_ (by
  refine XS.aloadN X0.here hx rfl (hb hby d2_0) rfl rfl ?_
  refine XS.aloadN X0.here hx rfl (hb hby d2_1) rfl rfl ?_
  refine XS.iconst X0.here hx rfl (hb hby d2_2) ?_
  refine XS.aloadN X0.here hx rfl (hb hby d2_3) rfl rfl ?_
  exact k_)
 obtain ⟨cl102, Ar102, -, S102, Ng102, -, -⟩ := id V1
 have p103 : Go p.tables e below _ (s₁.setTop (mkF m 6 #[.val (.ref a1), .val (.ref a2)] [.null, (.int (2 : Int32)), (.int (0 : Int32)), (.ref a2), (.ref a1)])) := fun t_ k_ => p101 t_ (by
  refine X0.arraylength hx (by rw [e0]; exact Ar102.1) (State.isArrayOf_alike hZ.alike Ar102.2.1) (g := (mkF m 4 #[.val (.ref a1), .val (.ref a2)] [(.ref a2), (.int (0 : Int32)), (.ref a2), (.ref a1)])) rfl rfl (hb hby d2_4) _ ?_
  rw [len_of S102 Ng102]
  show Steps p.tables e below (s₁.setTop (mkF m 5 #[.val (.ref a1), .val (.ref a2)] [(.int (2 : Int32)), (.int (0 : Int32)), (.ref a2), (.ref a1)])) _
  refine XS.aconstNull X0.here hx rfl (hb hby d2_5) ?_
  exact k_)
 obtain ⟨_, _, ⟨T104, L104, k104, n104⟩, -, X104, ⟨Lc104, hQ104, l104, y104, z104⟩, st104⟩ := X0.specialBack hx (y := (⟨"java/lang/String", "<init>", "([CIILjava/lang/Void;)V"⟩ : MethodName)) rfl hown (mvT hZ (own_w hw 12 rfl)) (mvT hZ (own_w hw 13 rfl)) (mvT hZ (own_w hw 15 rfl)) (by decide) (backOf (W := 0) (rm3_U2 l Z a0 hw [] a1 a2 k1 c0 c1 cs1 fm h0 n0 (Nat.le_trans Z0 (Keep.refl h0 [a1]).1) O1 G F1 F2 E1 V1 ne g1 a0_ b0_ a1_ b1_ big) hZ (own_w hw 15 rfl) (own_w hw 8 rfl) (by decide) (by decide)) (g := (mkF m 6 #[.val (.ref a1), .val (.ref a2)] [.null, (.int (2 : Int32)), (.int (0 : Int32)), (.ref a2), (.ref a1)])) rfl (by rw [hml]; rfl) (Steps.refl _) (a := a1) (argsL := [(.ref a2), (.int (0 : Int32)), (.int (2 : Int32)), .null]) (rest := []) (lenOf pd10 rfl) rfl (by show 2 * 0 + _ ≤ _; exact Nat.le_of_eq rfl) (hb hby d2_6) (fun _ _ => ⟨rfl, e0, (by decide : 0 + 2 ≤ _), (by decide : 0 + 6 ≤ _)⟩)
 dsimp only [Pt.U, Pt.locs, Pt.cells, Pt.slots] at X104 l104 y104 z104 st104 hQ104
 subst l104 y104 z104
 obtain ⟨x105, x106, rfl, N104q, q104_K, q104_E, q104_c, q104_v, q104_g, q104_z, q104_V, q104_n⟩ := hQ104
 have N104 := Fr.app N0 N104q
 have K107 : Keep h0 T104.heap [a1] := (Keep.refl h0 [a1]).trans q104_K (allS (Or.inl (List.mem_of_getElem? (i := 0) rfl)) all0)
 have ne_a1_x105 : a1 ≠ x105 := Nat.ne_of_lt (Nat.lt_of_lt_of_le E1.lt q104_z)
 have ne_a2_x105 : a2 ≠ x105 := Nat.ne_of_lt (Nat.lt_of_lt_of_le V1.lt q104_z)
 obtain ⟨fs, hr, hrun, hended, hW, hsame⟩ := X104.leave (v := none) (fun _ => rfl)
 refine ⟨_, _, (gcT p103 st104) _ (X104.returnOut hx Bd.returns (hb hby d2_9) hr), hrun, hended, _, _, rfl, ?_, ⟨_, rfl⟩, hW, hsame.mono (by decide) (by decide)⟩
 show Q2_U2 Z a1 a2 k1 c0 c1 cs1 fm h0 n0 _ T104.heap _
 exact ⟨x105, x106, rfl, N104, K107, q104_E, q104_c, q104_v, q104_g, (Nat.le_trans (Keep.refl h0 [a1]).1 q104_z), q104_V, q104_n⟩
theorem ef_rm8_L3 (m : MethodId) (a1 : Addr) (k1 : ClassId) (c0 : Int32) (c1 : Int32) (c2 : Int32) : entryFrame m #[(.ref a1), (.int (0 : Int32)), (.int (3 : Int32))] 6 = mkF m 0 #[.val (.ref a1), .val (.int (0 : Int32)), .val (.int (3 : Int32)), .unset, .unset, .unset] [] := by first | (simp [entryFrame, mkF, argsToLocals, Value.category]; done) | rfl
def Q8_L3 (Z : State) (a1 : Addr) (k1 : ClassId) (c0 : Int32) (c1 : Int32) (c2 : Int32) (h0 : Heap) (n0 : Nat) (v : Option Value) (h : Heap) (L : List Loc) : Prop := ∃ (b : Addr) (kb : ClassId), v = some (.ref b) ∧ Fr n0 L ∧ (Keep h0 h []) ∧ (n0 ≤ b) ∧ (h0.size ≤ b) ∧ (Arv Z h b kb .byte (3 : Int32) [(.int (own_xl c0)), (.int (own_xl c1)), (.int (own_xl c2))] (.int (0 : Int32)))
set_option maxRecDepth 65536 in
set_option maxHeartbeats 40000000 in
theorem rm8_L3 (l : Launch) (Z : State) (a0 : Array Value) (hw : ∀ d ∈ tables_1, d.before a0 Z = true) (ws : List Jvm.Cond) (a1 : Addr) (k1 : ClassId) (c0 : Int32) (c1 : Int32) (c2 : Int32) (h0 : Heap) (n0 : Nat) (Z0 : n0 ≤ h0.size) (V1 : Arv Z h0 a1 k1 .char (3 : Int32) [(.int c0), (.int c1), (.int c2)] (.int (0 : Int32))) (l0 : ¬ ((255 : Int32) < c0)) (l1 : ¬ ((255 : Int32) < c1)) (l2 : ¬ ((255 : Int32) < c2)) :
  MetFree l (⟨"java/lang/StringUTF16", "compress", "([CII)[B"⟩ : MethodName) (head1 (Jvm.Cond.code (⟨"java/lang/StringUTF16", "compress", "([CII)[B"⟩ : MethodName) jdk_52_method_16_code 6 (some (.array .byte)) :: ws) ({ frames := 1, cells := 1, slots := 3, locals := 18 } : Room)) (fun a U => a = #[(.ref a1), (.int (0 : Int32)), (.int (3 : Int32))] ∧ Z.Warmed39 U.vm ∧ U.heap = h0) (fun _ _ _ _ _ => True) (fun _ U o U' => ∃ v L, o = .returned v ∧ Q8_L3 Z a1 k1 c0 c1 c2 h0 n0 v U'.heap L ∧ FrameEnd U o U' L ({ frames := 1, cells := 1, slots := 3, locals := 18 } : Room).cells ({ frames := 1, cells := 1, slots := 3, locals := 18 } : Room).slots) := by
 refine MetFree.of_bodySF pn8 hisR ?_
 intro p e s m args below meth c s₁ Bd hml0 hP hK
 obtain ⟨rfl, hZ, hh⟩ := hP
 have hx := Bd.exec
 have hby := Bd.bytes
 have hml : c.maxLocals = 6 := hml0
 have hown : s.vm.findClass "java/lang/StringUTF16" = some m.cls := findClass_of_methodNamed Bd.named
 have hnm := (name_of_methodNamed Bd.named Bd.method).1
 have X0 : Stand p l e ({ frames := 1, cells := 1, slots := 3, locals := 18 } : Room) s m #[(.ref a1), (.int (0 : Int32)), (.int (3 : Int32))] below meth c s₁ [] 0 0 := Stand.of_body Bd
 have e0 : s₁.heap = h0 := by rw [← hh, Bd.state]; rfl
 have N0 := Fr.nil n0
 have p0 : Go p.tables e below (s₁.setTop (entryFrame m #[(.ref a1), (.int (0 : Int32)), (.int (3 : Int32))] 6)) (s₁.setTop (mkF m 0 #[.val (.ref a1), .val (.int (0 : Int32)), .val (.int (3 : Int32)), .unset, .unset, .unset] [])) := fun t_ k_ => castTop (ef_rm8_L3 m a1 k1 c0 c1 c2) k_
 have p101 : Go p.tables e below _ (s₁.setTop (mkF m 1 #[.val (.ref a1), .val (.int (0 : Int32)), .val (.int (3 : Int32)), .unset, .unset, .unset] [(.int (3 : Int32))])) := fun t_ k_ => p0 t_ (by
  refine XS.iloadN X0.here hx rfl (hb hby d8_0) rfl ?_
  exact k_)
 obtain ⟨T102, h102, k102, X102, e102, E102, A102, st102⟩ := newP X0 hx hZ (own_w hw 20 rfl) e0 (g := (mkF m 1 #[.val (.ref a1), .val (.int (0 : Int32)), .val (.int (3 : Int32)), .unset, .unset, .unset] [(.int (3 : Int32))])) rfl (hb hby d8_1) rfl (by decide) (cap := 3) (by decide) (by decide) (by decide) (by decide)
 obtain ⟨b102, g102⟩ : ∃ z, z = h0.size := ⟨_, rfl⟩
 rw [← g102] at A102 st102
 have ne_a1_b102 : a1 ≠ b102 := Nat.ne_of_lt (Nat.lt_of_lt_of_le V1.lt (Nat.le_of_eq g102.symm))
 have ge_b102 : n0 ≤ b102 := Nat.le_trans (Nat.le_trans Z0 (Keep.refl h0 []).1) (Nat.le_of_eq g102.symm)
 have sz_b102 : h0.size ≤ b102 := Nat.le_trans (Keep.refl h0 []).1 (Nat.le_of_eq g102.symm)
 have K103 : Keep h0 h102 [] := (Keep.refl h0 []).ext E102
 have V102 : Arv Z h102 b102 k102 .byte (3 : Int32) [(.int (0 : Int32)), (.int (0 : Int32)), (.int (0 : Int32))] (.int (0 : Int32)) := (Arv.new A102 (by decide)).pad (pad_rep [] (.int (0 : Int32)) 3)
 have p104 : Go p.tables e below _ (T102.setTop (mkF m 9 #[.val (.ref a1), .val (.int (0 : Int32)), .val (.int (3 : Int32)), .val (.ref b102), .unset, .unset] [(.int (3 : Int32)), (.int (0 : Int32)), (.ref b102), (.int (0 : Int32)), (.ref a1)])) := fun t_ k_ => (gc p101 st102) t_ (by
  refine XS.astoreN X102.here hx rfl (hb hby d8_3) rfl rfl (l' := #[.val (.ref a1), .val (.int (0 : Int32)), .val (.int (3 : Int32)), .val (.ref b102), .unset, .unset]) rfl ?_
  refine XS.aloadN X102.here hx rfl (hb hby d8_4) rfl rfl ?_
  refine XS.iloadN X102.here hx rfl (hb hby d8_5) rfl ?_
  refine XS.aloadN X102.here hx rfl (hb hby d8_6) rfl rfl ?_
  refine XS.iconst X102.here hx rfl (hb hby d8_7) ?_
  refine XS.iloadN X102.here hx rfl (hb hby d8_8) rfl ?_
  exact k_)
 have hl105 : ∀ j, j < 3 → ¬ ((255 : Int32) < own_at [c0, c1, c2] j) := by
  intro j hj
  rcases (by omega : j = 0 ∨ j = 1 ∨ j = 2) with rfl | rfl | rfl
  ·exact l0
  ·exact l1
  ·exact l2
 have f106 := (V1.ext E102)
 obtain ⟨_, _, ⟨T107, L107, k107, n107⟩, -, X107, ⟨Lc107, hQ107, l107, y107, z107⟩, st107⟩ := Jvm.LawKit.callS X102 hx (y := (⟨"java/lang/StringUTF16", "compress", "([CI[BII)I"⟩ : MethodName)) hown (mvT hZ (own_w hw 46 rfl)) (mvT hZ (own_w hw 47 rfl)) (mvT hZ (own_w hw 44 rfl)) (mvT hZ (own_w hw 48 rfl)) (by decide) (backOf (W := 0) (rm9_L l Z a0 hw [] a1 b102 k1 k102 [c0, c1, c2] 3 3 h102 n0 (Nat.le_trans Z0 K103.1) f106 V102 (by decide) rfl hl105 ne_a1_b102 ge_b102) hZ (own_w hw 48 rfl) (own_w hw 44 rfl) (by decide) (by decide)) (g := (mkF m 9 #[.val (.ref a1), .val (.int (0 : Int32)), .val (.int (3 : Int32)), .val (.ref b102), .unset, .unset] [(.int (3 : Int32)), (.int (0 : Int32)), (.ref b102), (.int (0 : Int32)), (.ref a1)])) rfl (by rw [hml]; rfl) (argsL := [(.ref a1), (.int (0 : Int32)), (.ref b102), (.int (0 : Int32)), (.int (3 : Int32))]) (rest := []) (lenOf pd7 rfl) rfl (by show 2 * 0 + _ ≤ _; exact Nat.le_of_eq rfl) (hb hby d8_9) (fun _ _ => ⟨rfl, e102, (by decide : 1 + 0 ≤ _), (by decide : 3 + 0 ≤ _)⟩)
 dsimp only [Pt.U, Pt.locs, Pt.cells, Pt.slots] at X107 l107 y107 z107 st107 hQ107
 subst l107 y107 z107
 obtain ⟨rfl, N107q, q107_K, q107_V⟩ := hQ107
 have N107 := Fr.app N0 N107q
 have K108 : Keep h0 T107.heap [] := K103.trans q107_K (allS (Or.inr sz_b102) all0)
 have f109 : Arv Z T107.heap b102 k102 .byte (3 : Int32) [(.int (own_xl c0)), (.int (own_xl c1)), (.int (own_xl c2))] (.int (0 : Int32)) := q107_V
 have p110 : Go p.tables e below _ (T107.setTop (mkF m 12 #[.val (.ref a1), .val (.int (0 : Int32)), .val (.int (3 : Int32)), .val (.ref b102), .unset, .unset] [(.int (3 : Int32))])) := (gc p104 st107)
 have p111 : Go p.tables e below _ (T107.setTop (mkF m 58 #[.val (.ref a1), .val (.int (0 : Int32)), .val (.int (3 : Int32)), .val (.ref b102), .val (.int (3 : Int32)), .unset] [(.ref b102)])) := fun t_ k_ => p110 t_ (by
  refine XS.istore X107.here hx rfl (hb hby d8_12) rfl (l' := #[.val (.ref a1), .val (.int (0 : Int32)), .val (.int (3 : Int32)), .val (.ref b102), .val (.int (3 : Int32)), .unset]) rfl ?_
  refine XS.iload X107.here hx rfl (hb hby d8_14) rfl ?_
  refine XS.iloadN X107.here hx rfl (hb hby d8_16) rfl ?_
  refine XS.icmpYes X107.here hx rfl (pc0 := 17) (pc' := 57) rfl (hb hby d8_17) rfl (teq (by decide : ((3 : Int32) = (3 : Int32)))).1 (by decide) (by decide) ?_
  refine XS.aloadN X107.here hx rfl (hb hby d8_57) rfl rfl ?_
  exact k_)
 obtain ⟨fs, hr, hrun, hended, hW, hsame⟩ := X107.leave (v := some (.ref b102)) (fun h => by rw [Bd.returns] at h; cases h)
 refine ⟨_, _, p111 _ (retOut X107 hx (w := (.ref b102)) (i := .areturn) Bd.returns rfl (Or.inr (Or.inr (Or.inr (Or.inr ⟨rfl, rfl, rfl⟩)))) (hb hby d8_58) hr), hrun, hended, _, _, rfl, ?_, ⟨_, rfl⟩, hW, hsame.mono (by decide) (by decide)⟩
 show Q8_L3 Z a1 k1 c0 c1 c2 h0 n0 _ T107.heap _
 exact ⟨b102, k102, rfl, N107, K108, ge_b102, sz_b102, f109⟩
theorem ef_rm10_L3 (m : MethodId) (a1 : Addr) (k1 : ClassId) (vs : List Value) : entryFrame m #[(.ref a1), (.int (3 : Int32))] 2 = mkF m 0 #[.val (.ref a1), .val (.int (3 : Int32))] [] := by first | (simp [entryFrame, mkF, argsToLocals, Value.category]; done) | rfl
def Q10_L3 (Z : State) (a1 : Addr) (k1 : ClassId) (vs : List Value) (h0 : Heap) (n0 : Nat) (v : Option Value) (h : Heap) (L : List Loc) : Prop := v = some (.int (0 : Int32)) ∧ Fr n0 L ∧ (h = h0)
set_option maxRecDepth 65536 in
set_option maxHeartbeats 40000000 in
theorem rm10_L3 (l : Launch) (Z : State) (a0 : Array Value) (hw : ∀ d ∈ tables_1, d.before a0 Z = true) (ws : List Jvm.Cond) (a1 : Addr) (k1 : ClassId) (vs : List Value) (h0 : Heap) (n0 : Nat) (Z0 : n0 ≤ h0.size) (V1 : Arv Z h0 a1 k1 .byte (3 : Int32) vs (.int (0 : Int32))) :
  MetFree l (⟨"java/lang/StringUTF16", "coderFromArrayLen", "([BI)B"⟩ : MethodName) (head1 (Jvm.Cond.code (⟨"java/lang/StringUTF16", "coderFromArrayLen", "([BI)B"⟩ : MethodName) jdk_52_method_15_code 2 (some .byte) :: ws) ({ frames := 0, cells := 0, slots := 0, locals := 0 } : Room)) (fun a U => a = #[(.ref a1), (.int (3 : Int32))] ∧ Z.Warmed39 U.vm ∧ U.heap = h0) (fun _ _ _ _ _ => True) (fun _ U o U' => ∃ v L, o = .returned v ∧ Q10_L3 Z a1 k1 vs h0 n0 v U'.heap L ∧ FrameEnd U o U' L ({ frames := 0, cells := 0, slots := 0, locals := 0 } : Room).cells ({ frames := 0, cells := 0, slots := 0, locals := 0 } : Room).slots) := by
 refine MetFree.of_bodySF pn10 hisR ?_
 intro p e s m args below meth c s₁ Bd hml0 hP hK
 obtain ⟨rfl, hZ, hh⟩ := hP
 have hx := Bd.exec
 have hby := Bd.bytes
 have hml : c.maxLocals = 2 := hml0
 have hown : s.vm.findClass "java/lang/StringUTF16" = some m.cls := findClass_of_methodNamed Bd.named
 have hnm := (name_of_methodNamed Bd.named Bd.method).1
 have X0 : Stand p l e ({ frames := 0, cells := 0, slots := 0, locals := 0 } : Room) s m #[(.ref a1), (.int (3 : Int32))] below meth c s₁ [] 0 0 := Stand.of_body Bd
 have e0 : s₁.heap = h0 := by rw [← hh, Bd.state]; rfl
 have N0 := Fr.nil n0
 have p0 : Go p.tables e below (s₁.setTop (entryFrame m #[(.ref a1), (.int (3 : Int32))] 2)) (s₁.setTop (mkF m 0 #[.val (.ref a1), .val (.int (3 : Int32))] [])) := fun t_ k_ => castTop (ef_rm10_L3 m a1 k1 vs) k_
 have p101 : Go p.tables e below _ (s₁.setTop (mkF m 2 #[.val (.ref a1), .val (.int (3 : Int32))] [(.ref a1), (.int (3 : Int32))])) := fun t_ k_ => p0 t_ (by
  refine XS.iloadN X0.here hx rfl (hb hby d10_0) rfl ?_
  refine XS.aloadN X0.here hx rfl (hb hby d10_1) rfl rfl ?_
  exact k_)
 obtain ⟨cl102, Ar102, -, S102, Ng102, -, -⟩ := id V1
 have p103 : Go p.tables e below _ (s₁.setTop (mkF m 8 #[.val (.ref a1), .val (.int (3 : Int32))] [(.int (0 : Int32))])) := fun t_ k_ => p101 t_ (by
  refine X0.arraylength hx (by rw [e0]; exact Ar102.1) (State.isArrayOf_alike hZ.alike Ar102.2.1) (g := (mkF m 2 #[.val (.ref a1), .val (.int (3 : Int32))] [(.ref a1), (.int (3 : Int32))])) rfl rfl (hb hby d10_2) _ ?_
  rw [len_of S102 Ng102]
  show Steps p.tables e below (s₁.setTop (mkF m 3 #[.val (.ref a1), .val (.int (3 : Int32))] [(.int (3 : Int32)), (.int (3 : Int32))])) _
  refine XS.isub X0.here hx rfl (hb hby d10_3) rfl ?_
  refine XS.bipush X0.here hx rfl (hb hby d10_4) ?_
  refine XS.iushr X0.here hx rfl (hb hby d10_6) rfl ?_
  refine XS.i2b X0.here hx rfl (hb hby d10_7) rfl ?_
  exact k_)
 obtain ⟨fs, hr, hrun, hended, hW, hsame⟩ := X0.leave (v := some (.int (0 : Int32))) (fun h => by rw [Bd.returns] at h; cases h)
 refine ⟨_, _, p103 _ (retN X0 hx (t := .byte) Bd.returns (by simp) (hb hby d10_8) hr), hrun, hended, _, _, rfl, ?_, ⟨_, rfl⟩, hW, hsame.mono (by decide) (by decide)⟩
 show Q10_L3 Z a1 k1 vs h0 n0 _ s₁.heap _
 rw [e0]
 exact ⟨rfl, N0, rfl⟩
theorem ef_rm3_L3 (m : MethodId) (a1 : Addr) (a2 : Addr) (k1 : ClassId) (c0 : Int32) (c1 : Int32) (c2 : Int32) (cs1 : Int32) (fm : Value) : entryFrame m #[(.ref a1), (.ref a2), (.int (0 : Int32)), (.int (3 : Int32)), .null] 6 = mkF m 0 #[.val (.ref a1), .val (.ref a2), .val (.int (0 : Int32)), .val (.int (3 : Int32)), .val .null, .unset] [] := by first | (simp [entryFrame, mkF, argsToLocals, Value.category]; done) | rfl
def Q3_L3 (Z : State) (a1 : Addr) (a2 : Addr) (k1 : ClassId) (c0 : Int32) (c1 : Int32) (c2 : Int32) (cs1 : Int32) (fm : Value) (h0 : Heap) (n0 : Nat) (v : Option Value) (h : Heap) (L : List Loc) : Prop := ∃ (b : Addr) (kb : ClassId), v = none ∧ Fr n0 L ∧ (Keep h0 h [a1]) ∧ (Exa Z h a1 "java/lang/String") ∧ (Fld Z h a1 "java/lang/String" "coder" "B" (.int (0 : Int32))) ∧ (Fld Z h a1 "java/lang/String" "value" "[B" (.ref b)) ∧ (n0 ≤ b) ∧ (h0.size ≤ b) ∧ (Arv Z h b kb .byte (3 : Int32) [(.int (own_xl c0)), (.int (own_xl c1)), (.int (own_xl c2))] (.int (0 : Int32))) ∧ (a1 ≠ b)
set_option maxRecDepth 65536 in
set_option maxHeartbeats 40000000 in
theorem rm3_L3 (l : Launch) (Z : State) (a0 : Array Value) (hw : ∀ d ∈ tables_1, d.before a0 Z = true) (ws : List Jvm.Cond) (a1 : Addr) (a2 : Addr) (k1 : ClassId) (c0 : Int32) (c1 : Int32) (c2 : Int32) (cs1 : Int32) (fm : Value) (h0 : Heap) (n0 : Nat) (Z0 : n0 ≤ h0.size) (O1 : Old Z n0 h0) (G : own_G Z cs1 fm) (F1 : Fld Z h0 a1 "java/lang/String" "coder" "B" (.int (0 : Int32))) (F2 : Fld Z h0 a1 "java/lang/String" "value" "[B" .null) (E1 : Exa Z h0 a1 "java/lang/String") (V1 : Arv Z h0 a2 k1 .char (3 : Int32) [(.int c0), (.int c1), (.int c2)] (.int (0 : Int32))) (ne : a1 ≠ a2) (g1 : n0 ≤ a1) (l0 : ¬ ((255 : Int32) < c0)) (l1 : ¬ ((255 : Int32) < c1)) (l2 : ¬ ((255 : Int32) < c2)) :
  MetFree l (⟨"java/lang/String", "<init>", "([CIILjava/lang/Void;)V"⟩ : MethodName) (head1 (Jvm.Cond.code (⟨"java/lang/String", "<init>", "([CIILjava/lang/Void;)V"⟩ : MethodName) jdk_42_method_149_code 6 none :: ws) ({ frames := 2, cells := 1, slots := 3, locals := 35 } : Room)) (fun a U => a = #[(.ref a1), (.ref a2), (.int (0 : Int32)), (.int (3 : Int32)), .null] ∧ Z.Warmed39 U.vm ∧ U.heap = h0) (fun _ _ _ _ _ => True) (fun _ U o U' => ∃ v L, o = .returned v ∧ Q3_L3 Z a1 a2 k1 c0 c1 c2 cs1 fm h0 n0 v U'.heap L ∧ FrameEnd U o U' L ({ frames := 2, cells := 1, slots := 3, locals := 35 } : Room).cells ({ frames := 2, cells := 1, slots := 3, locals := 35 } : Room).slots) := by
 refine MetFree.of_bodySF pn3 hisR ?_
 intro p e s m args below meth c s₁ Bd hml0 hP hK
 obtain ⟨rfl, hZ, hh⟩ := hP
 have hx := Bd.exec
 have hby := Bd.bytes
 have hml : c.maxLocals = 6 := hml0
 have hown : s.vm.findClass "java/lang/String" = some m.cls := findClass_of_methodNamed Bd.named
 have hnm := (name_of_methodNamed Bd.named Bd.method).1
 have X0 : Stand p l e ({ frames := 2, cells := 1, slots := 3, locals := 35 } : Room) s m #[(.ref a1), (.ref a2), (.int (0 : Int32)), (.int (3 : Int32)), .null] below meth c s₁ [] 0 0 := Stand.of_body Bd
 have e0 : s₁.heap = h0 := by rw [← hh, Bd.state]; rfl
 have N0 := Fr.nil n0
 have p0 : Go p.tables e below (s₁.setTop (entryFrame m #[(.ref a1), (.ref a2), (.int (0 : Int32)), (.int (3 : Int32)), .null] 6)) (s₁.setTop (mkF m 0 #[.val (.ref a1), .val (.ref a2), .val (.int (0 : Int32)), .val (.int (3 : Int32)), .val .null, .unset] [])) := fun t_ k_ => castTop (ef_rm3_L3 m a1 a2 k1 c0 c1 c2 cs1 fm) k_
 have p101 : Go p.tables e below _ (s₁.setTop (mkF m 1 #[.val (.ref a1), .val (.ref a2), .val (.int (0 : Int32)), .val (.int (3 : Int32)), .val .null, .unset] [(.ref a1)])) := fun t_ k_ => p0 t_ (by
  refine XS.aloadN X0.here hx rfl (hb hby d3_0) rfl rfl ?_
  exact k_)
 obtain ⟨T102, X102, e102, st102⟩ := initO X0 hx hZ hown (own_w hw 16 rfl) (own_w hw 17 rfl) (own_w hw 18 rfl) e0 (g := (mkF m 1 #[.val (.ref a1), .val (.ref a2), .val (.int (0 : Int32)), .val (.int (3 : Int32)), .val .null, .unset] [(.ref a1)])) rfl (by rw [hml]; rfl) rfl (hb hby d3_1) (by decide) (W := 0) (by show 2 * 0 + _ ≤ _; exact Nat.le_of_eq rfl) (by decide)
 have p103 : Go p.tables e below _ (T102.setTop (mkF m 27 #[.val (.ref a1), .val (.ref a2), .val (.int (0 : Int32)), .val (.int (3 : Int32)), .val .null, .unset] [])) := fun t_ k_ => (gc p101 st102) t_ (by
  refine XS.iloadN X102.here hx rfl (hb hby d3_4) rfl ?_
  refine XS.ifYes X102.here hx rfl (pc0 := 5) (pc' := 27) rfl (hb hby d3_5) rfl ((if0 _ _).trans (feq (by decide : ¬ ((3 : Int32) = (0 : Int32)))).2) (by decide) (by decide) ?_
  exact k_)
 obtain ⟨T104, X104, e104, st104⟩ := getS2 X102 hx hZ hown (host := "") (Or.inl (own_w hw 41 rfl)) Via.refl e102 (G.1.ext O1.2) (g := (mkF m 27 #[.val (.ref a1), .val (.ref a2), .val (.int (0 : Int32)), .val (.int (3 : Int32)), .val .null, .unset] [])) rfl (hb hby d3_27)
 have c105 : ¬ (cs1 = (0 : Int32)) := G.2.1
 have p106 : Go p.tables e below _ (T104.setTop (mkF m 36 #[.val (.ref a1), .val (.ref a2), .val (.int (0 : Int32)), .val (.int (3 : Int32)), .val .null, .unset] [(.int (3 : Int32)), (.int (0 : Int32)), (.ref a2)])) := fun t_ k_ => (gc p103 st104) t_ (by
  refine XS.ifNo X104.here hx rfl (hb hby d3_30) rfl ((if0 _ _).trans (feq c105).1) ?_
  refine XS.aloadN X104.here hx rfl (hb hby d3_33) rfl rfl ?_
  refine XS.iloadN X104.here hx rfl (hb hby d3_34) rfl ?_
  refine XS.iloadN X104.here hx rfl (hb hby d3_35) rfl ?_
  exact k_)
 obtain ⟨_, _, ⟨T107, L107, k107, n107⟩, -, X107, ⟨Lc107, hQ107, l107, y107, z107⟩, st107⟩ := Jvm.LawKit.callS X104 hx (y := (⟨"java/lang/StringUTF16", "compress", "([CII)[B"⟩ : MethodName)) hown (mvT hZ (own_w hw 42 rfl)) (mvT hZ (own_w hw 43 rfl)) (mvT hZ (own_w hw 44 rfl)) (mvT hZ (own_w hw 45 rfl)) (by decide) (backOf (W := 0) (rm8_L3 l Z a0 hw [] a2 k1 c0 c1 c2 h0 n0 (Nat.le_trans Z0 (Keep.refl h0 [a1]).1) V1 l0 l1 l2) hZ (own_w hw 45 rfl) (own_w hw 44 rfl) (by decide) (by decide)) (g := (mkF m 36 #[.val (.ref a1), .val (.ref a2), .val (.int (0 : Int32)), .val (.int (3 : Int32)), .val .null, .unset] [(.int (3 : Int32)), (.int (0 : Int32)), (.ref a2)])) rfl (by rw [hml]; rfl) (argsL := [(.ref a2), (.int (0 : Int32)), (.int (3 : Int32))]) (rest := []) (lenOf pd8 rfl) rfl (by show 2 * 0 + _ ≤ _; exact Nat.le_of_eq rfl) (hb hby d3_36) (fun _ _ => ⟨rfl, e104, (by decide : 0 + 1 ≤ _), (by decide : 0 + 3 ≤ _)⟩)
 dsimp only [Pt.U, Pt.locs, Pt.cells, Pt.slots] at X107 l107 y107 z107 st107 hQ107
 subst l107 y107 z107
 obtain ⟨x108, x109, rfl, N107q, q107_K, q107_g, q107_z, q107_V⟩ := hQ107
 have N107 := Fr.app N0 N107q
 have K110 : Keep h0 T107.heap [a1] := (Keep.refl h0 [a1]).trans q107_K all0
 have ne_a1_x108 : a1 ≠ x108 := Nat.ne_of_lt (Nat.lt_of_lt_of_le E1.lt q107_z)
 have ne_a2_x108 : a2 ≠ x108 := Nat.ne_of_lt (Nat.lt_of_lt_of_le V1.lt q107_z)
 have p111 : Go p.tables e below _ (T107.setTop (mkF m 45 #[.val (.ref a1), .val (.ref a2), .val (.int (0 : Int32)), .val (.int (3 : Int32)), .val .null, .val (.ref x108)] [(.int (3 : Int32)), (.ref x108), (.ref a1)])) := fun t_ k_ => (gc p106 st107) t_ (by
  refine XS.astore X107.here hx rfl (hb hby d3_39) rfl rfl (l' := #[.val (.ref a1), .val (.ref a2), .val (.int (0 : Int32)), .val (.int (3 : Int32)), .val .null, .val (.ref x108)]) rfl ?_
  refine XS.aloadN X107.here hx rfl (hb hby d3_41) rfl rfl ?_
  refine XS.aload X107.here hx rfl (hb hby d3_42) rfl rfl ?_
  refine XS.iloadN X107.here hx rfl (hb hby d3_44) rfl ?_
  exact k_)
 obtain ⟨_, _, ⟨T112, L112, k112, n112⟩, -, X112, ⟨Lc112, hQ112, l112, y112, z112⟩, st112⟩ := Jvm.LawKit.callS X107 hx (y := (⟨"java/lang/StringUTF16", "coderFromArrayLen", "([BI)B"⟩ : MethodName)) hown (mvT hZ (own_w hw 49 rfl)) (mvT hZ (own_w hw 50 rfl)) (mvT hZ (own_w hw 44 rfl)) (mvT hZ (own_w hw 51 rfl)) (by decide) (backOf (W := 1) (rm10_L3 l Z a0 hw [] x108 x109 [(.int (own_xl c0)), (.int (own_xl c1)), (.int (own_xl c2))] T107.heap n0 (Nat.le_trans Z0 K110.1) q107_V) hZ (own_w hw 51 rfl) (own_w hw 44 rfl) (by decide) (by decide)) (g := (mkF m 45 #[.val (.ref a1), .val (.ref a2), .val (.int (0 : Int32)), .val (.int (3 : Int32)), .val .null, .val (.ref x108)] [(.int (3 : Int32)), (.ref x108), (.ref a1)])) rfl (by rw [hml]; rfl) (argsL := [(.ref x108), (.int (3 : Int32))]) (rest := [(.ref a1)]) (lenOf pd9 rfl) rfl (by show 2 * 0 + _ ≤ _; exact Nat.le_of_eq rfl) (hb hby d3_45) (fun _ _ => ⟨rfl, rfl, (by decide : 1 + 0 ≤ _), (by decide : 3 + 0 ≤ _)⟩)
 dsimp only [Pt.U, Pt.locs, Pt.cells, Pt.slots] at X112 l112 y112 z112 st112 hQ112
 subst l112 y112 z112
 obtain ⟨rfl, N112q, q112_hh⟩ := hQ112
 have N112 := Fr.app N107 N112q
 have f113 := (F1.keep q107_K nin0)
 have f114 := (E1.keep q107_K)
 obtain ⟨T115, h115, X115, e115, W115, st115⟩ := putFN X112 hx hZ hown (own_w hw 26 rfl) Via.refl q112_hh f113 f114 (Or.inr ⟨(own_w hw 22 rfl), rfl, hnm⟩) (own_w hw 7 rfl) (ty := .byte) (v' := (.int (0 : Int32))) (by decide) rfl (by decide) (g := (mkF m 48 #[.val (.ref a1), .val (.ref a2), .val (.int (0 : Int32)), .val (.int (3 : Int32)), .val .null, .val (.ref x108)] [(.int (0 : Int32)), (.ref a1)])) rfl rfl (hb hby d3_48)
 have K116 : Keep h0 h115 [a1] := K110.wr W115 (Or.inl (List.mem_of_getElem? (i := 0) rfl))
 have N115 := Fr.snoc X115 N112 g1
 have F115 : Fld Z h115 a1 "java/lang/String" "coder" "B" (.int (0 : Int32)) := f113.same W115
 have p117 : Go p.tables e below _ (T115.setTop (mkF m 54 #[.val (.ref a1), .val (.ref a2), .val (.int (0 : Int32)), .val (.int (3 : Int32)), .val .null, .val (.ref x108)] [(.ref x108), (.ref a1)])) := fun t_ k_ => (gc (gc p111 st112) st115) t_ (by
  refine XS.aloadN X115.here hx rfl (hb hby d3_51) rfl rfl ?_
  refine XS.aload X115.here hx rfl (hb hby d3_52) rfl rfl ?_
  exact k_)
 have f118 := ((F2.keep q107_K nin0).other W115 (Or.inr (slot_ne (Or.inr (own_w hw 21 rfl)) (Or.inr (own_w hw 22 rfl)) (by decide) (t := (.array .byte)) (t' := .byte) (by decide) (by decide))))
 have f119 := (f114.wr W115)
 obtain ⟨T120, h120, X120, e120, W120, st120⟩ := putF X115 hx hZ hown (host := "") (Or.inl (own_w hw 25 rfl)) Via.refl e115 f118 f119 (Or.inr ⟨(own_w hw 21 rfl), rfl, hnm⟩) (own_w hw 7 rfl) (ty := (.array .byte)) (by decide) rfl rfl (g := (mkF m 54 #[.val (.ref a1), .val (.ref a2), .val (.int (0 : Int32)), .val (.int (3 : Int32)), .val .null, .val (.ref x108)] [(.ref x108), (.ref a1)])) rfl rfl (hb hby d3_54)
 have K121 : Keep h0 h120 [a1] := K116.wr W120 (Or.inl (List.mem_of_getElem? (i := 0) rfl))
 have N120 := Fr.snoc X120 N115 g1
 have F120 : Fld Z h120 a1 "java/lang/String" "value" "[B" (.ref x108) := f118.same W120
 have f122 := (f119.wr W120)
 have f123 := (F115.other W120 (Or.inr (slot_ne (Or.inr (own_w hw 22 rfl)) (Or.inr (own_w hw 21 rfl)) (by decide) (t := .byte) (t' := (.array .byte)) (by decide) (by decide))))
 have f124 := ((q107_V.other W115 (Ne.symm ne_a1_x108)).other W120 (Ne.symm ne_a1_x108))
 obtain ⟨fs, hr, hrun, hended, hW, hsame⟩ := X120.leave (v := none) (fun _ => rfl)
 refine ⟨_, _, (gc p117 st120) _ (X120.returnOut hx Bd.returns (hb hby d3_57) hr), hrun, hended, _, _, rfl, ?_, ⟨_, rfl⟩, hW, hsame.mono (by decide) (by decide)⟩
 show Q3_L3 Z a1 a2 k1 c0 c1 c2 cs1 fm h0 n0 _ T120.heap _
 rw [e120]
 exact ⟨x108, x109, rfl, N120, K121, f122, f123, F120, q107_g, (Nat.le_trans (Keep.refl h0 [a1]).1 q107_z), f124, ne_a1_x108⟩
theorem ef_rm2_L3 (m : MethodId) (a1 : Addr) (a2 : Addr) (k1 : ClassId) (c0 : Int32) (c1 : Int32) (c2 : Int32) (cs1 : Int32) (fm : Value) : entryFrame m #[(.ref a1), (.ref a2)] 2 = mkF m 0 #[.val (.ref a1), .val (.ref a2)] [] := by first | (simp [entryFrame, mkF, argsToLocals, Value.category]; done) | rfl
def Q2_L3 (Z : State) (a1 : Addr) (a2 : Addr) (k1 : ClassId) (c0 : Int32) (c1 : Int32) (c2 : Int32) (cs1 : Int32) (fm : Value) (h0 : Heap) (n0 : Nat) (v : Option Value) (h : Heap) (L : List Loc) : Prop := ∃ (b : Addr) (kb : ClassId), v = none ∧ Fr n0 L ∧ (Keep h0 h [a1]) ∧ (Exa Z h a1 "java/lang/String") ∧ (Fld Z h a1 "java/lang/String" "coder" "B" (.int (0 : Int32))) ∧ (Fld Z h a1 "java/lang/String" "value" "[B" (.ref b)) ∧ (n0 ≤ b) ∧ (h0.size ≤ b) ∧ (Arv Z h b kb .byte (3 : Int32) [(.int (own_xl c0)), (.int (own_xl c1)), (.int (own_xl c2))] (.int (0 : Int32))) ∧ (a1 ≠ b)
set_option maxRecDepth 65536 in
set_option maxHeartbeats 40000000 in
theorem rm2_L3 (l : Launch) (Z : State) (a0 : Array Value) (hw : ∀ d ∈ tables_1, d.before a0 Z = true) (ws : List Jvm.Cond) (a1 : Addr) (a2 : Addr) (k1 : ClassId) (c0 : Int32) (c1 : Int32) (c2 : Int32) (cs1 : Int32) (fm : Value) (h0 : Heap) (n0 : Nat) (Z0 : n0 ≤ h0.size) (O1 : Old Z n0 h0) (G : own_G Z cs1 fm) (F1 : Fld Z h0 a1 "java/lang/String" "coder" "B" (.int (0 : Int32))) (F2 : Fld Z h0 a1 "java/lang/String" "value" "[B" .null) (E1 : Exa Z h0 a1 "java/lang/String") (V1 : Arv Z h0 a2 k1 .char (3 : Int32) [(.int c0), (.int c1), (.int c2)] (.int (0 : Int32))) (ne : a1 ≠ a2) (g1 : n0 ≤ a1) (l0 : ¬ ((255 : Int32) < c0)) (l1 : ¬ ((255 : Int32) < c1)) (l2 : ¬ ((255 : Int32) < c2)) :
  MetFree l (⟨"java/lang/String", "<init>", "([C)V"⟩ : MethodName) (head1 (Jvm.Cond.code (⟨"java/lang/String", "<init>", "([C)V"⟩ : MethodName) jdk_42_method_3_code 2 none :: ws) ({ frames := 3, cells := 1, slots := 3, locals := 52 } : Room)) (fun a U => a = #[(.ref a1), (.ref a2)] ∧ Z.Warmed39 U.vm ∧ U.heap = h0) (fun _ _ _ _ _ => True) (fun _ U o U' => ∃ v L, o = .returned v ∧ Q2_L3 Z a1 a2 k1 c0 c1 c2 cs1 fm h0 n0 v U'.heap L ∧ FrameEnd U o U' L ({ frames := 3, cells := 1, slots := 3, locals := 52 } : Room).cells ({ frames := 3, cells := 1, slots := 3, locals := 52 } : Room).slots) := by
 refine MetFree.of_bodySF pn2 hisR ?_
 intro p e s m args below meth c s₁ Bd hml0 hP hK
 obtain ⟨rfl, hZ, hh⟩ := hP
 have hx := Bd.exec
 have hby := Bd.bytes
 have hml : c.maxLocals = 2 := hml0
 have hown : s.vm.findClass "java/lang/String" = some m.cls := findClass_of_methodNamed Bd.named
 have hnm := (name_of_methodNamed Bd.named Bd.method).1
 have X0 : Stand p l e ({ frames := 3, cells := 1, slots := 3, locals := 52 } : Room) s m #[(.ref a1), (.ref a2)] below meth c s₁ [] 0 0 := Stand.of_body Bd
 have e0 : s₁.heap = h0 := by rw [← hh, Bd.state]; rfl
 have N0 := Fr.nil n0
 have p0 : Go p.tables e below (s₁.setTop (entryFrame m #[(.ref a1), (.ref a2)] 2)) (s₁.setTop (mkF m 0 #[.val (.ref a1), .val (.ref a2)] [])) := fun t_ k_ => castTop (ef_rm2_L3 m a1 a2 k1 c0 c1 c2 cs1 fm) k_
 have p101 : Go p.tables e below _ (s₁.setTop (mkF m 4 #[.val (.ref a1), .val (.ref a2)] [(.ref a2), (.int (0 : Int32)), (.ref a2), (.ref a1)])) := fun t_ k_ => p0 t_ (by
  refine XS.aloadN X0.here hx rfl (hb hby d2_0) rfl rfl ?_
  refine XS.aloadN X0.here hx rfl (hb hby d2_1) rfl rfl ?_
  refine XS.iconst X0.here hx rfl (hb hby d2_2) ?_
  refine XS.aloadN X0.here hx rfl (hb hby d2_3) rfl rfl ?_
  exact k_)
 obtain ⟨cl102, Ar102, -, S102, Ng102, -, -⟩ := id V1
 have p103 : Go p.tables e below _ (s₁.setTop (mkF m 6 #[.val (.ref a1), .val (.ref a2)] [.null, (.int (3 : Int32)), (.int (0 : Int32)), (.ref a2), (.ref a1)])) := fun t_ k_ => p101 t_ (by
  refine X0.arraylength hx (by rw [e0]; exact Ar102.1) (State.isArrayOf_alike hZ.alike Ar102.2.1) (g := (mkF m 4 #[.val (.ref a1), .val (.ref a2)] [(.ref a2), (.int (0 : Int32)), (.ref a2), (.ref a1)])) rfl rfl (hb hby d2_4) _ ?_
  rw [len_of S102 Ng102]
  show Steps p.tables e below (s₁.setTop (mkF m 5 #[.val (.ref a1), .val (.ref a2)] [(.int (3 : Int32)), (.int (0 : Int32)), (.ref a2), (.ref a1)])) _
  refine XS.aconstNull X0.here hx rfl (hb hby d2_5) ?_
  exact k_)
 obtain ⟨_, _, ⟨T104, L104, k104, n104⟩, -, X104, ⟨Lc104, hQ104, l104, y104, z104⟩, st104⟩ := X0.specialBack hx (y := (⟨"java/lang/String", "<init>", "([CIILjava/lang/Void;)V"⟩ : MethodName)) rfl hown (mvT hZ (own_w hw 12 rfl)) (mvT hZ (own_w hw 13 rfl)) (mvT hZ (own_w hw 15 rfl)) (by decide) (backOf (W := 0) (rm3_L3 l Z a0 hw [] a1 a2 k1 c0 c1 c2 cs1 fm h0 n0 (Nat.le_trans Z0 (Keep.refl h0 [a1]).1) O1 G F1 F2 E1 V1 ne g1 l0 l1 l2) hZ (own_w hw 15 rfl) (own_w hw 8 rfl) (by decide) (by decide)) (g := (mkF m 6 #[.val (.ref a1), .val (.ref a2)] [.null, (.int (3 : Int32)), (.int (0 : Int32)), (.ref a2), (.ref a1)])) rfl (by rw [hml]; rfl) (Steps.refl _) (a := a1) (argsL := [(.ref a2), (.int (0 : Int32)), (.int (3 : Int32)), .null]) (rest := []) (lenOf pd10 rfl) rfl (by show 2 * 0 + _ ≤ _; exact Nat.le_of_eq rfl) (hb hby d2_6) (fun _ _ => ⟨rfl, e0, (by decide : 0 + 1 ≤ _), (by decide : 0 + 3 ≤ _)⟩)
 dsimp only [Pt.U, Pt.locs, Pt.cells, Pt.slots] at X104 l104 y104 z104 st104 hQ104
 subst l104 y104 z104
 obtain ⟨x105, x106, rfl, N104q, q104_K, q104_E, q104_c, q104_v, q104_g, q104_z, q104_V, q104_n⟩ := hQ104
 have N104 := Fr.app N0 N104q
 have K107 : Keep h0 T104.heap [a1] := (Keep.refl h0 [a1]).trans q104_K (allS (Or.inl (List.mem_of_getElem? (i := 0) rfl)) all0)
 have ne_a1_x105 : a1 ≠ x105 := Nat.ne_of_lt (Nat.lt_of_lt_of_le E1.lt q104_z)
 have ne_a2_x105 : a2 ≠ x105 := Nat.ne_of_lt (Nat.lt_of_lt_of_le V1.lt q104_z)
 obtain ⟨fs, hr, hrun, hended, hW, hsame⟩ := X104.leave (v := none) (fun _ => rfl)
 refine ⟨_, _, (gcT p103 st104) _ (X104.returnOut hx Bd.returns (hb hby d2_9) hr), hrun, hended, _, _, rfl, ?_, ⟨_, rfl⟩, hW, hsame.mono (by decide) (by decide)⟩
 show Q2_L3 Z a1 a2 k1 c0 c1 c2 cs1 fm h0 n0 _ T104.heap _
 exact ⟨x105, x106, rfl, N104, K107, q104_E, q104_c, q104_v, q104_g, (Nat.le_trans (Keep.refl h0 [a1]).1 q104_z), q104_V, q104_n⟩
theorem ef_rm20_U3 (m : MethodId)  : entryFrame m #[(.int (3 : Int32))] 1 = mkF m 0 #[.val (.int (3 : Int32))] [] := by first | (simp [entryFrame, mkF, argsToLocals, Value.category]; done) | rfl
def Q20_U3 (Z : State)  (h0 : Heap) (n0 : Nat) (v : Option Value) (h : Heap) (L : List Loc) : Prop := v = some (.int (6 : Int32)) ∧ Fr n0 L ∧ (h = h0)
set_option maxRecDepth 65536 in
set_option maxHeartbeats 40000000 in
theorem rm20_U3 (l : Launch) (Z : State) (a0 : Array Value) (hw : ∀ d ∈ tables_1, d.before a0 Z = true) (ws : List Jvm.Cond)  (h0 : Heap) (n0 : Nat) (Z0 : n0 ≤ h0.size) :
  MetFree l (⟨"java/lang/StringUTF16", "newBytesLength", "(I)I"⟩ : MethodName) (head1 (Jvm.Cond.code (⟨"java/lang/StringUTF16", "newBytesLength", "(I)I"⟩ : MethodName) jdk_52_method_3_code 1 (some .int) :: ws) ({ frames := 0, cells := 0, slots := 0, locals := 0 } : Room)) (fun a U => a = #[(.int (3 : Int32))] ∧ Z.Warmed39 U.vm ∧ U.heap = h0) (fun _ _ _ _ _ => True) (fun _ U o U' => ∃ v L, o = .returned v ∧ Q20_U3 Z  h0 n0 v U'.heap L ∧ FrameEnd U o U' L ({ frames := 0, cells := 0, slots := 0, locals := 0 } : Room).cells ({ frames := 0, cells := 0, slots := 0, locals := 0 } : Room).slots) := by
 refine MetFree.of_bodySF pn20 hisR ?_
 intro p e s m args below meth c s₁ Bd hml0 hP hK
 obtain ⟨rfl, hZ, hh⟩ := hP
 have hx := Bd.exec
 have hby := Bd.bytes
 have hml : c.maxLocals = 1 := hml0
 have hown : s.vm.findClass "java/lang/StringUTF16" = some m.cls := findClass_of_methodNamed Bd.named
 have hnm := (name_of_methodNamed Bd.named Bd.method).1
 have X0 : Stand p l e ({ frames := 0, cells := 0, slots := 0, locals := 0 } : Room) s m #[(.int (3 : Int32))] below meth c s₁ [] 0 0 := Stand.of_body Bd
 have e0 : s₁.heap = h0 := by rw [← hh, Bd.state]; rfl
 have N0 := Fr.nil n0
 have p0 : Go p.tables e below (s₁.setTop (entryFrame m #[(.int (3 : Int32))] 1)) (s₁.setTop (mkF m 0 #[.val (.int (3 : Int32))] [])) := fun t_ k_ => castTop (ef_rm20_U3 m ) k_
 have p101 : Go p.tables e below _ (s₁.setTop (mkF m 58 #[.val (.int (3 : Int32))] [(.int (6 : Int32))])) := fun t_ k_ => p0 t_ (by
  refine XS.iloadN X0.here hx rfl (hb hby d20_0) rfl ?_
  refine XS.ifYes X0.here hx rfl (pc0 := 1) (pc' := 12) rfl (hb hby d20_1) rfl ((if0 _ _).trans (flt (by decide : ¬ ((3 : Int32) < (0 : Int32)))).2.1) (by decide) (by decide) ?_
  refine XS.iloadN X0.here hx rfl (hb hby d20_12) rfl ?_
  refine X0.ldcInt hx hown (mvT hZ (own_w hw 91 rfl)) (g := (mkF m 13 #[.val (.int (3 : Int32))] [(.int (3 : Int32))])) rfl (hb hby d20_13) _ ?_
  refine XS.icmpYes X0.here hx rfl (pc0 := 15) (pc' := 55) rfl (hb hby d20_15) rfl (tlt (by decide : ((3 : Int32) < (1073741823 : Int32)))).1 (by decide) (by decide) ?_
  refine XS.iloadN X0.here hx rfl (hb hby d20_55) rfl ?_
  refine XS.iconst X0.here hx rfl (hb hby d20_56) ?_
  refine XS.ishl X0.here hx rfl (hb hby d20_57) rfl ?_
  exact k_)
 obtain ⟨fs, hr, hrun, hended, hW, hsame⟩ := X0.leave (v := some (.int (6 : Int32))) (fun h => by rw [Bd.returns] at h; cases h)
 refine ⟨_, _, p101 _ (retI X0 hx Bd.returns (hb hby d20_58) hr), hrun, hended, _, _, rfl, ?_, ⟨_, rfl⟩, hW, hsame.mono (by decide) (by decide)⟩
 show Q20_U3 Z  h0 n0 _ s₁.heap _
 rw [e0]
 exact ⟨rfl, N0, rfl⟩
theorem ef_rm19_U3 (m : MethodId)  : entryFrame m #[(.int (3 : Int32))] 1 = mkF m 0 #[.val (.int (3 : Int32))] [] := by first | (simp [entryFrame, mkF, argsToLocals, Value.category]; done) | rfl
def Q19_U3 (Z : State)  (h0 : Heap) (n0 : Nat) (v : Option Value) (h : Heap) (L : List Loc) : Prop := ∃ (b : Addr) (kb : ClassId), v = some (.ref b) ∧ Fr n0 L ∧ (Keep h0 h []) ∧ (n0 ≤ b) ∧ (h0.size ≤ b) ∧ (Arv Z h b kb .byte (6 : Int32) [(.int (0 : Int32)), (.int (0 : Int32)), (.int (0 : Int32)), (.int (0 : Int32)), (.int (0 : Int32)), (.int (0 : Int32))] (.int (0 : Int32)))
set_option maxRecDepth 65536 in
set_option maxHeartbeats 40000000 in
theorem rm19_U3 (l : Launch) (Z : State) (a0 : Array Value) (hw : ∀ d ∈ tables_1, d.before a0 Z = true) (ws : List Jvm.Cond)  (h0 : Heap) (n0 : Nat) (Z0 : n0 ≤ h0.size) :
  MetFree l (⟨"java/lang/StringUTF16", "newBytesFor", "(I)[B"⟩ : MethodName) (head1 (Jvm.Cond.code (⟨"java/lang/StringUTF16", "newBytesFor", "(I)[B"⟩ : MethodName) jdk_52_method_2_code 1 (some (.array .byte)) :: ws) ({ frames := 1, cells := 1, slots := 6, locals := 12 } : Room)) (fun a U => a = #[(.int (3 : Int32))] ∧ Z.Warmed39 U.vm ∧ U.heap = h0) (fun _ _ _ _ _ => True) (fun _ U o U' => ∃ v L, o = .returned v ∧ Q19_U3 Z  h0 n0 v U'.heap L ∧ FrameEnd U o U' L ({ frames := 1, cells := 1, slots := 6, locals := 12 } : Room).cells ({ frames := 1, cells := 1, slots := 6, locals := 12 } : Room).slots) := by
 refine MetFree.of_bodySF pn19 hisR ?_
 intro p e s m args below meth c s₁ Bd hml0 hP hK
 obtain ⟨rfl, hZ, hh⟩ := hP
 have hx := Bd.exec
 have hby := Bd.bytes
 have hml : c.maxLocals = 1 := hml0
 have hown : s.vm.findClass "java/lang/StringUTF16" = some m.cls := findClass_of_methodNamed Bd.named
 have hnm := (name_of_methodNamed Bd.named Bd.method).1
 have X0 : Stand p l e ({ frames := 1, cells := 1, slots := 6, locals := 12 } : Room) s m #[(.int (3 : Int32))] below meth c s₁ [] 0 0 := Stand.of_body Bd
 have e0 : s₁.heap = h0 := by rw [← hh, Bd.state]; rfl
 have N0 := Fr.nil n0
 have p0 : Go p.tables e below (s₁.setTop (entryFrame m #[(.int (3 : Int32))] 1)) (s₁.setTop (mkF m 0 #[.val (.int (3 : Int32))] [])) := fun t_ k_ => castTop (ef_rm19_U3 m ) k_
 have p101 : Go p.tables e below _ (s₁.setTop (mkF m 1 #[.val (.int (3 : Int32))] [(.int (3 : Int32))])) := fun t_ k_ => p0 t_ (by
  refine XS.iloadN X0.here hx rfl (hb hby d19_0) rfl ?_
  exact k_)
 obtain ⟨_, _, ⟨T102, L102, k102, n102⟩, -, X102, ⟨Lc102, hQ102, l102, y102, z102⟩, st102⟩ := Jvm.LawKit.callS X0 hx (y := (⟨"java/lang/StringUTF16", "newBytesLength", "(I)I"⟩ : MethodName)) hown (mvT hZ (own_w hw 88 rfl)) (mvT hZ (own_w hw 89 rfl)) (mvT hZ (own_w hw 44 rfl)) (mvT hZ (own_w hw 90 rfl)) (by decide) (backOf (W := 0) (rm20_U3 l Z a0 hw []  h0 n0 (Nat.le_trans Z0 (Keep.refl h0 []).1) ) hZ (own_w hw 90 rfl) (own_w hw 44 rfl) (by decide) (by decide)) (g := (mkF m 1 #[.val (.int (3 : Int32))] [(.int (3 : Int32))])) rfl (by rw [hml]; rfl) (argsL := [(.int (3 : Int32))]) (rest := []) (lenOf pd11 rfl) rfl (by show 2 * 0 + _ ≤ _; exact Nat.le_of_eq rfl) (hb hby d19_1) (fun _ _ => ⟨rfl, e0, (by decide : 0 + 0 ≤ _), (by decide : 0 + 0 ≤ _)⟩)
 dsimp only [Pt.U, Pt.locs, Pt.cells, Pt.slots] at X102 l102 y102 z102 st102 hQ102
 subst l102 y102 z102
 obtain ⟨rfl, N102q, q102_hh⟩ := hQ102
 have N102 := Fr.app N0 N102q
 obtain ⟨T103, h103, k103, X103, e103, E103, A103, st103⟩ := newP X102 hx hZ (own_w hw 20 rfl) q102_hh (g := (mkF m 4 #[.val (.int (3 : Int32))] [(.int (6 : Int32))])) rfl (hb hby d19_4) rfl (by decide) (cap := 6) (by decide) (by decide) (by decide) (by decide)
 obtain ⟨b103, g103⟩ : ∃ z, z = h0.size := ⟨_, rfl⟩
 rw [← g103] at A103 st103
 have ge_b103 : n0 ≤ b103 := Nat.le_trans (Nat.le_trans Z0 (Keep.refl h0 []).1) (Nat.le_of_eq g103.symm)
 have sz_b103 : h0.size ≤ b103 := Nat.le_trans (Keep.refl h0 []).1 (Nat.le_of_eq g103.symm)
 have K104 : Keep h0 h103 [] := (Keep.refl h0 []).ext E103
 have V103 : Arv Z h103 b103 k103 .byte (6 : Int32) [(.int (0 : Int32)), (.int (0 : Int32)), (.int (0 : Int32)), (.int (0 : Int32)), (.int (0 : Int32)), (.int (0 : Int32))] (.int (0 : Int32)) := (Arv.new A103 (by decide)).pad (pad_rep [] (.int (0 : Int32)) 6)
 obtain ⟨fs, hr, hrun, hended, hW, hsame⟩ := X103.leave (v := some (.ref b103)) (fun h => by rw [Bd.returns] at h; cases h)
 refine ⟨_, _, (gc (gc p101 st102) st103) _ (retOut X103 hx (w := (.ref b103)) (i := .areturn) Bd.returns rfl (Or.inr (Or.inr (Or.inr (Or.inr ⟨rfl, rfl, rfl⟩)))) (hb hby d19_6) hr), hrun, hended, _, _, rfl, ?_, ⟨_, rfl⟩, hW, hsame.mono (by decide) (by decide)⟩
 show Q19_U3 Z  h0 n0 _ T103.heap _
 rw [e103]
 exact ⟨b103, k103, rfl, N102, K104, ge_b103, sz_b103, V103⟩
theorem ef_rm18_U3 (m : MethodId) (a1 : Addr) (k1 : ClassId) (c0 : Int32) (c1 : Int32) (c2 : Int32) (cs1 : Int32) (fm : Value) : entryFrame m #[(.ref a1), (.int (0 : Int32)), (.int (3 : Int32))] 5 = mkF m 0 #[.val (.ref a1), .val (.int (0 : Int32)), .val (.int (3 : Int32)), .unset, .unset] [] := by first | (simp [entryFrame, mkF, argsToLocals, Value.category]; done) | rfl
def Q18_U3 (Z : State) (a1 : Addr) (k1 : ClassId) (c0 : Int32) (c1 : Int32) (c2 : Int32) (cs1 : Int32) (fm : Value) (h0 : Heap) (n0 : Nat) (v : Option Value) (h : Heap) (L : List Loc) : Prop := ∃ (b : Addr) (kb : ClassId), v = some (.ref b) ∧ Fr n0 L ∧ (Keep h0 h []) ∧ (n0 ≤ b) ∧ (h0.size ≤ b) ∧ (Arv Z h b kb .byte (6 : Int32) [(.int (own_x0 c0)), (.int (own_x8 c0)), (.int (own_x0 c1)), (.int (own_x8 c1)), (.int (own_x0 c2)), (.int (own_x8 c2))] (.int (0 : Int32)))
set_option maxRecDepth 65536 in
set_option maxHeartbeats 40000000 in
theorem rm18_U3 (l : Launch) (Z : State) (a0 : Array Value) (hw : ∀ d ∈ tables_1, d.before a0 Z = true) (ws : List Jvm.Cond) (a1 : Addr) (k1 : ClassId) (c0 : Int32) (c1 : Int32) (c2 : Int32) (cs1 : Int32) (fm : Value) (h0 : Heap) (n0 : Nat) (Z0 : n0 ≤ h0.size) (O1 : Old Z n0 h0) (G : own_G Z cs1 fm) (V1 : Arv Z h0 a1 k1 .char (3 : Int32) [(.int c0), (.int c1), (.int c2)] (.int (0 : Int32))) :
  MetFree l (⟨"java/lang/StringUTF16", "toBytes", "([CII)[B"⟩ : MethodName) (head1 (Jvm.Cond.code (⟨"java/lang/StringUTF16", "toBytes", "([CII)[B"⟩ : MethodName) jdk_52_method_14_code 5 (some (.array .byte)) :: ws) ({ frames := 2, cells := 1, slots := 6, locals := 24 } : Room)) (fun a U => a = #[(.ref a1), (.int (0 : Int32)), (.int (3 : Int32))] ∧ Z.Warmed39 U.vm ∧ U.heap = h0) (fun _ _ _ _ _ => True) (fun _ U o U' => ∃ v L, o = .returned v ∧ Q18_U3 Z a1 k1 c0 c1 c2 cs1 fm h0 n0 v U'.heap L ∧ FrameEnd U o U' L ({ frames := 2, cells := 1, slots := 6, locals := 24 } : Room).cells ({ frames := 2, cells := 1, slots := 6, locals := 24 } : Room).slots) := by
 refine MetFree.of_bodySF pn18 hisR ?_
 intro p e s m args below meth c s₁ Bd hml0 hP hK
 obtain ⟨rfl, hZ, hh⟩ := hP
 have hx := Bd.exec
 have hby := Bd.bytes
 have hml : c.maxLocals = 5 := hml0
 have hown : s.vm.findClass "java/lang/StringUTF16" = some m.cls := findClass_of_methodNamed Bd.named
 have hnm := (name_of_methodNamed Bd.named Bd.method).1
 have X0 : Stand p l e ({ frames := 2, cells := 1, slots := 6, locals := 24 } : Room) s m #[(.ref a1), (.int (0 : Int32)), (.int (3 : Int32))] below meth c s₁ [] 0 0 := Stand.of_body Bd
 have e0 : s₁.heap = h0 := by rw [← hh, Bd.state]; rfl
 have N0 := Fr.nil n0
 have p0 : Go p.tables e below (s₁.setTop (entryFrame m #[(.ref a1), (.int (0 : Int32)), (.int (3 : Int32))] 5)) (s₁.setTop (mkF m 0 #[.val (.ref a1), .val (.int (0 : Int32)), .val (.int (3 : Int32)), .unset, .unset] [])) := fun t_ k_ => castTop (ef_rm18_U3 m a1 k1 c0 c1 c2 cs1 fm) k_
 have p101 : Go p.tables e below _ (s₁.setTop (mkF m 1 #[.val (.ref a1), .val (.int (0 : Int32)), .val (.int (3 : Int32)), .unset, .unset] [(.int (3 : Int32))])) := fun t_ k_ => p0 t_ (by
  refine XS.iloadN X0.here hx rfl (hb hby d18_0) rfl ?_
  exact k_)
 obtain ⟨_, _, ⟨T102, L102, k102, n102⟩, -, X102, ⟨Lc102, hQ102, l102, y102, z102⟩, st102⟩ := Jvm.LawKit.callS X0 hx (y := (⟨"java/lang/StringUTF16", "newBytesFor", "(I)[B"⟩ : MethodName)) hown (mvT hZ (own_w hw 85 rfl)) (mvT hZ (own_w hw 86 rfl)) (mvT hZ (own_w hw 44 rfl)) (mvT hZ (own_w hw 87 rfl)) (by decide) (backOf (W := 0) (rm19_U3 l Z a0 hw []  h0 n0 (Nat.le_trans Z0 (Keep.refl h0 []).1) ) hZ (own_w hw 87 rfl) (own_w hw 44 rfl) (by decide) (by decide)) (g := (mkF m 1 #[.val (.ref a1), .val (.int (0 : Int32)), .val (.int (3 : Int32)), .unset, .unset] [(.int (3 : Int32))])) rfl (by rw [hml]; rfl) (argsL := [(.int (3 : Int32))]) (rest := []) (lenOf pd12 rfl) rfl (by show 2 * 0 + _ ≤ _; exact Nat.le_of_eq rfl) (hb hby d18_1) (fun _ _ => ⟨rfl, e0, (by decide : 0 + 1 ≤ _), (by decide : 0 + 6 ≤ _)⟩)
 dsimp only [Pt.U, Pt.locs, Pt.cells, Pt.slots] at X102 l102 y102 z102 st102 hQ102
 subst l102 y102 z102
 obtain ⟨x103, x104, rfl, N102q, q102_K, q102_g, q102_z, q102_V⟩ := hQ102
 have N102 := Fr.app N0 N102q
 have K105 : Keep h0 T102.heap [] := (Keep.refl h0 []).trans q102_K all0
 have ne_a1_x103 : a1 ≠ x103 := Nat.ne_of_lt (Nat.lt_of_lt_of_le V1.lt q102_z)
 have p106 : Go p.tables e below _ (T102.setTop (mkF m 19 #[.val (.ref a1), .val (.int (0 : Int32)), .val (.int (3 : Int32)), .val (.ref x103), .val (.int (0 : Int32))] [(.int (0 : Int32)), (.ref a1), (.int (0 : Int32)), (.ref x103)])) := fun t_ k_ => (gc p101 st102) t_ (by
  refine XS.astoreN X102.here hx rfl (hb hby d18_4) rfl rfl (l' := #[.val (.ref a1), .val (.int (0 : Int32)), .val (.int (3 : Int32)), .val (.ref x103), .unset]) rfl ?_
  refine XS.iconst X102.here hx rfl (hb hby d18_5) ?_
  refine XS.istore X102.here hx rfl (hb hby d18_6) rfl (l' := #[.val (.ref a1), .val (.int (0 : Int32)), .val (.int (3 : Int32)), .val (.ref x103), .val (.int (0 : Int32))]) rfl ?_
  refine XS.iload X102.here hx rfl (hb hby d18_8) rfl ?_
  refine XS.iloadN X102.here hx rfl (hb hby d18_10) rfl ?_
  refine XS.icmpNo X102.here hx rfl (hb hby d18_11) rfl (tlt (by decide : ((0 : Int32) < (3 : Int32)))).2.1 ?_
  refine XS.aloadN X102.here hx rfl (hb hby d18_14) rfl rfl ?_
  refine XS.iload X102.here hx rfl (hb hby d18_15) rfl ?_
  refine XS.aloadN X102.here hx rfl (hb hby d18_17) rfl rfl ?_
  refine XS.iloadN X102.here hx rfl (hb hby d18_18) rfl ?_
  exact k_)
 have f108 := (V1.keep q102_K nin0)
 obtain ⟨cl107, Ar107, q107, S107, Ng107, H107, G107⟩ := id f108
 have hin107 := inb_of S107 (j := (0 : Int32)) ⟨by decide, by decide⟩
 have hat107 := H107.at (v := (.int c0)) hin107 rfl
 have p109 : Go p.tables e below _ (T102.setTop (mkF m 20 #[.val (.ref a1), .val (.int (0 : Int32)), .val (.int (3 : Int32)), .val (.ref x103), .val (.int (0 : Int32))] [(.int c0), (.int (0 : Int32)), (.ref x103)])) := fun t_ k_ => p106 t_ (by
  refine X102.caload hx (j := (0 : Int32)) (v := (.int c0)) Ar107.1 (State.isArrayOf_alike hZ.alike Ar107.2.1) Ar107.2.2 hin107 hat107 (g := (mkF m 19 #[.val (.ref a1), .val (.int (0 : Int32)), .val (.int (3 : Int32)), .val (.ref x103), .val (.int (0 : Int32))] [(.int (0 : Int32)), (.ref a1), (.int (0 : Int32)), (.ref x103)])) rfl rfl (hb hby d18_19) _ ?_
  exact k_)
 have f110 := (O1.keep q102_K all0)
 obtain ⟨_, _, ⟨T111, L111, k111, n111⟩, -, X111, ⟨Lc111, hQ111, l111, y111, z111⟩, st111⟩ := Jvm.LawKit.callS X102 hx (y := (⟨"java/lang/StringUTF16", "putChar", "([BII)V"⟩ : MethodName)) hown (mvT hZ (own_w hw 92 rfl)) (mvT hZ (own_w hw 93 rfl)) (mvT hZ (own_w hw 44 rfl)) (mvT hZ (own_w hw 94 rfl)) (by decide) (backOf (W := 0) (rm21 l Z a0 hw [] x103 (0 : Int32) c0 x104 (6 : Int32) [(.int (0 : Int32)), (.int (0 : Int32)), (.int (0 : Int32)), (.int (0 : Int32)), (.int (0 : Int32)), (.int (0 : Int32))] 0 cs1 fm T102.heap n0 (Nat.le_trans Z0 K105.1) f110 G q102_V (by decide) (by decide) rfl rfl (Nat.le_of_ble_eq_true rfl) (Nat.le_of_ble_eq_true rfl) q102_g) hZ (own_w hw 94 rfl) (own_w hw 44 rfl) (by decide) (by decide)) (g := (mkF m 20 #[.val (.ref a1), .val (.int (0 : Int32)), .val (.int (3 : Int32)), .val (.ref x103), .val (.int (0 : Int32))] [(.int c0), (.int (0 : Int32)), (.ref x103)])) rfl (by rw [hml]; rfl) (argsL := [(.ref x103), (.int (0 : Int32)), (.int c0)]) (rest := []) (lenOf pd13 rfl) rfl (by show 2 * 0 + _ ≤ _; exact Nat.le_of_eq rfl) (hb hby d18_20) (fun _ _ => ⟨rfl, rfl, (by decide : 1 + 0 ≤ _), (by decide : 6 + 0 ≤ _)⟩)
 dsimp only [Pt.U, Pt.locs, Pt.cells, Pt.slots] at X111 l111 y111 z111 st111 hQ111
 subst l111 y111 z111
 obtain ⟨rfl, N111q, q111_K, q111_V⟩ := hQ111
 have N111 := Fr.app N102 N111q
 have K112 : Keep h0 T111.heap [] := K105.trans q111_K (allS (Or.inr (Nat.le_trans (Keep.refl h0 []).1 q102_z)) all0)
 have f113 : Arv Z T111.heap x103 x104 .byte (6 : Int32) [(.int (own_x0 c0)), (.int (own_x8 c0)), (.int (0 : Int32)), (.int (0 : Int32)), (.int (0 : Int32)), (.int (0 : Int32))] (.int (0 : Int32)) := q111_V
 have p114 : Go p.tables e below _ (T111.setTop (mkF m 19 #[.val (.ref a1), .val (.int (1 : Int32)), .val (.int (3 : Int32)), .val (.ref x103), .val (.int (1 : Int32))] [(.int (1 : Int32)), (.ref a1), (.int (1 : Int32)), (.ref x103)])) := fun t_ k_ => (gc p109 st111) t_ (by
  refine XS.iinc X111.here hx rfl (hb hby d18_23) rfl (l' := #[.val (.ref a1), .val (.int (1 : Int32)), .val (.int (3 : Int32)), .val (.ref x103), .val (.int (0 : Int32))]) rfl ?_
  refine XS.iinc X111.here hx rfl (hb hby d18_26) rfl (l' := #[.val (.ref a1), .val (.int (1 : Int32)), .val (.int (3 : Int32)), .val (.ref x103), .val (.int (1 : Int32))]) rfl ?_
  refine XS.goto X111.here hx rfl (pc0 := 29) (pc' := 8) rfl (hb hby d18_29) (by decide) (by decide) ?_
  refine XS.iload X111.here hx rfl (hb hby d18_8) rfl ?_
  refine XS.iloadN X111.here hx rfl (hb hby d18_10) rfl ?_
  refine XS.icmpNo X111.here hx rfl (hb hby d18_11) rfl (tlt (by decide : ((1 : Int32) < (3 : Int32)))).2.1 ?_
  refine XS.aloadN X111.here hx rfl (hb hby d18_14) rfl rfl ?_
  refine XS.iload X111.here hx rfl (hb hby d18_15) rfl ?_
  refine XS.aloadN X111.here hx rfl (hb hby d18_17) rfl rfl ?_
  refine XS.iloadN X111.here hx rfl (hb hby d18_18) rfl ?_
  exact k_)
 have f116 := (f108.keep q111_K (ninS ne_a1_x103 nin0))
 obtain ⟨cl115, Ar115, q115, S115, Ng115, H115, G115⟩ := id f116
 have hin115 := inb_of S115 (j := (1 : Int32)) ⟨by decide, by decide⟩
 have hat115 := H115.at (v := (.int c1)) hin115 rfl
 have p117 : Go p.tables e below _ (T111.setTop (mkF m 20 #[.val (.ref a1), .val (.int (1 : Int32)), .val (.int (3 : Int32)), .val (.ref x103), .val (.int (1 : Int32))] [(.int c1), (.int (1 : Int32)), (.ref x103)])) := fun t_ k_ => p114 t_ (by
  refine X111.caload hx (j := (1 : Int32)) (v := (.int c1)) Ar115.1 (State.isArrayOf_alike hZ.alike Ar115.2.1) Ar115.2.2 hin115 hat115 (g := (mkF m 19 #[.val (.ref a1), .val (.int (1 : Int32)), .val (.int (3 : Int32)), .val (.ref x103), .val (.int (1 : Int32))] [(.int (1 : Int32)), (.ref a1), (.int (1 : Int32)), (.ref x103)])) rfl rfl (hb hby d18_19) _ ?_
  exact k_)
 have f118 := (f110.keep q111_K (allS q102_g all0))
 obtain ⟨_, _, ⟨T119, L119, k119, n119⟩, -, X119, ⟨Lc119, hQ119, l119, y119, z119⟩, st119⟩ := Jvm.LawKit.callS X111 hx (y := (⟨"java/lang/StringUTF16", "putChar", "([BII)V"⟩ : MethodName)) hown (mvT hZ (own_w hw 92 rfl)) (mvT hZ (own_w hw 93 rfl)) (mvT hZ (own_w hw 44 rfl)) (mvT hZ (own_w hw 94 rfl)) (by decide) (backOf (W := 0) (rm21 l Z a0 hw [] x103 (1 : Int32) c1 x104 (6 : Int32) [(.int (own_x0 c0)), (.int (own_x8 c0)), (.int (0 : Int32)), (.int (0 : Int32)), (.int (0 : Int32)), (.int (0 : Int32))] 2 cs1 fm T111.heap n0 (Nat.le_trans Z0 K112.1) f118 G f113 (by decide) (by decide) rfl rfl (Nat.le_of_ble_eq_true rfl) (Nat.le_of_ble_eq_true rfl) q102_g) hZ (own_w hw 94 rfl) (own_w hw 44 rfl) (by decide) (by decide)) (g := (mkF m 20 #[.val (.ref a1), .val (.int (1 : Int32)), .val (.int (3 : Int32)), .val (.ref x103), .val (.int (1 : Int32))] [(.int c1), (.int (1 : Int32)), (.ref x103)])) rfl (by rw [hml]; rfl) (argsL := [(.ref x103), (.int (1 : Int32)), (.int c1)]) (rest := []) (lenOf pd13 rfl) rfl (by show 2 * 0 + _ ≤ _; exact Nat.le_of_eq rfl) (hb hby d18_20) (fun _ _ => ⟨rfl, rfl, (by decide : 1 + 0 ≤ _), (by decide : 6 + 0 ≤ _)⟩)
 dsimp only [Pt.U, Pt.locs, Pt.cells, Pt.slots] at X119 l119 y119 z119 st119 hQ119
 subst l119 y119 z119
 obtain ⟨rfl, N119q, q119_K, q119_V⟩ := hQ119
 have N119 := Fr.app N111 N119q
 have K120 : Keep h0 T119.heap [] := K112.trans q119_K (allS (Or.inr (Nat.le_trans (Keep.refl h0 []).1 q102_z)) all0)
 have f121 : Arv Z T119.heap x103 x104 .byte (6 : Int32) [(.int (own_x0 c0)), (.int (own_x8 c0)), (.int (own_x0 c1)), (.int (own_x8 c1)), (.int (0 : Int32)), (.int (0 : Int32))] (.int (0 : Int32)) := q119_V
 have p122 : Go p.tables e below _ (T119.setTop (mkF m 19 #[.val (.ref a1), .val (.int (2 : Int32)), .val (.int (3 : Int32)), .val (.ref x103), .val (.int (2 : Int32))] [(.int (2 : Int32)), (.ref a1), (.int (2 : Int32)), (.ref x103)])) := fun t_ k_ => (gc p117 st119) t_ (by
  refine XS.iinc X119.here hx rfl (hb hby d18_23) rfl (l' := #[.val (.ref a1), .val (.int (2 : Int32)), .val (.int (3 : Int32)), .val (.ref x103), .val (.int (1 : Int32))]) rfl ?_
  refine XS.iinc X119.here hx rfl (hb hby d18_26) rfl (l' := #[.val (.ref a1), .val (.int (2 : Int32)), .val (.int (3 : Int32)), .val (.ref x103), .val (.int (2 : Int32))]) rfl ?_
  refine XS.goto X119.here hx rfl (pc0 := 29) (pc' := 8) rfl (hb hby d18_29) (by decide) (by decide) ?_
  refine XS.iload X119.here hx rfl (hb hby d18_8) rfl ?_
  refine XS.iloadN X119.here hx rfl (hb hby d18_10) rfl ?_
  refine XS.icmpNo X119.here hx rfl (hb hby d18_11) rfl (tlt (by decide : ((2 : Int32) < (3 : Int32)))).2.1 ?_
  refine XS.aloadN X119.here hx rfl (hb hby d18_14) rfl rfl ?_
  refine XS.iload X119.here hx rfl (hb hby d18_15) rfl ?_
  refine XS.aloadN X119.here hx rfl (hb hby d18_17) rfl rfl ?_
  refine XS.iloadN X119.here hx rfl (hb hby d18_18) rfl ?_
  exact k_)
 have f124 := (f116.keep q119_K (ninS ne_a1_x103 nin0))
 obtain ⟨cl123, Ar123, q123, S123, Ng123, H123, G123⟩ := id f124
 have hin123 := inb_of S123 (j := (2 : Int32)) ⟨by decide, by decide⟩
 have hat123 := H123.at (v := (.int c2)) hin123 rfl
 have p125 : Go p.tables e below _ (T119.setTop (mkF m 20 #[.val (.ref a1), .val (.int (2 : Int32)), .val (.int (3 : Int32)), .val (.ref x103), .val (.int (2 : Int32))] [(.int c2), (.int (2 : Int32)), (.ref x103)])) := fun t_ k_ => p122 t_ (by
  refine X119.caload hx (j := (2 : Int32)) (v := (.int c2)) Ar123.1 (State.isArrayOf_alike hZ.alike Ar123.2.1) Ar123.2.2 hin123 hat123 (g := (mkF m 19 #[.val (.ref a1), .val (.int (2 : Int32)), .val (.int (3 : Int32)), .val (.ref x103), .val (.int (2 : Int32))] [(.int (2 : Int32)), (.ref a1), (.int (2 : Int32)), (.ref x103)])) rfl rfl (hb hby d18_19) _ ?_
  exact k_)
 have f126 := (f118.keep q119_K (allS q102_g all0))
 obtain ⟨_, _, ⟨T127, L127, k127, n127⟩, -, X127, ⟨Lc127, hQ127, l127, y127, z127⟩, st127⟩ := Jvm.LawKit.callS X119 hx (y := (⟨"java/lang/StringUTF16", "putChar", "([BII)V"⟩ : MethodName)) hown (mvT hZ (own_w hw 92 rfl)) (mvT hZ (own_w hw 93 rfl)) (mvT hZ (own_w hw 44 rfl)) (mvT hZ (own_w hw 94 rfl)) (by decide) (backOf (W := 0) (rm21 l Z a0 hw [] x103 (2 : Int32) c2 x104 (6 : Int32) [(.int (own_x0 c0)), (.int (own_x8 c0)), (.int (own_x0 c1)), (.int (own_x8 c1)), (.int (0 : Int32)), (.int (0 : Int32))] 4 cs1 fm T119.heap n0 (Nat.le_trans Z0 K120.1) f126 G f121 (by decide) (by decide) rfl rfl (Nat.le_of_ble_eq_true rfl) (Nat.le_of_ble_eq_true rfl) q102_g) hZ (own_w hw 94 rfl) (own_w hw 44 rfl) (by decide) (by decide)) (g := (mkF m 20 #[.val (.ref a1), .val (.int (2 : Int32)), .val (.int (3 : Int32)), .val (.ref x103), .val (.int (2 : Int32))] [(.int c2), (.int (2 : Int32)), (.ref x103)])) rfl (by rw [hml]; rfl) (argsL := [(.ref x103), (.int (2 : Int32)), (.int c2)]) (rest := []) (lenOf pd13 rfl) rfl (by show 2 * 0 + _ ≤ _; exact Nat.le_of_eq rfl) (hb hby d18_20) (fun _ _ => ⟨rfl, rfl, (by decide : 1 + 0 ≤ _), (by decide : 6 + 0 ≤ _)⟩)
 dsimp only [Pt.U, Pt.locs, Pt.cells, Pt.slots] at X127 l127 y127 z127 st127 hQ127
 subst l127 y127 z127
 obtain ⟨rfl, N127q, q127_K, q127_V⟩ := hQ127
 have N127 := Fr.app N119 N127q
 have K128 : Keep h0 T127.heap [] := K120.trans q127_K (allS (Or.inr (Nat.le_trans (Keep.refl h0 []).1 q102_z)) all0)
 have f129 : Arv Z T127.heap x103 x104 .byte (6 : Int32) [(.int (own_x0 c0)), (.int (own_x8 c0)), (.int (own_x0 c1)), (.int (own_x8 c1)), (.int (own_x0 c2)), (.int (own_x8 c2))] (.int (0 : Int32)) := q127_V
 have p130 : Go p.tables e below _ (T127.setTop (mkF m 33 #[.val (.ref a1), .val (.int (3 : Int32)), .val (.int (3 : Int32)), .val (.ref x103), .val (.int (3 : Int32))] [(.ref x103)])) := fun t_ k_ => (gc p125 st127) t_ (by
  refine XS.iinc X127.here hx rfl (hb hby d18_23) rfl (l' := #[.val (.ref a1), .val (.int (3 : Int32)), .val (.int (3 : Int32)), .val (.ref x103), .val (.int (2 : Int32))]) rfl ?_
  refine XS.iinc X127.here hx rfl (hb hby d18_26) rfl (l' := #[.val (.ref a1), .val (.int (3 : Int32)), .val (.int (3 : Int32)), .val (.ref x103), .val (.int (3 : Int32))]) rfl ?_
  refine XS.goto X127.here hx rfl (pc0 := 29) (pc' := 8) rfl (hb hby d18_29) (by decide) (by decide) ?_
  refine XS.iload X127.here hx rfl (hb hby d18_8) rfl ?_
  refine XS.iloadN X127.here hx rfl (hb hby d18_10) rfl ?_
  refine XS.icmpYes X127.here hx rfl (pc0 := 11) (pc' := 32) rfl (hb hby d18_11) rfl (flt (by decide : ¬ ((3 : Int32) < (3 : Int32)))).2.1 (by decide) (by decide) ?_
  refine XS.aloadN X127.here hx rfl (hb hby d18_32) rfl rfl ?_
  exact k_)
 obtain ⟨fs, hr, hrun, hended, hW, hsame⟩ := X127.leave (v := some (.ref x103)) (fun h => by rw [Bd.returns] at h; cases h)
 refine ⟨_, _, p130 _ (retOut X127 hx (w := (.ref x103)) (i := .areturn) Bd.returns rfl (Or.inr (Or.inr (Or.inr (Or.inr ⟨rfl, rfl, rfl⟩)))) (hb hby d18_33) hr), hrun, hended, _, _, rfl, ?_, ⟨_, rfl⟩, hW, hsame.mono (by decide) (by decide)⟩
 show Q18_U3 Z a1 k1 c0 c1 c2 cs1 fm h0 n0 _ T127.heap _
 exact ⟨x103, x104, rfl, N127, K128, q102_g, (Nat.le_trans (Keep.refl h0 []).1 q102_z), f129⟩
theorem ef_rm8_U3 (m : MethodId) (a1 : Addr) (k1 : ClassId) (c0 : Int32) (c1 : Int32) (c2 : Int32) (cs1 : Int32) (fm : Value) : entryFrame m #[(.ref a1), (.int (0 : Int32)), (.int (3 : Int32))] 6 = mkF m 0 #[.val (.ref a1), .val (.int (0 : Int32)), .val (.int (3 : Int32)), .unset, .unset, .unset] [] := by first | (simp [entryFrame, mkF, argsToLocals, Value.category]; done) | rfl
def Q8_U3 (Z : State) (a1 : Addr) (k1 : ClassId) (c0 : Int32) (c1 : Int32) (c2 : Int32) (cs1 : Int32) (fm : Value) (h0 : Heap) (n0 : Nat) (v : Option Value) (h : Heap) (L : List Loc) : Prop := ∃ (b : Addr) (kb : ClassId), v = some (.ref b) ∧ Fr n0 L ∧ (Keep h0 h []) ∧ (n0 ≤ b) ∧ (h0.size ≤ b) ∧ (Arv Z h b kb .byte (6 : Int32) [(.int (own_x0 c0)), (.int (own_x8 c0)), (.int (own_x0 c1)), (.int (own_x8 c1)), (.int (own_x0 c2)), (.int (own_x8 c2))] (.int (0 : Int32)))
set_option maxRecDepth 65536 in
set_option maxHeartbeats 40000000 in
theorem rm8_U3 (l : Launch) (Z : State) (a0 : Array Value) (hw : ∀ d ∈ tables_1, d.before a0 Z = true) (ws : List Jvm.Cond) (a1 : Addr) (k1 : ClassId) (c0 : Int32) (c1 : Int32) (c2 : Int32) (cs1 : Int32) (fm : Value) (h0 : Heap) (n0 : Nat) (Z0 : n0 ≤ h0.size) (O1 : Old Z n0 h0) (G : own_G Z cs1 fm) (V1 : Arv Z h0 a1 k1 .char (3 : Int32) [(.int c0), (.int c1), (.int c2)] (.int (0 : Int32))) (a0_ : ¬ (c0 < (0 : Int32))) (b0_ : ¬ ((65535 : Int32) < c0)) (a1_ : ¬ (c1 < (0 : Int32))) (b1_ : ¬ ((65535 : Int32) < c1)) (a2_ : ¬ (c2 < (0 : Int32))) (b2_ : ¬ ((65535 : Int32) < c2)) (big : ((255 : Int32) < c0) ∨ ((255 : Int32) < c1) ∨ ((255 : Int32) < c2)) :
  MetFree l (⟨"java/lang/StringUTF16", "compress", "([CII)[B"⟩ : MethodName) (head1 (Jvm.Cond.code (⟨"java/lang/StringUTF16", "compress", "([CII)[B"⟩ : MethodName) jdk_52_method_16_code 6 (some (.array .byte)) :: ws) ({ frames := 3, cells := 2, slots := 9, locals := 40 } : Room)) (fun a U => a = #[(.ref a1), (.int (0 : Int32)), (.int (3 : Int32))] ∧ Z.Warmed39 U.vm ∧ U.heap = h0) (fun _ _ _ _ _ => True) (fun _ U o U' => ∃ v L, o = .returned v ∧ Q8_U3 Z a1 k1 c0 c1 c2 cs1 fm h0 n0 v U'.heap L ∧ FrameEnd U o U' L ({ frames := 3, cells := 2, slots := 9, locals := 40 } : Room).cells ({ frames := 3, cells := 2, slots := 9, locals := 40 } : Room).slots) := by
 refine MetFree.of_bodySF pn8 hisR ?_
 intro p e s m args below meth c s₁ Bd hml0 hP hK
 obtain ⟨rfl, hZ, hh⟩ := hP
 have hx := Bd.exec
 have hby := Bd.bytes
 have hml : c.maxLocals = 6 := hml0
 have hown : s.vm.findClass "java/lang/StringUTF16" = some m.cls := findClass_of_methodNamed Bd.named
 have hnm := (name_of_methodNamed Bd.named Bd.method).1
 have X0 : Stand p l e ({ frames := 3, cells := 2, slots := 9, locals := 40 } : Room) s m #[(.ref a1), (.int (0 : Int32)), (.int (3 : Int32))] below meth c s₁ [] 0 0 := Stand.of_body Bd
 have e0 : s₁.heap = h0 := by rw [← hh, Bd.state]; rfl
 have N0 := Fr.nil n0
 have p0 : Go p.tables e below (s₁.setTop (entryFrame m #[(.ref a1), (.int (0 : Int32)), (.int (3 : Int32))] 6)) (s₁.setTop (mkF m 0 #[.val (.ref a1), .val (.int (0 : Int32)), .val (.int (3 : Int32)), .unset, .unset, .unset] [])) := fun t_ k_ => castTop (ef_rm8_U3 m a1 k1 c0 c1 c2 cs1 fm) k_
 have p101 : Go p.tables e below _ (s₁.setTop (mkF m 1 #[.val (.ref a1), .val (.int (0 : Int32)), .val (.int (3 : Int32)), .unset, .unset, .unset] [(.int (3 : Int32))])) := fun t_ k_ => p0 t_ (by
  refine XS.iloadN X0.here hx rfl (hb hby d8_0) rfl ?_
  exact k_)
 obtain ⟨T102, h102, k102, X102, e102, E102, A102, st102⟩ := newP X0 hx hZ (own_w hw 20 rfl) e0 (g := (mkF m 1 #[.val (.ref a1), .val (.int (0 : Int32)), .val (.int (3 : Int32)), .unset, .unset, .unset] [(.int (3 : Int32))])) rfl (hb hby d8_1) rfl (by decide) (cap := 3) (by decide) (by decide) (by decide) (by decide)
 obtain ⟨b102, g102⟩ : ∃ z, z = h0.size := ⟨_, rfl⟩
 rw [← g102] at A102 st102
 have ne_a1_b102 : a1 ≠ b102 := Nat.ne_of_lt (Nat.lt_of_lt_of_le V1.lt (Nat.le_of_eq g102.symm))
 have ge_b102 : n0 ≤ b102 := Nat.le_trans (Nat.le_trans Z0 (Keep.refl h0 []).1) (Nat.le_of_eq g102.symm)
 have sz_b102 : h0.size ≤ b102 := Nat.le_trans (Keep.refl h0 []).1 (Nat.le_of_eq g102.symm)
 have K103 : Keep h0 h102 [] := (Keep.refl h0 []).ext E102
 have V102 : Arv Z h102 b102 k102 .byte (3 : Int32) [(.int (0 : Int32)), (.int (0 : Int32)), (.int (0 : Int32))] (.int (0 : Int32)) := (Arv.new A102 (by decide)).pad (pad_rep [] (.int (0 : Int32)) 3)
 have p104 : Go p.tables e below _ (T102.setTop (mkF m 9 #[.val (.ref a1), .val (.int (0 : Int32)), .val (.int (3 : Int32)), .val (.ref b102), .unset, .unset] [(.int (3 : Int32)), (.int (0 : Int32)), (.ref b102), (.int (0 : Int32)), (.ref a1)])) := fun t_ k_ => (gc p101 st102) t_ (by
  refine XS.astoreN X102.here hx rfl (hb hby d8_3) rfl rfl (l' := #[.val (.ref a1), .val (.int (0 : Int32)), .val (.int (3 : Int32)), .val (.ref b102), .unset, .unset]) rfl ?_
  refine XS.aloadN X102.here hx rfl (hb hby d8_4) rfl rfl ?_
  refine XS.iloadN X102.here hx rfl (hb hby d8_5) rfl ?_
  refine XS.aloadN X102.here hx rfl (hb hby d8_6) rfl rfl ?_
  refine XS.iconst X102.here hx rfl (hb hby d8_7) ?_
  refine XS.iloadN X102.here hx rfl (hb hby d8_8) rfl ?_
  exact k_)
 by_cases m0 : (255 : Int32) < c0
 ·have f105 := (V1.ext E102)
  obtain ⟨_, _, ⟨T106, L106, k106, n106⟩, -, X106, ⟨Lc106, hQ106, l106, y106, z106⟩, st106⟩ := Jvm.LawKit.callS X102 hx (y := (⟨"java/lang/StringUTF16", "compress", "([CI[BII)I"⟩ : MethodName)) hown (mvT hZ (own_w hw 46 rfl)) (mvT hZ (own_w hw 47 rfl)) (mvT hZ (own_w hw 44 rfl)) (mvT hZ (own_w hw 48 rfl)) (by decide) (backOf (W := 0) (rm9_U l Z a0 hw [] a1 b102 k1 k102 [c0, c1, c2] 3 0 h102 n0 (Nat.le_trans Z0 K103.1) f105 V102 (by decide) (by decide) (fun j hj => absurd hj (by omega)) m0 ne_a1_b102 ge_b102) hZ (own_w hw 48 rfl) (own_w hw 44 rfl) (by decide) (by decide)) (g := (mkF m 9 #[.val (.ref a1), .val (.int (0 : Int32)), .val (.int (3 : Int32)), .val (.ref b102), .unset, .unset] [(.int (3 : Int32)), (.int (0 : Int32)), (.ref b102), (.int (0 : Int32)), (.ref a1)])) rfl (by rw [hml]; rfl) (argsL := [(.ref a1), (.int (0 : Int32)), (.ref b102), (.int (0 : Int32)), (.int (3 : Int32))]) (rest := []) (lenOf pd7 rfl) rfl (by show 2 * 0 + _ ≤ _; exact Nat.le_of_eq rfl) (hb hby d8_9) (fun _ _ => ⟨rfl, e102, (by decide : 1 + 0 ≤ _), (by decide : 3 + 0 ≤ _)⟩)
  dsimp only [Pt.U, Pt.locs, Pt.cells, Pt.slots] at X106 l106 y106 z106 st106 hQ106
  subst l106 y106 z106
  obtain ⟨rfl, N106q, q106_K, q106_V⟩ := hQ106
  have N106 := Fr.app N0 N106q
  have K107 : Keep h0 T106.heap [] := K103.trans q106_K (allS (Or.inr sz_b102) all0)
  have f108 : Arv Z T106.heap b102 k102 .byte (3 : Int32) [(.int (0 : Int32)), (.int (0 : Int32)), (.int (0 : Int32))] (.int (0 : Int32)) := q106_V
  have p109 : Go p.tables e below _ (T106.setTop (mkF m 12 #[.val (.ref a1), .val (.int (0 : Int32)), .val (.int (3 : Int32)), .val (.ref b102), .unset, .unset] [(.int (0 : Int32))])) := (gc p104 st106)
  have p110 : Go p.tables e below _ (T106.setTop (mkF m 23 #[.val (.ref a1), .val (.int (0 : Int32)), .val (.int (3 : Int32)), .val (.ref b102), .val (.int (0 : Int32)), .unset] [(.int (3 : Int32)), (.int (0 : Int32)), (.ref a1)])) := fun t_ k_ => p109 t_ (by
   refine XS.istore X106.here hx rfl (hb hby d8_12) rfl (l' := #[.val (.ref a1), .val (.int (0 : Int32)), .val (.int (3 : Int32)), .val (.ref b102), .val (.int (0 : Int32)), .unset]) rfl ?_
   refine XS.iload X106.here hx rfl (hb hby d8_14) rfl ?_
   refine XS.iloadN X106.here hx rfl (hb hby d8_16) rfl ?_
   refine XS.icmpNo X106.here hx rfl (hb hby d8_17) rfl (feq (by decide : ¬ ((0 : Int32) = (3 : Int32)))).1 ?_
   refine XS.aloadN X106.here hx rfl (hb hby d8_20) rfl rfl ?_
   refine XS.iloadN X106.here hx rfl (hb hby d8_21) rfl ?_
   refine XS.iloadN X106.here hx rfl (hb hby d8_22) rfl ?_
   exact k_)
  have f111 := (f105.keep q106_K (ninS ne_a1_b102 nin0))
  have f112 := ((O1.ext E102).keep q106_K (allS ge_b102 all0))
  obtain ⟨_, _, ⟨T113, L113, k113, n113⟩, -, X113, ⟨Lc113, hQ113, l113, y113, z113⟩, st113⟩ := Jvm.LawKit.callS X106 hx (y := (⟨"java/lang/StringUTF16", "toBytes", "([CII)[B"⟩ : MethodName)) hown (mvT hZ (own_w hw 82 rfl)) (mvT hZ (own_w hw 83 rfl)) (mvT hZ (own_w hw 44 rfl)) (mvT hZ (own_w hw 84 rfl)) (by decide) (backOf (W := 0) (rm18_U3 l Z a0 hw [] a1 k1 c0 c1 c2 cs1 fm T106.heap n0 (Nat.le_trans Z0 K107.1) f112 G f111) hZ (own_w hw 84 rfl) (own_w hw 44 rfl) (by decide) (by decide)) (g := (mkF m 23 #[.val (.ref a1), .val (.int (0 : Int32)), .val (.int (3 : Int32)), .val (.ref b102), .val (.int (0 : Int32)), .unset] [(.int (3 : Int32)), (.int (0 : Int32)), (.ref a1)])) rfl (by rw [hml]; rfl) (argsL := [(.ref a1), (.int (0 : Int32)), (.int (3 : Int32))]) (rest := []) (lenOf pd8 rfl) rfl (by show 2 * 0 + _ ≤ _; exact Nat.le_of_eq rfl) (hb hby d8_23) (fun _ _ => ⟨rfl, rfl, (by decide : 1 + 1 ≤ _), (by decide : 3 + 6 ≤ _)⟩)
  dsimp only [Pt.U, Pt.locs, Pt.cells, Pt.slots] at X113 l113 y113 z113 st113 hQ113
  subst l113 y113 z113
  obtain ⟨x114, x115, rfl, N113q, q113_K, q113_g, q113_z, q113_V⟩ := hQ113
  have N113 := Fr.app N106 N113q
  have K116 : Keep h0 T113.heap [] := K107.trans q113_K all0
  have ne_a1_x114 : a1 ≠ x114 := Nat.ne_of_lt (Nat.lt_of_lt_of_le f111.lt q113_z)
  have ne_b102_x114 : b102 ≠ x114 := Nat.ne_of_lt (Nat.lt_of_lt_of_le f108.lt q113_z)
  have p117 : Go p.tables e below _ (T113.setTop (mkF m 32 #[.val (.ref a1), .val (.int (0 : Int32)), .val (.int (3 : Int32)), .val (.ref b102), .val (.int (0 : Int32)), .val (.ref x114)] [(.int (0 : Int32)), (.ref x114)])) := fun t_ k_ => (gc p110 st113) t_ (by
   refine XS.astore X113.here hx rfl (hb hby d8_26) rfl rfl (l' := #[.val (.ref a1), .val (.int (0 : Int32)), .val (.int (3 : Int32)), .val (.ref b102), .val (.int (0 : Int32)), .val (.ref x114)]) rfl ?_
   refine XS.aload X113.here hx rfl (hb hby d8_28) rfl rfl ?_
   refine XS.iload X113.here hx rfl (hb hby d8_30) rfl ?_
   exact k_)
  have f118 := (f112.keep q113_K all0)
  obtain ⟨_, _, ⟨T119, L119, k119, n119⟩, -, X119, ⟨Lc119, hQ119, l119, y119, z119⟩, st119⟩ := Jvm.LawKit.callS X113 hx (y := (⟨"java/lang/StringUTF16", "getChar", "([BI)C"⟩ : MethodName)) hown (mvT hZ (own_w hw 98 rfl)) (mvT hZ (own_w hw 99 rfl)) (mvT hZ (own_w hw 44 rfl)) (mvT hZ (own_w hw 100 rfl)) (by decide) (backOf (W := 0) (rm22 l Z a0 hw [] x114 (0 : Int32) x115 (6 : Int32) [(.int (own_x0 c0)), (.int (own_x8 c0)), (.int (own_x0 c1)), (.int (own_x8 c1)), (.int (own_x0 c2)), (.int (own_x8 c2))] (own_x0 c0) (own_x8 c0) c0 cs1 fm T113.heap n0 (Nat.le_trans Z0 K116.1) f118 G q113_V (by decide) (by decide) rfl rfl (own_l16 c0 a0_ b0_)) hZ (own_w hw 100 rfl) (own_w hw 44 rfl) (by decide) (by decide)) (g := (mkF m 32 #[.val (.ref a1), .val (.int (0 : Int32)), .val (.int (3 : Int32)), .val (.ref b102), .val (.int (0 : Int32)), .val (.ref x114)] [(.int (0 : Int32)), (.ref x114)])) rfl (by rw [hml]; rfl) (argsL := [(.ref x114), (.int (0 : Int32))]) (rest := []) (lenOf pd4 rfl) rfl (by show 2 * 0 + _ ≤ _; exact Nat.le_of_eq rfl) (hb hby d8_32) (fun _ _ => ⟨rfl, rfl, (by decide : 2 + 0 ≤ _), (by decide : 9 + 0 ≤ _)⟩)
  dsimp only [Pt.U, Pt.locs, Pt.cells, Pt.slots] at X119 l119 y119 z119 st119 hQ119
  subst l119 y119 z119
  obtain ⟨rfl, N119q, q119_hh⟩ := hQ119
  have N119 := Fr.app N113 N119q
  have p120 : Go p.tables e below _ (T119.setTop (mkF m 38 #[.val (.ref a1), .val (.int (0 : Int32)), .val (.int (3 : Int32)), .val (.ref b102), .val (.int (0 : Int32)), .val (.ref x114)] [(.int (255 : Int32)), (.int c0)])) := fun t_ k_ => (gc p117 st119) t_ (by
   refine XS.sipush X119.here hx rfl (hb hby d8_35) ?_
   exact k_)
  have c121 : ((255 : Int32) < c0) := m0
  have p122 : Go p.tables e below _ (T119.setTop (mkF m 56 #[.val (.ref a1), .val (.int (0 : Int32)), .val (.int (3 : Int32)), .val (.ref b102), .val (.int (0 : Int32)), .val (.ref x114)] [(.ref x114)])) := fun t_ k_ => p120 t_ (by
   refine XS.icmpYes X119.here hx rfl (pc0 := 38) (pc' := 54) rfl (hb hby d8_38) rfl (tlt c121).2.2.1 (by decide) (by decide) ?_
   refine XS.aload X119.here hx rfl (hb hby d8_54) rfl rfl ?_
   exact k_)
  obtain ⟨fs, hr, hrun, hended, hW, hsame⟩ := X119.leave (v := some (.ref x114)) (fun h => by rw [Bd.returns] at h; cases h)
  refine ⟨_, _, p122 _ (retOut X119 hx (w := (.ref x114)) (i := .areturn) Bd.returns rfl (Or.inr (Or.inr (Or.inr (Or.inr ⟨rfl, rfl, rfl⟩)))) (hb hby d8_56) hr), hrun, hended, _, _, rfl, ?_, ⟨_, rfl⟩, hW, hsame.mono (by decide) (by decide)⟩
  show Q8_U3 Z a1 k1 c0 c1 c2 cs1 fm h0 n0 _ T119.heap _
  rw [q119_hh]
  exact ⟨x114, x115, rfl, N119, K116, q113_g, (Nat.le_trans K107.1 q113_z), q113_V⟩
 ·skip
  by_cases m1 : (255 : Int32) < c1
  ·have hl123 : ∀ j, j < 1 → ¬ ((255 : Int32) < own_at [c0, c1, c2] j) := by
    intro j hj
    rcases (by omega : j = 0) with rfl
    ·exact m0
   have f124 := (V1.ext E102)
   obtain ⟨_, _, ⟨T125, L125, k125, n125⟩, -, X125, ⟨Lc125, hQ125, l125, y125, z125⟩, st125⟩ := Jvm.LawKit.callS X102 hx (y := (⟨"java/lang/StringUTF16", "compress", "([CI[BII)I"⟩ : MethodName)) hown (mvT hZ (own_w hw 46 rfl)) (mvT hZ (own_w hw 47 rfl)) (mvT hZ (own_w hw 44 rfl)) (mvT hZ (own_w hw 48 rfl)) (by decide) (backOf (W := 0) (rm9_U l Z a0 hw [] a1 b102 k1 k102 [c0, c1, c2] 3 1 h102 n0 (Nat.le_trans Z0 K103.1) f124 V102 (by decide) (by decide) hl123 m1 ne_a1_b102 ge_b102) hZ (own_w hw 48 rfl) (own_w hw 44 rfl) (by decide) (by decide)) (g := (mkF m 9 #[.val (.ref a1), .val (.int (0 : Int32)), .val (.int (3 : Int32)), .val (.ref b102), .unset, .unset] [(.int (3 : Int32)), (.int (0 : Int32)), (.ref b102), (.int (0 : Int32)), (.ref a1)])) rfl (by rw [hml]; rfl) (argsL := [(.ref a1), (.int (0 : Int32)), (.ref b102), (.int (0 : Int32)), (.int (3 : Int32))]) (rest := []) (lenOf pd7 rfl) rfl (by show 2 * 0 + _ ≤ _; exact Nat.le_of_eq rfl) (hb hby d8_9) (fun _ _ => ⟨rfl, e102, (by decide : 1 + 0 ≤ _), (by decide : 3 + 0 ≤ _)⟩)
   dsimp only [Pt.U, Pt.locs, Pt.cells, Pt.slots] at X125 l125 y125 z125 st125 hQ125
   subst l125 y125 z125
   obtain ⟨rfl, N125q, q125_K, q125_V⟩ := hQ125
   have N125 := Fr.app N0 N125q
   have K126 : Keep h0 T125.heap [] := K103.trans q125_K (allS (Or.inr sz_b102) all0)
   have f127 : Arv Z T125.heap b102 k102 .byte (3 : Int32) [(.int (own_xl c0)), (.int (0 : Int32)), (.int (0 : Int32))] (.int (0 : Int32)) := q125_V
   have p128 : Go p.tables e below _ (T125.setTop (mkF m 12 #[.val (.ref a1), .val (.int (0 : Int32)), .val (.int (3 : Int32)), .val (.ref b102), .unset, .unset] [(.int (1 : Int32))])) := (gc p104 st125)
   have p129 : Go p.tables e below _ (T125.setTop (mkF m 23 #[.val (.ref a1), .val (.int (0 : Int32)), .val (.int (3 : Int32)), .val (.ref b102), .val (.int (1 : Int32)), .unset] [(.int (3 : Int32)), (.int (0 : Int32)), (.ref a1)])) := fun t_ k_ => p128 t_ (by
    refine XS.istore X125.here hx rfl (hb hby d8_12) rfl (l' := #[.val (.ref a1), .val (.int (0 : Int32)), .val (.int (3 : Int32)), .val (.ref b102), .val (.int (1 : Int32)), .unset]) rfl ?_
    refine XS.iload X125.here hx rfl (hb hby d8_14) rfl ?_
    refine XS.iloadN X125.here hx rfl (hb hby d8_16) rfl ?_
    refine XS.icmpNo X125.here hx rfl (hb hby d8_17) rfl (feq (by decide : ¬ ((1 : Int32) = (3 : Int32)))).1 ?_
    refine XS.aloadN X125.here hx rfl (hb hby d8_20) rfl rfl ?_
    refine XS.iloadN X125.here hx rfl (hb hby d8_21) rfl ?_
    refine XS.iloadN X125.here hx rfl (hb hby d8_22) rfl ?_
    exact k_)
   have f130 := (f124.keep q125_K (ninS ne_a1_b102 nin0))
   have f131 := ((O1.ext E102).keep q125_K (allS ge_b102 all0))
   obtain ⟨_, _, ⟨T132, L132, k132, n132⟩, -, X132, ⟨Lc132, hQ132, l132, y132, z132⟩, st132⟩ := Jvm.LawKit.callS X125 hx (y := (⟨"java/lang/StringUTF16", "toBytes", "([CII)[B"⟩ : MethodName)) hown (mvT hZ (own_w hw 82 rfl)) (mvT hZ (own_w hw 83 rfl)) (mvT hZ (own_w hw 44 rfl)) (mvT hZ (own_w hw 84 rfl)) (by decide) (backOf (W := 0) (rm18_U3 l Z a0 hw [] a1 k1 c0 c1 c2 cs1 fm T125.heap n0 (Nat.le_trans Z0 K126.1) f131 G f130) hZ (own_w hw 84 rfl) (own_w hw 44 rfl) (by decide) (by decide)) (g := (mkF m 23 #[.val (.ref a1), .val (.int (0 : Int32)), .val (.int (3 : Int32)), .val (.ref b102), .val (.int (1 : Int32)), .unset] [(.int (3 : Int32)), (.int (0 : Int32)), (.ref a1)])) rfl (by rw [hml]; rfl) (argsL := [(.ref a1), (.int (0 : Int32)), (.int (3 : Int32))]) (rest := []) (lenOf pd8 rfl) rfl (by show 2 * 0 + _ ≤ _; exact Nat.le_of_eq rfl) (hb hby d8_23) (fun _ _ => ⟨rfl, rfl, (by decide : 1 + 1 ≤ _), (by decide : 3 + 6 ≤ _)⟩)
   dsimp only [Pt.U, Pt.locs, Pt.cells, Pt.slots] at X132 l132 y132 z132 st132 hQ132
   subst l132 y132 z132
   obtain ⟨x133, x134, rfl, N132q, q132_K, q132_g, q132_z, q132_V⟩ := hQ132
   have N132 := Fr.app N125 N132q
   have K135 : Keep h0 T132.heap [] := K126.trans q132_K all0
   have ne_a1_x133 : a1 ≠ x133 := Nat.ne_of_lt (Nat.lt_of_lt_of_le f130.lt q132_z)
   have ne_b102_x133 : b102 ≠ x133 := Nat.ne_of_lt (Nat.lt_of_lt_of_le f127.lt q132_z)
   have p136 : Go p.tables e below _ (T132.setTop (mkF m 32 #[.val (.ref a1), .val (.int (0 : Int32)), .val (.int (3 : Int32)), .val (.ref b102), .val (.int (1 : Int32)), .val (.ref x133)] [(.int (1 : Int32)), (.ref x133)])) := fun t_ k_ => (gc p129 st132) t_ (by
    refine XS.astore X132.here hx rfl (hb hby d8_26) rfl rfl (l' := #[.val (.ref a1), .val (.int (0 : Int32)), .val (.int (3 : Int32)), .val (.ref b102), .val (.int (1 : Int32)), .val (.ref x133)]) rfl ?_
    refine XS.aload X132.here hx rfl (hb hby d8_28) rfl rfl ?_
    refine XS.iload X132.here hx rfl (hb hby d8_30) rfl ?_
    exact k_)
   have f137 := (f131.keep q132_K all0)
   obtain ⟨_, _, ⟨T138, L138, k138, n138⟩, -, X138, ⟨Lc138, hQ138, l138, y138, z138⟩, st138⟩ := Jvm.LawKit.callS X132 hx (y := (⟨"java/lang/StringUTF16", "getChar", "([BI)C"⟩ : MethodName)) hown (mvT hZ (own_w hw 98 rfl)) (mvT hZ (own_w hw 99 rfl)) (mvT hZ (own_w hw 44 rfl)) (mvT hZ (own_w hw 100 rfl)) (by decide) (backOf (W := 0) (rm22 l Z a0 hw [] x133 (1 : Int32) x134 (6 : Int32) [(.int (own_x0 c0)), (.int (own_x8 c0)), (.int (own_x0 c1)), (.int (own_x8 c1)), (.int (own_x0 c2)), (.int (own_x8 c2))] (own_x0 c1) (own_x8 c1) c1 cs1 fm T132.heap n0 (Nat.le_trans Z0 K135.1) f137 G q132_V (by decide) (by decide) rfl rfl (own_l16 c1 a1_ b1_)) hZ (own_w hw 100 rfl) (own_w hw 44 rfl) (by decide) (by decide)) (g := (mkF m 32 #[.val (.ref a1), .val (.int (0 : Int32)), .val (.int (3 : Int32)), .val (.ref b102), .val (.int (1 : Int32)), .val (.ref x133)] [(.int (1 : Int32)), (.ref x133)])) rfl (by rw [hml]; rfl) (argsL := [(.ref x133), (.int (1 : Int32))]) (rest := []) (lenOf pd4 rfl) rfl (by show 2 * 0 + _ ≤ _; exact Nat.le_of_eq rfl) (hb hby d8_32) (fun _ _ => ⟨rfl, rfl, (by decide : 2 + 0 ≤ _), (by decide : 9 + 0 ≤ _)⟩)
   dsimp only [Pt.U, Pt.locs, Pt.cells, Pt.slots] at X138 l138 y138 z138 st138 hQ138
   subst l138 y138 z138
   obtain ⟨rfl, N138q, q138_hh⟩ := hQ138
   have N138 := Fr.app N132 N138q
   have p139 : Go p.tables e below _ (T138.setTop (mkF m 38 #[.val (.ref a1), .val (.int (0 : Int32)), .val (.int (3 : Int32)), .val (.ref b102), .val (.int (1 : Int32)), .val (.ref x133)] [(.int (255 : Int32)), (.int c1)])) := fun t_ k_ => (gc p136 st138) t_ (by
    refine XS.sipush X138.here hx rfl (hb hby d8_35) ?_
    exact k_)
   have c140 : ((255 : Int32) < c1) := m1
   have p141 : Go p.tables e below _ (T138.setTop (mkF m 56 #[.val (.ref a1), .val (.int (0 : Int32)), .val (.int (3 : Int32)), .val (.ref b102), .val (.int (1 : Int32)), .val (.ref x133)] [(.ref x133)])) := fun t_ k_ => p139 t_ (by
    refine XS.icmpYes X138.here hx rfl (pc0 := 38) (pc' := 54) rfl (hb hby d8_38) rfl (tlt c140).2.2.1 (by decide) (by decide) ?_
    refine XS.aload X138.here hx rfl (hb hby d8_54) rfl rfl ?_
    exact k_)
   obtain ⟨fs, hr, hrun, hended, hW, hsame⟩ := X138.leave (v := some (.ref x133)) (fun h => by rw [Bd.returns] at h; cases h)
   refine ⟨_, _, p141 _ (retOut X138 hx (w := (.ref x133)) (i := .areturn) Bd.returns rfl (Or.inr (Or.inr (Or.inr (Or.inr ⟨rfl, rfl, rfl⟩)))) (hb hby d8_56) hr), hrun, hended, _, _, rfl, ?_, ⟨_, rfl⟩, hW, hsame.mono (by decide) (by decide)⟩
   show Q8_U3 Z a1 k1 c0 c1 c2 cs1 fm h0 n0 _ T138.heap _
   rw [q138_hh]
   exact ⟨x133, x134, rfl, N138, K135, q132_g, (Nat.le_trans K126.1 q132_z), q132_V⟩
  ·skip
   by_cases m2 : (255 : Int32) < c2
   ·have hl142 : ∀ j, j < 2 → ¬ ((255 : Int32) < own_at [c0, c1, c2] j) := by
     intro j hj
     rcases (by omega : j = 0 ∨ j = 1) with rfl | rfl
     ·exact m0
     ·exact m1
    have f143 := (V1.ext E102)
    obtain ⟨_, _, ⟨T144, L144, k144, n144⟩, -, X144, ⟨Lc144, hQ144, l144, y144, z144⟩, st144⟩ := Jvm.LawKit.callS X102 hx (y := (⟨"java/lang/StringUTF16", "compress", "([CI[BII)I"⟩ : MethodName)) hown (mvT hZ (own_w hw 46 rfl)) (mvT hZ (own_w hw 47 rfl)) (mvT hZ (own_w hw 44 rfl)) (mvT hZ (own_w hw 48 rfl)) (by decide) (backOf (W := 0) (rm9_U l Z a0 hw [] a1 b102 k1 k102 [c0, c1, c2] 3 2 h102 n0 (Nat.le_trans Z0 K103.1) f143 V102 (by decide) (by decide) hl142 m2 ne_a1_b102 ge_b102) hZ (own_w hw 48 rfl) (own_w hw 44 rfl) (by decide) (by decide)) (g := (mkF m 9 #[.val (.ref a1), .val (.int (0 : Int32)), .val (.int (3 : Int32)), .val (.ref b102), .unset, .unset] [(.int (3 : Int32)), (.int (0 : Int32)), (.ref b102), (.int (0 : Int32)), (.ref a1)])) rfl (by rw [hml]; rfl) (argsL := [(.ref a1), (.int (0 : Int32)), (.ref b102), (.int (0 : Int32)), (.int (3 : Int32))]) (rest := []) (lenOf pd7 rfl) rfl (by show 2 * 0 + _ ≤ _; exact Nat.le_of_eq rfl) (hb hby d8_9) (fun _ _ => ⟨rfl, e102, (by decide : 1 + 0 ≤ _), (by decide : 3 + 0 ≤ _)⟩)
    dsimp only [Pt.U, Pt.locs, Pt.cells, Pt.slots] at X144 l144 y144 z144 st144 hQ144
    subst l144 y144 z144
    obtain ⟨rfl, N144q, q144_K, q144_V⟩ := hQ144
    have N144 := Fr.app N0 N144q
    have K145 : Keep h0 T144.heap [] := K103.trans q144_K (allS (Or.inr sz_b102) all0)
    have f146 : Arv Z T144.heap b102 k102 .byte (3 : Int32) [(.int (own_xl c0)), (.int (own_xl c1)), (.int (0 : Int32))] (.int (0 : Int32)) := q144_V
    have p147 : Go p.tables e below _ (T144.setTop (mkF m 12 #[.val (.ref a1), .val (.int (0 : Int32)), .val (.int (3 : Int32)), .val (.ref b102), .unset, .unset] [(.int (2 : Int32))])) := (gc p104 st144)
    have p148 : Go p.tables e below _ (T144.setTop (mkF m 23 #[.val (.ref a1), .val (.int (0 : Int32)), .val (.int (3 : Int32)), .val (.ref b102), .val (.int (2 : Int32)), .unset] [(.int (3 : Int32)), (.int (0 : Int32)), (.ref a1)])) := fun t_ k_ => p147 t_ (by
     refine XS.istore X144.here hx rfl (hb hby d8_12) rfl (l' := #[.val (.ref a1), .val (.int (0 : Int32)), .val (.int (3 : Int32)), .val (.ref b102), .val (.int (2 : Int32)), .unset]) rfl ?_
     refine XS.iload X144.here hx rfl (hb hby d8_14) rfl ?_
     refine XS.iloadN X144.here hx rfl (hb hby d8_16) rfl ?_
     refine XS.icmpNo X144.here hx rfl (hb hby d8_17) rfl (feq (by decide : ¬ ((2 : Int32) = (3 : Int32)))).1 ?_
     refine XS.aloadN X144.here hx rfl (hb hby d8_20) rfl rfl ?_
     refine XS.iloadN X144.here hx rfl (hb hby d8_21) rfl ?_
     refine XS.iloadN X144.here hx rfl (hb hby d8_22) rfl ?_
     exact k_)
    have f149 := (f143.keep q144_K (ninS ne_a1_b102 nin0))
    have f150 := ((O1.ext E102).keep q144_K (allS ge_b102 all0))
    obtain ⟨_, _, ⟨T151, L151, k151, n151⟩, -, X151, ⟨Lc151, hQ151, l151, y151, z151⟩, st151⟩ := Jvm.LawKit.callS X144 hx (y := (⟨"java/lang/StringUTF16", "toBytes", "([CII)[B"⟩ : MethodName)) hown (mvT hZ (own_w hw 82 rfl)) (mvT hZ (own_w hw 83 rfl)) (mvT hZ (own_w hw 44 rfl)) (mvT hZ (own_w hw 84 rfl)) (by decide) (backOf (W := 0) (rm18_U3 l Z a0 hw [] a1 k1 c0 c1 c2 cs1 fm T144.heap n0 (Nat.le_trans Z0 K145.1) f150 G f149) hZ (own_w hw 84 rfl) (own_w hw 44 rfl) (by decide) (by decide)) (g := (mkF m 23 #[.val (.ref a1), .val (.int (0 : Int32)), .val (.int (3 : Int32)), .val (.ref b102), .val (.int (2 : Int32)), .unset] [(.int (3 : Int32)), (.int (0 : Int32)), (.ref a1)])) rfl (by rw [hml]; rfl) (argsL := [(.ref a1), (.int (0 : Int32)), (.int (3 : Int32))]) (rest := []) (lenOf pd8 rfl) rfl (by show 2 * 0 + _ ≤ _; exact Nat.le_of_eq rfl) (hb hby d8_23) (fun _ _ => ⟨rfl, rfl, (by decide : 1 + 1 ≤ _), (by decide : 3 + 6 ≤ _)⟩)
    dsimp only [Pt.U, Pt.locs, Pt.cells, Pt.slots] at X151 l151 y151 z151 st151 hQ151
    subst l151 y151 z151
    obtain ⟨x152, x153, rfl, N151q, q151_K, q151_g, q151_z, q151_V⟩ := hQ151
    have N151 := Fr.app N144 N151q
    have K154 : Keep h0 T151.heap [] := K145.trans q151_K all0
    have ne_a1_x152 : a1 ≠ x152 := Nat.ne_of_lt (Nat.lt_of_lt_of_le f149.lt q151_z)
    have ne_b102_x152 : b102 ≠ x152 := Nat.ne_of_lt (Nat.lt_of_lt_of_le f146.lt q151_z)
    have p155 : Go p.tables e below _ (T151.setTop (mkF m 32 #[.val (.ref a1), .val (.int (0 : Int32)), .val (.int (3 : Int32)), .val (.ref b102), .val (.int (2 : Int32)), .val (.ref x152)] [(.int (2 : Int32)), (.ref x152)])) := fun t_ k_ => (gc p148 st151) t_ (by
     refine XS.astore X151.here hx rfl (hb hby d8_26) rfl rfl (l' := #[.val (.ref a1), .val (.int (0 : Int32)), .val (.int (3 : Int32)), .val (.ref b102), .val (.int (2 : Int32)), .val (.ref x152)]) rfl ?_
     refine XS.aload X151.here hx rfl (hb hby d8_28) rfl rfl ?_
     refine XS.iload X151.here hx rfl (hb hby d8_30) rfl ?_
     exact k_)
    have f156 := (f150.keep q151_K all0)
    obtain ⟨_, _, ⟨T157, L157, k157, n157⟩, -, X157, ⟨Lc157, hQ157, l157, y157, z157⟩, st157⟩ := Jvm.LawKit.callS X151 hx (y := (⟨"java/lang/StringUTF16", "getChar", "([BI)C"⟩ : MethodName)) hown (mvT hZ (own_w hw 98 rfl)) (mvT hZ (own_w hw 99 rfl)) (mvT hZ (own_w hw 44 rfl)) (mvT hZ (own_w hw 100 rfl)) (by decide) (backOf (W := 0) (rm22 l Z a0 hw [] x152 (2 : Int32) x153 (6 : Int32) [(.int (own_x0 c0)), (.int (own_x8 c0)), (.int (own_x0 c1)), (.int (own_x8 c1)), (.int (own_x0 c2)), (.int (own_x8 c2))] (own_x0 c2) (own_x8 c2) c2 cs1 fm T151.heap n0 (Nat.le_trans Z0 K154.1) f156 G q151_V (by decide) (by decide) rfl rfl (own_l16 c2 a2_ b2_)) hZ (own_w hw 100 rfl) (own_w hw 44 rfl) (by decide) (by decide)) (g := (mkF m 32 #[.val (.ref a1), .val (.int (0 : Int32)), .val (.int (3 : Int32)), .val (.ref b102), .val (.int (2 : Int32)), .val (.ref x152)] [(.int (2 : Int32)), (.ref x152)])) rfl (by rw [hml]; rfl) (argsL := [(.ref x152), (.int (2 : Int32))]) (rest := []) (lenOf pd4 rfl) rfl (by show 2 * 0 + _ ≤ _; exact Nat.le_of_eq rfl) (hb hby d8_32) (fun _ _ => ⟨rfl, rfl, (by decide : 2 + 0 ≤ _), (by decide : 9 + 0 ≤ _)⟩)
    dsimp only [Pt.U, Pt.locs, Pt.cells, Pt.slots] at X157 l157 y157 z157 st157 hQ157
    subst l157 y157 z157
    obtain ⟨rfl, N157q, q157_hh⟩ := hQ157
    have N157 := Fr.app N151 N157q
    have p158 : Go p.tables e below _ (T157.setTop (mkF m 38 #[.val (.ref a1), .val (.int (0 : Int32)), .val (.int (3 : Int32)), .val (.ref b102), .val (.int (2 : Int32)), .val (.ref x152)] [(.int (255 : Int32)), (.int c2)])) := fun t_ k_ => (gc p155 st157) t_ (by
     refine XS.sipush X157.here hx rfl (hb hby d8_35) ?_
     exact k_)
    have c159 : ((255 : Int32) < c2) := m2
    have p160 : Go p.tables e below _ (T157.setTop (mkF m 56 #[.val (.ref a1), .val (.int (0 : Int32)), .val (.int (3 : Int32)), .val (.ref b102), .val (.int (2 : Int32)), .val (.ref x152)] [(.ref x152)])) := fun t_ k_ => p158 t_ (by
     refine XS.icmpYes X157.here hx rfl (pc0 := 38) (pc' := 54) rfl (hb hby d8_38) rfl (tlt c159).2.2.1 (by decide) (by decide) ?_
     refine XS.aload X157.here hx rfl (hb hby d8_54) rfl rfl ?_
     exact k_)
    obtain ⟨fs, hr, hrun, hended, hW, hsame⟩ := X157.leave (v := some (.ref x152)) (fun h => by rw [Bd.returns] at h; cases h)
    refine ⟨_, _, p160 _ (retOut X157 hx (w := (.ref x152)) (i := .areturn) Bd.returns rfl (Or.inr (Or.inr (Or.inr (Or.inr ⟨rfl, rfl, rfl⟩)))) (hb hby d8_56) hr), hrun, hended, _, _, rfl, ?_, ⟨_, rfl⟩, hW, hsame.mono (by decide) (by decide)⟩
    show Q8_U3 Z a1 k1 c0 c1 c2 cs1 fm h0 n0 _ T157.heap _
    rw [q157_hh]
    exact ⟨x152, x153, rfl, N157, K154, q151_g, (Nat.le_trans K145.1 q151_z), q151_V⟩
   ·exact absurd big (by simp [m0, m1, m2])
theorem ef_rm10_U3 (m : MethodId) (a1 : Addr) (k1 : ClassId) (vs : List Value) : entryFrame m #[(.ref a1), (.int (3 : Int32))] 2 = mkF m 0 #[.val (.ref a1), .val (.int (3 : Int32))] [] := by first | (simp [entryFrame, mkF, argsToLocals, Value.category]; done) | rfl
def Q10_U3 (Z : State) (a1 : Addr) (k1 : ClassId) (vs : List Value) (h0 : Heap) (n0 : Nat) (v : Option Value) (h : Heap) (L : List Loc) : Prop := v = some (.int (1 : Int32)) ∧ Fr n0 L ∧ (h = h0)
set_option maxRecDepth 65536 in
set_option maxHeartbeats 40000000 in
theorem rm10_U3 (l : Launch) (Z : State) (a0 : Array Value) (hw : ∀ d ∈ tables_1, d.before a0 Z = true) (ws : List Jvm.Cond) (a1 : Addr) (k1 : ClassId) (vs : List Value) (h0 : Heap) (n0 : Nat) (Z0 : n0 ≤ h0.size) (V1 : Arv Z h0 a1 k1 .byte (6 : Int32) vs (.int (0 : Int32))) :
  MetFree l (⟨"java/lang/StringUTF16", "coderFromArrayLen", "([BI)B"⟩ : MethodName) (head1 (Jvm.Cond.code (⟨"java/lang/StringUTF16", "coderFromArrayLen", "([BI)B"⟩ : MethodName) jdk_52_method_15_code 2 (some .byte) :: ws) ({ frames := 0, cells := 0, slots := 0, locals := 0 } : Room)) (fun a U => a = #[(.ref a1), (.int (3 : Int32))] ∧ Z.Warmed39 U.vm ∧ U.heap = h0) (fun _ _ _ _ _ => True) (fun _ U o U' => ∃ v L, o = .returned v ∧ Q10_U3 Z a1 k1 vs h0 n0 v U'.heap L ∧ FrameEnd U o U' L ({ frames := 0, cells := 0, slots := 0, locals := 0 } : Room).cells ({ frames := 0, cells := 0, slots := 0, locals := 0 } : Room).slots) := by
 refine MetFree.of_bodySF pn10 hisR ?_
 intro p e s m args below meth c s₁ Bd hml0 hP hK
 obtain ⟨rfl, hZ, hh⟩ := hP
 have hx := Bd.exec
 have hby := Bd.bytes
 have hml : c.maxLocals = 2 := hml0
 have hown : s.vm.findClass "java/lang/StringUTF16" = some m.cls := findClass_of_methodNamed Bd.named
 have hnm := (name_of_methodNamed Bd.named Bd.method).1
 have X0 : Stand p l e ({ frames := 0, cells := 0, slots := 0, locals := 0 } : Room) s m #[(.ref a1), (.int (3 : Int32))] below meth c s₁ [] 0 0 := Stand.of_body Bd
 have e0 : s₁.heap = h0 := by rw [← hh, Bd.state]; rfl
 have N0 := Fr.nil n0
 have p0 : Go p.tables e below (s₁.setTop (entryFrame m #[(.ref a1), (.int (3 : Int32))] 2)) (s₁.setTop (mkF m 0 #[.val (.ref a1), .val (.int (3 : Int32))] [])) := fun t_ k_ => castTop (ef_rm10_U3 m a1 k1 vs) k_
 have p101 : Go p.tables e below _ (s₁.setTop (mkF m 2 #[.val (.ref a1), .val (.int (3 : Int32))] [(.ref a1), (.int (3 : Int32))])) := fun t_ k_ => p0 t_ (by
  refine XS.iloadN X0.here hx rfl (hb hby d10_0) rfl ?_
  refine XS.aloadN X0.here hx rfl (hb hby d10_1) rfl rfl ?_
  exact k_)
 obtain ⟨cl102, Ar102, -, S102, Ng102, -, -⟩ := id V1
 have p103 : Go p.tables e below _ (s₁.setTop (mkF m 8 #[.val (.ref a1), .val (.int (3 : Int32))] [(.int (1 : Int32))])) := fun t_ k_ => p101 t_ (by
  refine X0.arraylength hx (by rw [e0]; exact Ar102.1) (State.isArrayOf_alike hZ.alike Ar102.2.1) (g := (mkF m 2 #[.val (.ref a1), .val (.int (3 : Int32))] [(.ref a1), (.int (3 : Int32))])) rfl rfl (hb hby d10_2) _ ?_
  rw [len_of S102 Ng102]
  show Steps p.tables e below (s₁.setTop (mkF m 3 #[.val (.ref a1), .val (.int (3 : Int32))] [(.int (6 : Int32)), (.int (3 : Int32))])) _
  refine XS.isub X0.here hx rfl (hb hby d10_3) rfl ?_
  refine XS.bipush X0.here hx rfl (hb hby d10_4) ?_
  refine XS.iushr X0.here hx rfl (hb hby d10_6) rfl ?_
  refine XS.i2b X0.here hx rfl (hb hby d10_7) rfl ?_
  exact k_)
 obtain ⟨fs, hr, hrun, hended, hW, hsame⟩ := X0.leave (v := some (.int (1 : Int32))) (fun h => by rw [Bd.returns] at h; cases h)
 refine ⟨_, _, p103 _ (retN X0 hx (t := .byte) Bd.returns (by simp) (hb hby d10_8) hr), hrun, hended, _, _, rfl, ?_, ⟨_, rfl⟩, hW, hsame.mono (by decide) (by decide)⟩
 show Q10_U3 Z a1 k1 vs h0 n0 _ s₁.heap _
 rw [e0]
 exact ⟨rfl, N0, rfl⟩
theorem ef_rm3_U3 (m : MethodId) (a1 : Addr) (a2 : Addr) (k1 : ClassId) (c0 : Int32) (c1 : Int32) (c2 : Int32) (cs1 : Int32) (fm : Value) : entryFrame m #[(.ref a1), (.ref a2), (.int (0 : Int32)), (.int (3 : Int32)), .null] 6 = mkF m 0 #[.val (.ref a1), .val (.ref a2), .val (.int (0 : Int32)), .val (.int (3 : Int32)), .val .null, .unset] [] := by first | (simp [entryFrame, mkF, argsToLocals, Value.category]; done) | rfl
def Q3_U3 (Z : State) (a1 : Addr) (a2 : Addr) (k1 : ClassId) (c0 : Int32) (c1 : Int32) (c2 : Int32) (cs1 : Int32) (fm : Value) (h0 : Heap) (n0 : Nat) (v : Option Value) (h : Heap) (L : List Loc) : Prop := ∃ (b : Addr) (kb : ClassId), v = none ∧ Fr n0 L ∧ (Keep h0 h [a1]) ∧ (Exa Z h a1 "java/lang/String") ∧ (Fld Z h a1 "java/lang/String" "coder" "B" (.int (1 : Int32))) ∧ (Fld Z h a1 "java/lang/String" "value" "[B" (.ref b)) ∧ (n0 ≤ b) ∧ (h0.size ≤ b) ∧ (Arv Z h b kb .byte (6 : Int32) [(.int (own_x0 c0)), (.int (own_x8 c0)), (.int (own_x0 c1)), (.int (own_x8 c1)), (.int (own_x0 c2)), (.int (own_x8 c2))] (.int (0 : Int32))) ∧ (a1 ≠ b)
set_option maxRecDepth 65536 in
set_option maxHeartbeats 40000000 in
theorem rm3_U3 (l : Launch) (Z : State) (a0 : Array Value) (hw : ∀ d ∈ tables_1, d.before a0 Z = true) (ws : List Jvm.Cond) (a1 : Addr) (a2 : Addr) (k1 : ClassId) (c0 : Int32) (c1 : Int32) (c2 : Int32) (cs1 : Int32) (fm : Value) (h0 : Heap) (n0 : Nat) (Z0 : n0 ≤ h0.size) (O1 : Old Z n0 h0) (G : own_G Z cs1 fm) (F1 : Fld Z h0 a1 "java/lang/String" "coder" "B" (.int (0 : Int32))) (F2 : Fld Z h0 a1 "java/lang/String" "value" "[B" .null) (E1 : Exa Z h0 a1 "java/lang/String") (V1 : Arv Z h0 a2 k1 .char (3 : Int32) [(.int c0), (.int c1), (.int c2)] (.int (0 : Int32))) (ne : a1 ≠ a2) (g1 : n0 ≤ a1) (a0_ : ¬ (c0 < (0 : Int32))) (b0_ : ¬ ((65535 : Int32) < c0)) (a1_ : ¬ (c1 < (0 : Int32))) (b1_ : ¬ ((65535 : Int32) < c1)) (a2_ : ¬ (c2 < (0 : Int32))) (b2_ : ¬ ((65535 : Int32) < c2)) (big : ((255 : Int32) < c0) ∨ ((255 : Int32) < c1) ∨ ((255 : Int32) < c2)) :
  MetFree l (⟨"java/lang/String", "<init>", "([CIILjava/lang/Void;)V"⟩ : MethodName) (head1 (Jvm.Cond.code (⟨"java/lang/String", "<init>", "([CIILjava/lang/Void;)V"⟩ : MethodName) jdk_42_method_149_code 6 none :: ws) ({ frames := 4, cells := 2, slots := 9, locals := 57 } : Room)) (fun a U => a = #[(.ref a1), (.ref a2), (.int (0 : Int32)), (.int (3 : Int32)), .null] ∧ Z.Warmed39 U.vm ∧ U.heap = h0) (fun _ _ _ _ _ => True) (fun _ U o U' => ∃ v L, o = .returned v ∧ Q3_U3 Z a1 a2 k1 c0 c1 c2 cs1 fm h0 n0 v U'.heap L ∧ FrameEnd U o U' L ({ frames := 4, cells := 2, slots := 9, locals := 57 } : Room).cells ({ frames := 4, cells := 2, slots := 9, locals := 57 } : Room).slots) := by
 refine MetFree.of_bodySF pn3 hisR ?_
 intro p e s m args below meth c s₁ Bd hml0 hP hK
 obtain ⟨rfl, hZ, hh⟩ := hP
 have hx := Bd.exec
 have hby := Bd.bytes
 have hml : c.maxLocals = 6 := hml0
 have hown : s.vm.findClass "java/lang/String" = some m.cls := findClass_of_methodNamed Bd.named
 have hnm := (name_of_methodNamed Bd.named Bd.method).1
 have X0 : Stand p l e ({ frames := 4, cells := 2, slots := 9, locals := 57 } : Room) s m #[(.ref a1), (.ref a2), (.int (0 : Int32)), (.int (3 : Int32)), .null] below meth c s₁ [] 0 0 := Stand.of_body Bd
 have e0 : s₁.heap = h0 := by rw [← hh, Bd.state]; rfl
 have N0 := Fr.nil n0
 have p0 : Go p.tables e below (s₁.setTop (entryFrame m #[(.ref a1), (.ref a2), (.int (0 : Int32)), (.int (3 : Int32)), .null] 6)) (s₁.setTop (mkF m 0 #[.val (.ref a1), .val (.ref a2), .val (.int (0 : Int32)), .val (.int (3 : Int32)), .val .null, .unset] [])) := fun t_ k_ => castTop (ef_rm3_U3 m a1 a2 k1 c0 c1 c2 cs1 fm) k_
 have p101 : Go p.tables e below _ (s₁.setTop (mkF m 1 #[.val (.ref a1), .val (.ref a2), .val (.int (0 : Int32)), .val (.int (3 : Int32)), .val .null, .unset] [(.ref a1)])) := fun t_ k_ => p0 t_ (by
  refine XS.aloadN X0.here hx rfl (hb hby d3_0) rfl rfl ?_
  exact k_)
 obtain ⟨T102, X102, e102, st102⟩ := initO X0 hx hZ hown (own_w hw 16 rfl) (own_w hw 17 rfl) (own_w hw 18 rfl) e0 (g := (mkF m 1 #[.val (.ref a1), .val (.ref a2), .val (.int (0 : Int32)), .val (.int (3 : Int32)), .val .null, .unset] [(.ref a1)])) rfl (by rw [hml]; rfl) rfl (hb hby d3_1) (by decide) (W := 0) (by show 2 * 0 + _ ≤ _; exact Nat.le_of_eq rfl) (by decide)
 have p103 : Go p.tables e below _ (T102.setTop (mkF m 27 #[.val (.ref a1), .val (.ref a2), .val (.int (0 : Int32)), .val (.int (3 : Int32)), .val .null, .unset] [])) := fun t_ k_ => (gc p101 st102) t_ (by
  refine XS.iloadN X102.here hx rfl (hb hby d3_4) rfl ?_
  refine XS.ifYes X102.here hx rfl (pc0 := 5) (pc' := 27) rfl (hb hby d3_5) rfl ((if0 _ _).trans (feq (by decide : ¬ ((3 : Int32) = (0 : Int32)))).2) (by decide) (by decide) ?_
  exact k_)
 obtain ⟨T104, X104, e104, st104⟩ := getS2 X102 hx hZ hown (host := "") (Or.inl (own_w hw 41 rfl)) Via.refl e102 (G.1.ext O1.2) (g := (mkF m 27 #[.val (.ref a1), .val (.ref a2), .val (.int (0 : Int32)), .val (.int (3 : Int32)), .val .null, .unset] [])) rfl (hb hby d3_27)
 have c105 : ¬ (cs1 = (0 : Int32)) := G.2.1
 have p106 : Go p.tables e below _ (T104.setTop (mkF m 36 #[.val (.ref a1), .val (.ref a2), .val (.int (0 : Int32)), .val (.int (3 : Int32)), .val .null, .unset] [(.int (3 : Int32)), (.int (0 : Int32)), (.ref a2)])) := fun t_ k_ => (gc p103 st104) t_ (by
  refine XS.ifNo X104.here hx rfl (hb hby d3_30) rfl ((if0 _ _).trans (feq c105).1) ?_
  refine XS.aloadN X104.here hx rfl (hb hby d3_33) rfl rfl ?_
  refine XS.iloadN X104.here hx rfl (hb hby d3_34) rfl ?_
  refine XS.iloadN X104.here hx rfl (hb hby d3_35) rfl ?_
  exact k_)
 obtain ⟨_, _, ⟨T107, L107, k107, n107⟩, -, X107, ⟨Lc107, hQ107, l107, y107, z107⟩, st107⟩ := Jvm.LawKit.callS X104 hx (y := (⟨"java/lang/StringUTF16", "compress", "([CII)[B"⟩ : MethodName)) hown (mvT hZ (own_w hw 42 rfl)) (mvT hZ (own_w hw 43 rfl)) (mvT hZ (own_w hw 44 rfl)) (mvT hZ (own_w hw 45 rfl)) (by decide) (backOf (W := 0) (rm8_U3 l Z a0 hw [] a2 k1 c0 c1 c2 cs1 fm h0 n0 (Nat.le_trans Z0 (Keep.refl h0 [a1]).1) O1 G V1 a0_ b0_ a1_ b1_ a2_ b2_ big) hZ (own_w hw 45 rfl) (own_w hw 44 rfl) (by decide) (by decide)) (g := (mkF m 36 #[.val (.ref a1), .val (.ref a2), .val (.int (0 : Int32)), .val (.int (3 : Int32)), .val .null, .unset] [(.int (3 : Int32)), (.int (0 : Int32)), (.ref a2)])) rfl (by rw [hml]; rfl) (argsL := [(.ref a2), (.int (0 : Int32)), (.int (3 : Int32))]) (rest := []) (lenOf pd8 rfl) rfl (by show 2 * 0 + _ ≤ _; exact Nat.le_of_eq rfl) (hb hby d3_36) (fun _ _ => ⟨rfl, e104, (by decide : 0 + 2 ≤ _), (by decide : 0 + 9 ≤ _)⟩)
 dsimp only [Pt.U, Pt.locs, Pt.cells, Pt.slots] at X107 l107 y107 z107 st107 hQ107
 subst l107 y107 z107
 obtain ⟨x108, x109, rfl, N107q, q107_K, q107_g, q107_z, q107_V⟩ := hQ107
 have N107 := Fr.app N0 N107q
 have K110 : Keep h0 T107.heap [a1] := (Keep.refl h0 [a1]).trans q107_K all0
 have ne_a1_x108 : a1 ≠ x108 := Nat.ne_of_lt (Nat.lt_of_lt_of_le E1.lt q107_z)
 have ne_a2_x108 : a2 ≠ x108 := Nat.ne_of_lt (Nat.lt_of_lt_of_le V1.lt q107_z)
 have p111 : Go p.tables e below _ (T107.setTop (mkF m 45 #[.val (.ref a1), .val (.ref a2), .val (.int (0 : Int32)), .val (.int (3 : Int32)), .val .null, .val (.ref x108)] [(.int (3 : Int32)), (.ref x108), (.ref a1)])) := fun t_ k_ => (gc p106 st107) t_ (by
  refine XS.astore X107.here hx rfl (hb hby d3_39) rfl rfl (l' := #[.val (.ref a1), .val (.ref a2), .val (.int (0 : Int32)), .val (.int (3 : Int32)), .val .null, .val (.ref x108)]) rfl ?_
  refine XS.aloadN X107.here hx rfl (hb hby d3_41) rfl rfl ?_
  refine XS.aload X107.here hx rfl (hb hby d3_42) rfl rfl ?_
  refine XS.iloadN X107.here hx rfl (hb hby d3_44) rfl ?_
  exact k_)
 obtain ⟨_, _, ⟨T112, L112, k112, n112⟩, -, X112, ⟨Lc112, hQ112, l112, y112, z112⟩, st112⟩ := Jvm.LawKit.callS X107 hx (y := (⟨"java/lang/StringUTF16", "coderFromArrayLen", "([BI)B"⟩ : MethodName)) hown (mvT hZ (own_w hw 49 rfl)) (mvT hZ (own_w hw 50 rfl)) (mvT hZ (own_w hw 44 rfl)) (mvT hZ (own_w hw 51 rfl)) (by decide) (backOf (W := 1) (rm10_U3 l Z a0 hw [] x108 x109 [(.int (own_x0 c0)), (.int (own_x8 c0)), (.int (own_x0 c1)), (.int (own_x8 c1)), (.int (own_x0 c2)), (.int (own_x8 c2))] T107.heap n0 (Nat.le_trans Z0 K110.1) q107_V) hZ (own_w hw 51 rfl) (own_w hw 44 rfl) (by decide) (by decide)) (g := (mkF m 45 #[.val (.ref a1), .val (.ref a2), .val (.int (0 : Int32)), .val (.int (3 : Int32)), .val .null, .val (.ref x108)] [(.int (3 : Int32)), (.ref x108), (.ref a1)])) rfl (by rw [hml]; rfl) (argsL := [(.ref x108), (.int (3 : Int32))]) (rest := [(.ref a1)]) (lenOf pd9 rfl) rfl (by show 2 * 0 + _ ≤ _; exact Nat.le_of_eq rfl) (hb hby d3_45) (fun _ _ => ⟨rfl, rfl, (by decide : 2 + 0 ≤ _), (by decide : 9 + 0 ≤ _)⟩)
 dsimp only [Pt.U, Pt.locs, Pt.cells, Pt.slots] at X112 l112 y112 z112 st112 hQ112
 subst l112 y112 z112
 obtain ⟨rfl, N112q, q112_hh⟩ := hQ112
 have N112 := Fr.app N107 N112q
 have f113 := (F1.keep q107_K nin0)
 have f114 := (E1.keep q107_K)
 obtain ⟨T115, h115, X115, e115, W115, st115⟩ := putFN X112 hx hZ hown (own_w hw 26 rfl) Via.refl q112_hh f113 f114 (Or.inr ⟨(own_w hw 22 rfl), rfl, hnm⟩) (own_w hw 7 rfl) (ty := .byte) (v' := (.int (1 : Int32))) (by decide) rfl (by decide) (g := (mkF m 48 #[.val (.ref a1), .val (.ref a2), .val (.int (0 : Int32)), .val (.int (3 : Int32)), .val .null, .val (.ref x108)] [(.int (1 : Int32)), (.ref a1)])) rfl rfl (hb hby d3_48)
 have K116 : Keep h0 h115 [a1] := K110.wr W115 (Or.inl (List.mem_of_getElem? (i := 0) rfl))
 have N115 := Fr.snoc X115 N112 g1
 have F115 : Fld Z h115 a1 "java/lang/String" "coder" "B" (.int (1 : Int32)) := f113.same W115
 have p117 : Go p.tables e below _ (T115.setTop (mkF m 54 #[.val (.ref a1), .val (.ref a2), .val (.int (0 : Int32)), .val (.int (3 : Int32)), .val .null, .val (.ref x108)] [(.ref x108), (.ref a1)])) := fun t_ k_ => (gc (gc p111 st112) st115) t_ (by
  refine XS.aloadN X115.here hx rfl (hb hby d3_51) rfl rfl ?_
  refine XS.aload X115.here hx rfl (hb hby d3_52) rfl rfl ?_
  exact k_)
 have f118 := ((F2.keep q107_K nin0).other W115 (Or.inr (slot_ne (Or.inr (own_w hw 21 rfl)) (Or.inr (own_w hw 22 rfl)) (by decide) (t := (.array .byte)) (t' := .byte) (by decide) (by decide))))
 have f119 := (f114.wr W115)
 obtain ⟨T120, h120, X120, e120, W120, st120⟩ := putF X115 hx hZ hown (host := "") (Or.inl (own_w hw 25 rfl)) Via.refl e115 f118 f119 (Or.inr ⟨(own_w hw 21 rfl), rfl, hnm⟩) (own_w hw 7 rfl) (ty := (.array .byte)) (by decide) rfl rfl (g := (mkF m 54 #[.val (.ref a1), .val (.ref a2), .val (.int (0 : Int32)), .val (.int (3 : Int32)), .val .null, .val (.ref x108)] [(.ref x108), (.ref a1)])) rfl rfl (hb hby d3_54)
 have K121 : Keep h0 h120 [a1] := K116.wr W120 (Or.inl (List.mem_of_getElem? (i := 0) rfl))
 have N120 := Fr.snoc X120 N115 g1
 have F120 : Fld Z h120 a1 "java/lang/String" "value" "[B" (.ref x108) := f118.same W120
 have f122 := (f119.wr W120)
 have f123 := (F115.other W120 (Or.inr (slot_ne (Or.inr (own_w hw 22 rfl)) (Or.inr (own_w hw 21 rfl)) (by decide) (t := .byte) (t' := (.array .byte)) (by decide) (by decide))))
 have f124 := ((q107_V.other W115 (Ne.symm ne_a1_x108)).other W120 (Ne.symm ne_a1_x108))
 obtain ⟨fs, hr, hrun, hended, hW, hsame⟩ := X120.leave (v := none) (fun _ => rfl)
 refine ⟨_, _, (gc p117 st120) _ (X120.returnOut hx Bd.returns (hb hby d3_57) hr), hrun, hended, _, _, rfl, ?_, ⟨_, rfl⟩, hW, hsame.mono (by decide) (by decide)⟩
 show Q3_U3 Z a1 a2 k1 c0 c1 c2 cs1 fm h0 n0 _ T120.heap _
 rw [e120]
 exact ⟨x108, x109, rfl, N120, K121, f122, f123, F120, q107_g, (Nat.le_trans (Keep.refl h0 [a1]).1 q107_z), f124, ne_a1_x108⟩
theorem ef_rm2_U3 (m : MethodId) (a1 : Addr) (a2 : Addr) (k1 : ClassId) (c0 : Int32) (c1 : Int32) (c2 : Int32) (cs1 : Int32) (fm : Value) : entryFrame m #[(.ref a1), (.ref a2)] 2 = mkF m 0 #[.val (.ref a1), .val (.ref a2)] [] := by first | (simp [entryFrame, mkF, argsToLocals, Value.category]; done) | rfl
def Q2_U3 (Z : State) (a1 : Addr) (a2 : Addr) (k1 : ClassId) (c0 : Int32) (c1 : Int32) (c2 : Int32) (cs1 : Int32) (fm : Value) (h0 : Heap) (n0 : Nat) (v : Option Value) (h : Heap) (L : List Loc) : Prop := ∃ (b : Addr) (kb : ClassId), v = none ∧ Fr n0 L ∧ (Keep h0 h [a1]) ∧ (Exa Z h a1 "java/lang/String") ∧ (Fld Z h a1 "java/lang/String" "coder" "B" (.int (1 : Int32))) ∧ (Fld Z h a1 "java/lang/String" "value" "[B" (.ref b)) ∧ (n0 ≤ b) ∧ (h0.size ≤ b) ∧ (Arv Z h b kb .byte (6 : Int32) [(.int (own_x0 c0)), (.int (own_x8 c0)), (.int (own_x0 c1)), (.int (own_x8 c1)), (.int (own_x0 c2)), (.int (own_x8 c2))] (.int (0 : Int32))) ∧ (a1 ≠ b)
set_option maxRecDepth 65536 in
set_option maxHeartbeats 40000000 in
theorem rm2_U3 (l : Launch) (Z : State) (a0 : Array Value) (hw : ∀ d ∈ tables_1, d.before a0 Z = true) (ws : List Jvm.Cond) (a1 : Addr) (a2 : Addr) (k1 : ClassId) (c0 : Int32) (c1 : Int32) (c2 : Int32) (cs1 : Int32) (fm : Value) (h0 : Heap) (n0 : Nat) (Z0 : n0 ≤ h0.size) (O1 : Old Z n0 h0) (G : own_G Z cs1 fm) (F1 : Fld Z h0 a1 "java/lang/String" "coder" "B" (.int (0 : Int32))) (F2 : Fld Z h0 a1 "java/lang/String" "value" "[B" .null) (E1 : Exa Z h0 a1 "java/lang/String") (V1 : Arv Z h0 a2 k1 .char (3 : Int32) [(.int c0), (.int c1), (.int c2)] (.int (0 : Int32))) (ne : a1 ≠ a2) (g1 : n0 ≤ a1) (a0_ : ¬ (c0 < (0 : Int32))) (b0_ : ¬ ((65535 : Int32) < c0)) (a1_ : ¬ (c1 < (0 : Int32))) (b1_ : ¬ ((65535 : Int32) < c1)) (a2_ : ¬ (c2 < (0 : Int32))) (b2_ : ¬ ((65535 : Int32) < c2)) (big : ((255 : Int32) < c0) ∨ ((255 : Int32) < c1) ∨ ((255 : Int32) < c2)) :
  MetFree l (⟨"java/lang/String", "<init>", "([C)V"⟩ : MethodName) (head1 (Jvm.Cond.code (⟨"java/lang/String", "<init>", "([C)V"⟩ : MethodName) jdk_42_method_3_code 2 none :: ws) ({ frames := 5, cells := 2, slots := 9, locals := 74 } : Room)) (fun a U => a = #[(.ref a1), (.ref a2)] ∧ Z.Warmed39 U.vm ∧ U.heap = h0) (fun _ _ _ _ _ => True) (fun _ U o U' => ∃ v L, o = .returned v ∧ Q2_U3 Z a1 a2 k1 c0 c1 c2 cs1 fm h0 n0 v U'.heap L ∧ FrameEnd U o U' L ({ frames := 5, cells := 2, slots := 9, locals := 74 } : Room).cells ({ frames := 5, cells := 2, slots := 9, locals := 74 } : Room).slots) := by
 refine MetFree.of_bodySF pn2 hisR ?_
 intro p e s m args below meth c s₁ Bd hml0 hP hK
 obtain ⟨rfl, hZ, hh⟩ := hP
 have hx := Bd.exec
 have hby := Bd.bytes
 have hml : c.maxLocals = 2 := hml0
 have hown : s.vm.findClass "java/lang/String" = some m.cls := findClass_of_methodNamed Bd.named
 have hnm := (name_of_methodNamed Bd.named Bd.method).1
 have X0 : Stand p l e ({ frames := 5, cells := 2, slots := 9, locals := 74 } : Room) s m #[(.ref a1), (.ref a2)] below meth c s₁ [] 0 0 := Stand.of_body Bd
 have e0 : s₁.heap = h0 := by rw [← hh, Bd.state]; rfl
 have N0 := Fr.nil n0
 have p0 : Go p.tables e below (s₁.setTop (entryFrame m #[(.ref a1), (.ref a2)] 2)) (s₁.setTop (mkF m 0 #[.val (.ref a1), .val (.ref a2)] [])) := fun t_ k_ => castTop (ef_rm2_U3 m a1 a2 k1 c0 c1 c2 cs1 fm) k_
 have p101 : Go p.tables e below _ (s₁.setTop (mkF m 4 #[.val (.ref a1), .val (.ref a2)] [(.ref a2), (.int (0 : Int32)), (.ref a2), (.ref a1)])) := fun t_ k_ => p0 t_ (by
  refine XS.aloadN X0.here hx rfl (hb hby d2_0) rfl rfl ?_
  refine XS.aloadN X0.here hx rfl (hb hby d2_1) rfl rfl ?_
  refine XS.iconst X0.here hx rfl (hb hby d2_2) ?_
  refine XS.aloadN X0.here hx rfl (hb hby d2_3) rfl rfl ?_
  exact k_)
 obtain ⟨cl102, Ar102, -, S102, Ng102, -, -⟩ := id V1
 have p103 : Go p.tables e below _ (s₁.setTop (mkF m 6 #[.val (.ref a1), .val (.ref a2)] [.null, (.int (3 : Int32)), (.int (0 : Int32)), (.ref a2), (.ref a1)])) := fun t_ k_ => p101 t_ (by
  refine X0.arraylength hx (by rw [e0]; exact Ar102.1) (State.isArrayOf_alike hZ.alike Ar102.2.1) (g := (mkF m 4 #[.val (.ref a1), .val (.ref a2)] [(.ref a2), (.int (0 : Int32)), (.ref a2), (.ref a1)])) rfl rfl (hb hby d2_4) _ ?_
  rw [len_of S102 Ng102]
  show Steps p.tables e below (s₁.setTop (mkF m 5 #[.val (.ref a1), .val (.ref a2)] [(.int (3 : Int32)), (.int (0 : Int32)), (.ref a2), (.ref a1)])) _
  refine XS.aconstNull X0.here hx rfl (hb hby d2_5) ?_
  exact k_)
 obtain ⟨_, _, ⟨T104, L104, k104, n104⟩, -, X104, ⟨Lc104, hQ104, l104, y104, z104⟩, st104⟩ := X0.specialBack hx (y := (⟨"java/lang/String", "<init>", "([CIILjava/lang/Void;)V"⟩ : MethodName)) rfl hown (mvT hZ (own_w hw 12 rfl)) (mvT hZ (own_w hw 13 rfl)) (mvT hZ (own_w hw 15 rfl)) (by decide) (backOf (W := 0) (rm3_U3 l Z a0 hw [] a1 a2 k1 c0 c1 c2 cs1 fm h0 n0 (Nat.le_trans Z0 (Keep.refl h0 [a1]).1) O1 G F1 F2 E1 V1 ne g1 a0_ b0_ a1_ b1_ a2_ b2_ big) hZ (own_w hw 15 rfl) (own_w hw 8 rfl) (by decide) (by decide)) (g := (mkF m 6 #[.val (.ref a1), .val (.ref a2)] [.null, (.int (3 : Int32)), (.int (0 : Int32)), (.ref a2), (.ref a1)])) rfl (by rw [hml]; rfl) (Steps.refl _) (a := a1) (argsL := [(.ref a2), (.int (0 : Int32)), (.int (3 : Int32)), .null]) (rest := []) (lenOf pd10 rfl) rfl (by show 2 * 0 + _ ≤ _; exact Nat.le_of_eq rfl) (hb hby d2_6) (fun _ _ => ⟨rfl, e0, (by decide : 0 + 2 ≤ _), (by decide : 0 + 9 ≤ _)⟩)
 dsimp only [Pt.U, Pt.locs, Pt.cells, Pt.slots] at X104 l104 y104 z104 st104 hQ104
 subst l104 y104 z104
 obtain ⟨x105, x106, rfl, N104q, q104_K, q104_E, q104_c, q104_v, q104_g, q104_z, q104_V, q104_n⟩ := hQ104
 have N104 := Fr.app N0 N104q
 have K107 : Keep h0 T104.heap [a1] := (Keep.refl h0 [a1]).trans q104_K (allS (Or.inl (List.mem_of_getElem? (i := 0) rfl)) all0)
 have ne_a1_x105 : a1 ≠ x105 := Nat.ne_of_lt (Nat.lt_of_lt_of_le E1.lt q104_z)
 have ne_a2_x105 : a2 ≠ x105 := Nat.ne_of_lt (Nat.lt_of_lt_of_le V1.lt q104_z)
 obtain ⟨fs, hr, hrun, hended, hW, hsame⟩ := X104.leave (v := none) (fun _ => rfl)
 refine ⟨_, _, (gcT p103 st104) _ (X104.returnOut hx Bd.returns (hb hby d2_9) hr), hrun, hended, _, _, rfl, ?_, ⟨_, rfl⟩, hW, hsame.mono (by decide) (by decide)⟩
 show Q2_U3 Z a1 a2 k1 c0 c1 c2 cs1 fm h0 n0 _ T104.heap _
 exact ⟨x105, x106, rfl, N104, K107, q104_E, q104_c, q104_v, q104_g, (Nat.le_trans (Keep.refl h0 [a1]).1 q104_z), q104_V, q104_n⟩
theorem ef_rm8_L4 (m : MethodId) (a1 : Addr) (k1 : ClassId) (c0 : Int32) (c1 : Int32) (c2 : Int32) (c3 : Int32) : entryFrame m #[(.ref a1), (.int (0 : Int32)), (.int (4 : Int32))] 6 = mkF m 0 #[.val (.ref a1), .val (.int (0 : Int32)), .val (.int (4 : Int32)), .unset, .unset, .unset] [] := by first | (simp [entryFrame, mkF, argsToLocals, Value.category]; done) | rfl
def Q8_L4 (Z : State) (a1 : Addr) (k1 : ClassId) (c0 : Int32) (c1 : Int32) (c2 : Int32) (c3 : Int32) (h0 : Heap) (n0 : Nat) (v : Option Value) (h : Heap) (L : List Loc) : Prop := ∃ (b : Addr) (kb : ClassId), v = some (.ref b) ∧ Fr n0 L ∧ (Keep h0 h []) ∧ (n0 ≤ b) ∧ (h0.size ≤ b) ∧ (Arv Z h b kb .byte (4 : Int32) [(.int (own_xl c0)), (.int (own_xl c1)), (.int (own_xl c2)), (.int (own_xl c3))] (.int (0 : Int32)))
set_option maxRecDepth 65536 in
set_option maxHeartbeats 40000000 in
theorem rm8_L4 (l : Launch) (Z : State) (a0 : Array Value) (hw : ∀ d ∈ tables_1, d.before a0 Z = true) (ws : List Jvm.Cond) (a1 : Addr) (k1 : ClassId) (c0 : Int32) (c1 : Int32) (c2 : Int32) (c3 : Int32) (h0 : Heap) (n0 : Nat) (Z0 : n0 ≤ h0.size) (V1 : Arv Z h0 a1 k1 .char (4 : Int32) [(.int c0), (.int c1), (.int c2), (.int c3)] (.int (0 : Int32))) (l0 : ¬ ((255 : Int32) < c0)) (l1 : ¬ ((255 : Int32) < c1)) (l2 : ¬ ((255 : Int32) < c2)) (l3 : ¬ ((255 : Int32) < c3)) :
  MetFree l (⟨"java/lang/StringUTF16", "compress", "([CII)[B"⟩ : MethodName) (head1 (Jvm.Cond.code (⟨"java/lang/StringUTF16", "compress", "([CII)[B"⟩ : MethodName) jdk_52_method_16_code 6 (some (.array .byte)) :: ws) ({ frames := 1, cells := 1, slots := 4, locals := 18 } : Room)) (fun a U => a = #[(.ref a1), (.int (0 : Int32)), (.int (4 : Int32))] ∧ Z.Warmed39 U.vm ∧ U.heap = h0) (fun _ _ _ _ _ => True) (fun _ U o U' => ∃ v L, o = .returned v ∧ Q8_L4 Z a1 k1 c0 c1 c2 c3 h0 n0 v U'.heap L ∧ FrameEnd U o U' L ({ frames := 1, cells := 1, slots := 4, locals := 18 } : Room).cells ({ frames := 1, cells := 1, slots := 4, locals := 18 } : Room).slots) := by
 refine MetFree.of_bodySF pn8 hisR ?_
 intro p e s m args below meth c s₁ Bd hml0 hP hK
 obtain ⟨rfl, hZ, hh⟩ := hP
 have hx := Bd.exec
 have hby := Bd.bytes
 have hml : c.maxLocals = 6 := hml0
 have hown : s.vm.findClass "java/lang/StringUTF16" = some m.cls := findClass_of_methodNamed Bd.named
 have hnm := (name_of_methodNamed Bd.named Bd.method).1
 have X0 : Stand p l e ({ frames := 1, cells := 1, slots := 4, locals := 18 } : Room) s m #[(.ref a1), (.int (0 : Int32)), (.int (4 : Int32))] below meth c s₁ [] 0 0 := Stand.of_body Bd
 have e0 : s₁.heap = h0 := by rw [← hh, Bd.state]; rfl
 have N0 := Fr.nil n0
 have p0 : Go p.tables e below (s₁.setTop (entryFrame m #[(.ref a1), (.int (0 : Int32)), (.int (4 : Int32))] 6)) (s₁.setTop (mkF m 0 #[.val (.ref a1), .val (.int (0 : Int32)), .val (.int (4 : Int32)), .unset, .unset, .unset] [])) := fun t_ k_ => castTop (ef_rm8_L4 m a1 k1 c0 c1 c2 c3) k_
 have p101 : Go p.tables e below _ (s₁.setTop (mkF m 1 #[.val (.ref a1), .val (.int (0 : Int32)), .val (.int (4 : Int32)), .unset, .unset, .unset] [(.int (4 : Int32))])) := fun t_ k_ => p0 t_ (by
  refine XS.iloadN X0.here hx rfl (hb hby d8_0) rfl ?_
  exact k_)
 obtain ⟨T102, h102, k102, X102, e102, E102, A102, st102⟩ := newP X0 hx hZ (own_w hw 20 rfl) e0 (g := (mkF m 1 #[.val (.ref a1), .val (.int (0 : Int32)), .val (.int (4 : Int32)), .unset, .unset, .unset] [(.int (4 : Int32))])) rfl (hb hby d8_1) rfl (by decide) (cap := 4) (by decide) (by decide) (by decide) (by decide)
 obtain ⟨b102, g102⟩ : ∃ z, z = h0.size := ⟨_, rfl⟩
 rw [← g102] at A102 st102
 have ne_a1_b102 : a1 ≠ b102 := Nat.ne_of_lt (Nat.lt_of_lt_of_le V1.lt (Nat.le_of_eq g102.symm))
 have ge_b102 : n0 ≤ b102 := Nat.le_trans (Nat.le_trans Z0 (Keep.refl h0 []).1) (Nat.le_of_eq g102.symm)
 have sz_b102 : h0.size ≤ b102 := Nat.le_trans (Keep.refl h0 []).1 (Nat.le_of_eq g102.symm)
 have K103 : Keep h0 h102 [] := (Keep.refl h0 []).ext E102
 have V102 : Arv Z h102 b102 k102 .byte (4 : Int32) [(.int (0 : Int32)), (.int (0 : Int32)), (.int (0 : Int32)), (.int (0 : Int32))] (.int (0 : Int32)) := (Arv.new A102 (by decide)).pad (pad_rep [] (.int (0 : Int32)) 4)
 have p104 : Go p.tables e below _ (T102.setTop (mkF m 9 #[.val (.ref a1), .val (.int (0 : Int32)), .val (.int (4 : Int32)), .val (.ref b102), .unset, .unset] [(.int (4 : Int32)), (.int (0 : Int32)), (.ref b102), (.int (0 : Int32)), (.ref a1)])) := fun t_ k_ => (gc p101 st102) t_ (by
  refine XS.astoreN X102.here hx rfl (hb hby d8_3) rfl rfl (l' := #[.val (.ref a1), .val (.int (0 : Int32)), .val (.int (4 : Int32)), .val (.ref b102), .unset, .unset]) rfl ?_
  refine XS.aloadN X102.here hx rfl (hb hby d8_4) rfl rfl ?_
  refine XS.iloadN X102.here hx rfl (hb hby d8_5) rfl ?_
  refine XS.aloadN X102.here hx rfl (hb hby d8_6) rfl rfl ?_
  refine XS.iconst X102.here hx rfl (hb hby d8_7) ?_
  refine XS.iloadN X102.here hx rfl (hb hby d8_8) rfl ?_
  exact k_)
 have hl105 : ∀ j, j < 4 → ¬ ((255 : Int32) < own_at [c0, c1, c2, c3] j) := by
  intro j hj
  rcases (by omega : j = 0 ∨ j = 1 ∨ j = 2 ∨ j = 3) with rfl | rfl | rfl | rfl
  ·exact l0
  ·exact l1
  ·exact l2
  ·exact l3
 have f106 := (V1.ext E102)
 obtain ⟨_, _, ⟨T107, L107, k107, n107⟩, -, X107, ⟨Lc107, hQ107, l107, y107, z107⟩, st107⟩ := Jvm.LawKit.callS X102 hx (y := (⟨"java/lang/StringUTF16", "compress", "([CI[BII)I"⟩ : MethodName)) hown (mvT hZ (own_w hw 46 rfl)) (mvT hZ (own_w hw 47 rfl)) (mvT hZ (own_w hw 44 rfl)) (mvT hZ (own_w hw 48 rfl)) (by decide) (backOf (W := 0) (rm9_L l Z a0 hw [] a1 b102 k1 k102 [c0, c1, c2, c3] 4 4 h102 n0 (Nat.le_trans Z0 K103.1) f106 V102 (by decide) rfl hl105 ne_a1_b102 ge_b102) hZ (own_w hw 48 rfl) (own_w hw 44 rfl) (by decide) (by decide)) (g := (mkF m 9 #[.val (.ref a1), .val (.int (0 : Int32)), .val (.int (4 : Int32)), .val (.ref b102), .unset, .unset] [(.int (4 : Int32)), (.int (0 : Int32)), (.ref b102), (.int (0 : Int32)), (.ref a1)])) rfl (by rw [hml]; rfl) (argsL := [(.ref a1), (.int (0 : Int32)), (.ref b102), (.int (0 : Int32)), (.int (4 : Int32))]) (rest := []) (lenOf pd7 rfl) rfl (by show 2 * 0 + _ ≤ _; exact Nat.le_of_eq rfl) (hb hby d8_9) (fun _ _ => ⟨rfl, e102, (by decide : 1 + 0 ≤ _), (by decide : 4 + 0 ≤ _)⟩)
 dsimp only [Pt.U, Pt.locs, Pt.cells, Pt.slots] at X107 l107 y107 z107 st107 hQ107
 subst l107 y107 z107
 obtain ⟨rfl, N107q, q107_K, q107_V⟩ := hQ107
 have N107 := Fr.app N0 N107q
 have K108 : Keep h0 T107.heap [] := K103.trans q107_K (allS (Or.inr sz_b102) all0)
 have f109 : Arv Z T107.heap b102 k102 .byte (4 : Int32) [(.int (own_xl c0)), (.int (own_xl c1)), (.int (own_xl c2)), (.int (own_xl c3))] (.int (0 : Int32)) := q107_V
 have p110 : Go p.tables e below _ (T107.setTop (mkF m 12 #[.val (.ref a1), .val (.int (0 : Int32)), .val (.int (4 : Int32)), .val (.ref b102), .unset, .unset] [(.int (4 : Int32))])) := (gc p104 st107)
 have p111 : Go p.tables e below _ (T107.setTop (mkF m 58 #[.val (.ref a1), .val (.int (0 : Int32)), .val (.int (4 : Int32)), .val (.ref b102), .val (.int (4 : Int32)), .unset] [(.ref b102)])) := fun t_ k_ => p110 t_ (by
  refine XS.istore X107.here hx rfl (hb hby d8_12) rfl (l' := #[.val (.ref a1), .val (.int (0 : Int32)), .val (.int (4 : Int32)), .val (.ref b102), .val (.int (4 : Int32)), .unset]) rfl ?_
  refine XS.iload X107.here hx rfl (hb hby d8_14) rfl ?_
  refine XS.iloadN X107.here hx rfl (hb hby d8_16) rfl ?_
  refine XS.icmpYes X107.here hx rfl (pc0 := 17) (pc' := 57) rfl (hb hby d8_17) rfl (teq (by decide : ((4 : Int32) = (4 : Int32)))).1 (by decide) (by decide) ?_
  refine XS.aloadN X107.here hx rfl (hb hby d8_57) rfl rfl ?_
  exact k_)
 obtain ⟨fs, hr, hrun, hended, hW, hsame⟩ := X107.leave (v := some (.ref b102)) (fun h => by rw [Bd.returns] at h; cases h)
 refine ⟨_, _, p111 _ (retOut X107 hx (w := (.ref b102)) (i := .areturn) Bd.returns rfl (Or.inr (Or.inr (Or.inr (Or.inr ⟨rfl, rfl, rfl⟩)))) (hb hby d8_58) hr), hrun, hended, _, _, rfl, ?_, ⟨_, rfl⟩, hW, hsame.mono (by decide) (by decide)⟩
 show Q8_L4 Z a1 k1 c0 c1 c2 c3 h0 n0 _ T107.heap _
 exact ⟨b102, k102, rfl, N107, K108, ge_b102, sz_b102, f109⟩
theorem ef_rm10_L4 (m : MethodId) (a1 : Addr) (k1 : ClassId) (vs : List Value) : entryFrame m #[(.ref a1), (.int (4 : Int32))] 2 = mkF m 0 #[.val (.ref a1), .val (.int (4 : Int32))] [] := by first | (simp [entryFrame, mkF, argsToLocals, Value.category]; done) | rfl
def Q10_L4 (Z : State) (a1 : Addr) (k1 : ClassId) (vs : List Value) (h0 : Heap) (n0 : Nat) (v : Option Value) (h : Heap) (L : List Loc) : Prop := v = some (.int (0 : Int32)) ∧ Fr n0 L ∧ (h = h0)
set_option maxRecDepth 65536 in
set_option maxHeartbeats 40000000 in
theorem rm10_L4 (l : Launch) (Z : State) (a0 : Array Value) (hw : ∀ d ∈ tables_1, d.before a0 Z = true) (ws : List Jvm.Cond) (a1 : Addr) (k1 : ClassId) (vs : List Value) (h0 : Heap) (n0 : Nat) (Z0 : n0 ≤ h0.size) (V1 : Arv Z h0 a1 k1 .byte (4 : Int32) vs (.int (0 : Int32))) :
  MetFree l (⟨"java/lang/StringUTF16", "coderFromArrayLen", "([BI)B"⟩ : MethodName) (head1 (Jvm.Cond.code (⟨"java/lang/StringUTF16", "coderFromArrayLen", "([BI)B"⟩ : MethodName) jdk_52_method_15_code 2 (some .byte) :: ws) ({ frames := 0, cells := 0, slots := 0, locals := 0 } : Room)) (fun a U => a = #[(.ref a1), (.int (4 : Int32))] ∧ Z.Warmed39 U.vm ∧ U.heap = h0) (fun _ _ _ _ _ => True) (fun _ U o U' => ∃ v L, o = .returned v ∧ Q10_L4 Z a1 k1 vs h0 n0 v U'.heap L ∧ FrameEnd U o U' L ({ frames := 0, cells := 0, slots := 0, locals := 0 } : Room).cells ({ frames := 0, cells := 0, slots := 0, locals := 0 } : Room).slots) := by
 refine MetFree.of_bodySF pn10 hisR ?_
 intro p e s m args below meth c s₁ Bd hml0 hP hK
 obtain ⟨rfl, hZ, hh⟩ := hP
 have hx := Bd.exec
 have hby := Bd.bytes
 have hml : c.maxLocals = 2 := hml0
 have hown : s.vm.findClass "java/lang/StringUTF16" = some m.cls := findClass_of_methodNamed Bd.named
 have hnm := (name_of_methodNamed Bd.named Bd.method).1
 have X0 : Stand p l e ({ frames := 0, cells := 0, slots := 0, locals := 0 } : Room) s m #[(.ref a1), (.int (4 : Int32))] below meth c s₁ [] 0 0 := Stand.of_body Bd
 have e0 : s₁.heap = h0 := by rw [← hh, Bd.state]; rfl
 have N0 := Fr.nil n0
 have p0 : Go p.tables e below (s₁.setTop (entryFrame m #[(.ref a1), (.int (4 : Int32))] 2)) (s₁.setTop (mkF m 0 #[.val (.ref a1), .val (.int (4 : Int32))] [])) := fun t_ k_ => castTop (ef_rm10_L4 m a1 k1 vs) k_
 have p101 : Go p.tables e below _ (s₁.setTop (mkF m 2 #[.val (.ref a1), .val (.int (4 : Int32))] [(.ref a1), (.int (4 : Int32))])) := fun t_ k_ => p0 t_ (by
  refine XS.iloadN X0.here hx rfl (hb hby d10_0) rfl ?_
  refine XS.aloadN X0.here hx rfl (hb hby d10_1) rfl rfl ?_
  exact k_)
 obtain ⟨cl102, Ar102, -, S102, Ng102, -, -⟩ := id V1
 have p103 : Go p.tables e below _ (s₁.setTop (mkF m 8 #[.val (.ref a1), .val (.int (4 : Int32))] [(.int (0 : Int32))])) := fun t_ k_ => p101 t_ (by
  refine X0.arraylength hx (by rw [e0]; exact Ar102.1) (State.isArrayOf_alike hZ.alike Ar102.2.1) (g := (mkF m 2 #[.val (.ref a1), .val (.int (4 : Int32))] [(.ref a1), (.int (4 : Int32))])) rfl rfl (hb hby d10_2) _ ?_
  rw [len_of S102 Ng102]
  show Steps p.tables e below (s₁.setTop (mkF m 3 #[.val (.ref a1), .val (.int (4 : Int32))] [(.int (4 : Int32)), (.int (4 : Int32))])) _
  refine XS.isub X0.here hx rfl (hb hby d10_3) rfl ?_
  refine XS.bipush X0.here hx rfl (hb hby d10_4) ?_
  refine XS.iushr X0.here hx rfl (hb hby d10_6) rfl ?_
  refine XS.i2b X0.here hx rfl (hb hby d10_7) rfl ?_
  exact k_)
 obtain ⟨fs, hr, hrun, hended, hW, hsame⟩ := X0.leave (v := some (.int (0 : Int32))) (fun h => by rw [Bd.returns] at h; cases h)
 refine ⟨_, _, p103 _ (retN X0 hx (t := .byte) Bd.returns (by simp) (hb hby d10_8) hr), hrun, hended, _, _, rfl, ?_, ⟨_, rfl⟩, hW, hsame.mono (by decide) (by decide)⟩
 show Q10_L4 Z a1 k1 vs h0 n0 _ s₁.heap _
 rw [e0]
 exact ⟨rfl, N0, rfl⟩
theorem ef_rm3_L4 (m : MethodId) (a1 : Addr) (a2 : Addr) (k1 : ClassId) (c0 : Int32) (c1 : Int32) (c2 : Int32) (c3 : Int32) (cs1 : Int32) (fm : Value) : entryFrame m #[(.ref a1), (.ref a2), (.int (0 : Int32)), (.int (4 : Int32)), .null] 6 = mkF m 0 #[.val (.ref a1), .val (.ref a2), .val (.int (0 : Int32)), .val (.int (4 : Int32)), .val .null, .unset] [] := by first | (simp [entryFrame, mkF, argsToLocals, Value.category]; done) | rfl
def Q3_L4 (Z : State) (a1 : Addr) (a2 : Addr) (k1 : ClassId) (c0 : Int32) (c1 : Int32) (c2 : Int32) (c3 : Int32) (cs1 : Int32) (fm : Value) (h0 : Heap) (n0 : Nat) (v : Option Value) (h : Heap) (L : List Loc) : Prop := ∃ (b : Addr) (kb : ClassId), v = none ∧ Fr n0 L ∧ (Keep h0 h [a1]) ∧ (Exa Z h a1 "java/lang/String") ∧ (Fld Z h a1 "java/lang/String" "coder" "B" (.int (0 : Int32))) ∧ (Fld Z h a1 "java/lang/String" "value" "[B" (.ref b)) ∧ (n0 ≤ b) ∧ (h0.size ≤ b) ∧ (Arv Z h b kb .byte (4 : Int32) [(.int (own_xl c0)), (.int (own_xl c1)), (.int (own_xl c2)), (.int (own_xl c3))] (.int (0 : Int32))) ∧ (a1 ≠ b)
set_option maxRecDepth 65536 in
set_option maxHeartbeats 40000000 in
theorem rm3_L4 (l : Launch) (Z : State) (a0 : Array Value) (hw : ∀ d ∈ tables_1, d.before a0 Z = true) (ws : List Jvm.Cond) (a1 : Addr) (a2 : Addr) (k1 : ClassId) (c0 : Int32) (c1 : Int32) (c2 : Int32) (c3 : Int32) (cs1 : Int32) (fm : Value) (h0 : Heap) (n0 : Nat) (Z0 : n0 ≤ h0.size) (O1 : Old Z n0 h0) (G : own_G Z cs1 fm) (F1 : Fld Z h0 a1 "java/lang/String" "coder" "B" (.int (0 : Int32))) (F2 : Fld Z h0 a1 "java/lang/String" "value" "[B" .null) (E1 : Exa Z h0 a1 "java/lang/String") (V1 : Arv Z h0 a2 k1 .char (4 : Int32) [(.int c0), (.int c1), (.int c2), (.int c3)] (.int (0 : Int32))) (ne : a1 ≠ a2) (g1 : n0 ≤ a1) (l0 : ¬ ((255 : Int32) < c0)) (l1 : ¬ ((255 : Int32) < c1)) (l2 : ¬ ((255 : Int32) < c2)) (l3 : ¬ ((255 : Int32) < c3)) :
  MetFree l (⟨"java/lang/String", "<init>", "([CIILjava/lang/Void;)V"⟩ : MethodName) (head1 (Jvm.Cond.code (⟨"java/lang/String", "<init>", "([CIILjava/lang/Void;)V"⟩ : MethodName) jdk_42_method_149_code 6 none :: ws) ({ frames := 2, cells := 1, slots := 4, locals := 35 } : Room)) (fun a U => a = #[(.ref a1), (.ref a2), (.int (0 : Int32)), (.int (4 : Int32)), .null] ∧ Z.Warmed39 U.vm ∧ U.heap = h0) (fun _ _ _ _ _ => True) (fun _ U o U' => ∃ v L, o = .returned v ∧ Q3_L4 Z a1 a2 k1 c0 c1 c2 c3 cs1 fm h0 n0 v U'.heap L ∧ FrameEnd U o U' L ({ frames := 2, cells := 1, slots := 4, locals := 35 } : Room).cells ({ frames := 2, cells := 1, slots := 4, locals := 35 } : Room).slots) := by
 refine MetFree.of_bodySF pn3 hisR ?_
 intro p e s m args below meth c s₁ Bd hml0 hP hK
 obtain ⟨rfl, hZ, hh⟩ := hP
 have hx := Bd.exec
 have hby := Bd.bytes
 have hml : c.maxLocals = 6 := hml0
 have hown : s.vm.findClass "java/lang/String" = some m.cls := findClass_of_methodNamed Bd.named
 have hnm := (name_of_methodNamed Bd.named Bd.method).1
 have X0 : Stand p l e ({ frames := 2, cells := 1, slots := 4, locals := 35 } : Room) s m #[(.ref a1), (.ref a2), (.int (0 : Int32)), (.int (4 : Int32)), .null] below meth c s₁ [] 0 0 := Stand.of_body Bd
 have e0 : s₁.heap = h0 := by rw [← hh, Bd.state]; rfl
 have N0 := Fr.nil n0
 have p0 : Go p.tables e below (s₁.setTop (entryFrame m #[(.ref a1), (.ref a2), (.int (0 : Int32)), (.int (4 : Int32)), .null] 6)) (s₁.setTop (mkF m 0 #[.val (.ref a1), .val (.ref a2), .val (.int (0 : Int32)), .val (.int (4 : Int32)), .val .null, .unset] [])) := fun t_ k_ => castTop (ef_rm3_L4 m a1 a2 k1 c0 c1 c2 c3 cs1 fm) k_
 have p101 : Go p.tables e below _ (s₁.setTop (mkF m 1 #[.val (.ref a1), .val (.ref a2), .val (.int (0 : Int32)), .val (.int (4 : Int32)), .val .null, .unset] [(.ref a1)])) := fun t_ k_ => p0 t_ (by
  refine XS.aloadN X0.here hx rfl (hb hby d3_0) rfl rfl ?_
  exact k_)
 obtain ⟨T102, X102, e102, st102⟩ := initO X0 hx hZ hown (own_w hw 16 rfl) (own_w hw 17 rfl) (own_w hw 18 rfl) e0 (g := (mkF m 1 #[.val (.ref a1), .val (.ref a2), .val (.int (0 : Int32)), .val (.int (4 : Int32)), .val .null, .unset] [(.ref a1)])) rfl (by rw [hml]; rfl) rfl (hb hby d3_1) (by decide) (W := 0) (by show 2 * 0 + _ ≤ _; exact Nat.le_of_eq rfl) (by decide)
 have p103 : Go p.tables e below _ (T102.setTop (mkF m 27 #[.val (.ref a1), .val (.ref a2), .val (.int (0 : Int32)), .val (.int (4 : Int32)), .val .null, .unset] [])) := fun t_ k_ => (gc p101 st102) t_ (by
  refine XS.iloadN X102.here hx rfl (hb hby d3_4) rfl ?_
  refine XS.ifYes X102.here hx rfl (pc0 := 5) (pc' := 27) rfl (hb hby d3_5) rfl ((if0 _ _).trans (feq (by decide : ¬ ((4 : Int32) = (0 : Int32)))).2) (by decide) (by decide) ?_
  exact k_)
 obtain ⟨T104, X104, e104, st104⟩ := getS2 X102 hx hZ hown (host := "") (Or.inl (own_w hw 41 rfl)) Via.refl e102 (G.1.ext O1.2) (g := (mkF m 27 #[.val (.ref a1), .val (.ref a2), .val (.int (0 : Int32)), .val (.int (4 : Int32)), .val .null, .unset] [])) rfl (hb hby d3_27)
 have c105 : ¬ (cs1 = (0 : Int32)) := G.2.1
 have p106 : Go p.tables e below _ (T104.setTop (mkF m 36 #[.val (.ref a1), .val (.ref a2), .val (.int (0 : Int32)), .val (.int (4 : Int32)), .val .null, .unset] [(.int (4 : Int32)), (.int (0 : Int32)), (.ref a2)])) := fun t_ k_ => (gc p103 st104) t_ (by
  refine XS.ifNo X104.here hx rfl (hb hby d3_30) rfl ((if0 _ _).trans (feq c105).1) ?_
  refine XS.aloadN X104.here hx rfl (hb hby d3_33) rfl rfl ?_
  refine XS.iloadN X104.here hx rfl (hb hby d3_34) rfl ?_
  refine XS.iloadN X104.here hx rfl (hb hby d3_35) rfl ?_
  exact k_)
 obtain ⟨_, _, ⟨T107, L107, k107, n107⟩, -, X107, ⟨Lc107, hQ107, l107, y107, z107⟩, st107⟩ := Jvm.LawKit.callS X104 hx (y := (⟨"java/lang/StringUTF16", "compress", "([CII)[B"⟩ : MethodName)) hown (mvT hZ (own_w hw 42 rfl)) (mvT hZ (own_w hw 43 rfl)) (mvT hZ (own_w hw 44 rfl)) (mvT hZ (own_w hw 45 rfl)) (by decide) (backOf (W := 0) (rm8_L4 l Z a0 hw [] a2 k1 c0 c1 c2 c3 h0 n0 (Nat.le_trans Z0 (Keep.refl h0 [a1]).1) V1 l0 l1 l2 l3) hZ (own_w hw 45 rfl) (own_w hw 44 rfl) (by decide) (by decide)) (g := (mkF m 36 #[.val (.ref a1), .val (.ref a2), .val (.int (0 : Int32)), .val (.int (4 : Int32)), .val .null, .unset] [(.int (4 : Int32)), (.int (0 : Int32)), (.ref a2)])) rfl (by rw [hml]; rfl) (argsL := [(.ref a2), (.int (0 : Int32)), (.int (4 : Int32))]) (rest := []) (lenOf pd8 rfl) rfl (by show 2 * 0 + _ ≤ _; exact Nat.le_of_eq rfl) (hb hby d3_36) (fun _ _ => ⟨rfl, e104, (by decide : 0 + 1 ≤ _), (by decide : 0 + 4 ≤ _)⟩)
 dsimp only [Pt.U, Pt.locs, Pt.cells, Pt.slots] at X107 l107 y107 z107 st107 hQ107
 subst l107 y107 z107
 obtain ⟨x108, x109, rfl, N107q, q107_K, q107_g, q107_z, q107_V⟩ := hQ107
 have N107 := Fr.app N0 N107q
 have K110 : Keep h0 T107.heap [a1] := (Keep.refl h0 [a1]).trans q107_K all0
 have ne_a1_x108 : a1 ≠ x108 := Nat.ne_of_lt (Nat.lt_of_lt_of_le E1.lt q107_z)
 have ne_a2_x108 : a2 ≠ x108 := Nat.ne_of_lt (Nat.lt_of_lt_of_le V1.lt q107_z)
 have p111 : Go p.tables e below _ (T107.setTop (mkF m 45 #[.val (.ref a1), .val (.ref a2), .val (.int (0 : Int32)), .val (.int (4 : Int32)), .val .null, .val (.ref x108)] [(.int (4 : Int32)), (.ref x108), (.ref a1)])) := fun t_ k_ => (gc p106 st107) t_ (by
  refine XS.astore X107.here hx rfl (hb hby d3_39) rfl rfl (l' := #[.val (.ref a1), .val (.ref a2), .val (.int (0 : Int32)), .val (.int (4 : Int32)), .val .null, .val (.ref x108)]) rfl ?_
  refine XS.aloadN X107.here hx rfl (hb hby d3_41) rfl rfl ?_
  refine XS.aload X107.here hx rfl (hb hby d3_42) rfl rfl ?_
  refine XS.iloadN X107.here hx rfl (hb hby d3_44) rfl ?_
  exact k_)
 obtain ⟨_, _, ⟨T112, L112, k112, n112⟩, -, X112, ⟨Lc112, hQ112, l112, y112, z112⟩, st112⟩ := Jvm.LawKit.callS X107 hx (y := (⟨"java/lang/StringUTF16", "coderFromArrayLen", "([BI)B"⟩ : MethodName)) hown (mvT hZ (own_w hw 49 rfl)) (mvT hZ (own_w hw 50 rfl)) (mvT hZ (own_w hw 44 rfl)) (mvT hZ (own_w hw 51 rfl)) (by decide) (backOf (W := 1) (rm10_L4 l Z a0 hw [] x108 x109 [(.int (own_xl c0)), (.int (own_xl c1)), (.int (own_xl c2)), (.int (own_xl c3))] T107.heap n0 (Nat.le_trans Z0 K110.1) q107_V) hZ (own_w hw 51 rfl) (own_w hw 44 rfl) (by decide) (by decide)) (g := (mkF m 45 #[.val (.ref a1), .val (.ref a2), .val (.int (0 : Int32)), .val (.int (4 : Int32)), .val .null, .val (.ref x108)] [(.int (4 : Int32)), (.ref x108), (.ref a1)])) rfl (by rw [hml]; rfl) (argsL := [(.ref x108), (.int (4 : Int32))]) (rest := [(.ref a1)]) (lenOf pd9 rfl) rfl (by show 2 * 0 + _ ≤ _; exact Nat.le_of_eq rfl) (hb hby d3_45) (fun _ _ => ⟨rfl, rfl, (by decide : 1 + 0 ≤ _), (by decide : 4 + 0 ≤ _)⟩)
 dsimp only [Pt.U, Pt.locs, Pt.cells, Pt.slots] at X112 l112 y112 z112 st112 hQ112
 subst l112 y112 z112
 obtain ⟨rfl, N112q, q112_hh⟩ := hQ112
 have N112 := Fr.app N107 N112q
 have f113 := (F1.keep q107_K nin0)
 have f114 := (E1.keep q107_K)
 obtain ⟨T115, h115, X115, e115, W115, st115⟩ := putFN X112 hx hZ hown (own_w hw 26 rfl) Via.refl q112_hh f113 f114 (Or.inr ⟨(own_w hw 22 rfl), rfl, hnm⟩) (own_w hw 7 rfl) (ty := .byte) (v' := (.int (0 : Int32))) (by decide) rfl (by decide) (g := (mkF m 48 #[.val (.ref a1), .val (.ref a2), .val (.int (0 : Int32)), .val (.int (4 : Int32)), .val .null, .val (.ref x108)] [(.int (0 : Int32)), (.ref a1)])) rfl rfl (hb hby d3_48)
 have K116 : Keep h0 h115 [a1] := K110.wr W115 (Or.inl (List.mem_of_getElem? (i := 0) rfl))
 have N115 := Fr.snoc X115 N112 g1
 have F115 : Fld Z h115 a1 "java/lang/String" "coder" "B" (.int (0 : Int32)) := f113.same W115
 have p117 : Go p.tables e below _ (T115.setTop (mkF m 54 #[.val (.ref a1), .val (.ref a2), .val (.int (0 : Int32)), .val (.int (4 : Int32)), .val .null, .val (.ref x108)] [(.ref x108), (.ref a1)])) := fun t_ k_ => (gc (gc p111 st112) st115) t_ (by
  refine XS.aloadN X115.here hx rfl (hb hby d3_51) rfl rfl ?_
  refine XS.aload X115.here hx rfl (hb hby d3_52) rfl rfl ?_
  exact k_)
 have f118 := ((F2.keep q107_K nin0).other W115 (Or.inr (slot_ne (Or.inr (own_w hw 21 rfl)) (Or.inr (own_w hw 22 rfl)) (by decide) (t := (.array .byte)) (t' := .byte) (by decide) (by decide))))
 have f119 := (f114.wr W115)
 obtain ⟨T120, h120, X120, e120, W120, st120⟩ := putF X115 hx hZ hown (host := "") (Or.inl (own_w hw 25 rfl)) Via.refl e115 f118 f119 (Or.inr ⟨(own_w hw 21 rfl), rfl, hnm⟩) (own_w hw 7 rfl) (ty := (.array .byte)) (by decide) rfl rfl (g := (mkF m 54 #[.val (.ref a1), .val (.ref a2), .val (.int (0 : Int32)), .val (.int (4 : Int32)), .val .null, .val (.ref x108)] [(.ref x108), (.ref a1)])) rfl rfl (hb hby d3_54)
 have K121 : Keep h0 h120 [a1] := K116.wr W120 (Or.inl (List.mem_of_getElem? (i := 0) rfl))
 have N120 := Fr.snoc X120 N115 g1
 have F120 : Fld Z h120 a1 "java/lang/String" "value" "[B" (.ref x108) := f118.same W120
 have f122 := (f119.wr W120)
 have f123 := (F115.other W120 (Or.inr (slot_ne (Or.inr (own_w hw 22 rfl)) (Or.inr (own_w hw 21 rfl)) (by decide) (t := .byte) (t' := (.array .byte)) (by decide) (by decide))))
 have f124 := ((q107_V.other W115 (Ne.symm ne_a1_x108)).other W120 (Ne.symm ne_a1_x108))
 obtain ⟨fs, hr, hrun, hended, hW, hsame⟩ := X120.leave (v := none) (fun _ => rfl)
 refine ⟨_, _, (gc p117 st120) _ (X120.returnOut hx Bd.returns (hb hby d3_57) hr), hrun, hended, _, _, rfl, ?_, ⟨_, rfl⟩, hW, hsame.mono (by decide) (by decide)⟩
 show Q3_L4 Z a1 a2 k1 c0 c1 c2 c3 cs1 fm h0 n0 _ T120.heap _
 rw [e120]
 exact ⟨x108, x109, rfl, N120, K121, f122, f123, F120, q107_g, (Nat.le_trans (Keep.refl h0 [a1]).1 q107_z), f124, ne_a1_x108⟩
theorem ef_rm2_L4 (m : MethodId) (a1 : Addr) (a2 : Addr) (k1 : ClassId) (c0 : Int32) (c1 : Int32) (c2 : Int32) (c3 : Int32) (cs1 : Int32) (fm : Value) : entryFrame m #[(.ref a1), (.ref a2)] 2 = mkF m 0 #[.val (.ref a1), .val (.ref a2)] [] := by first | (simp [entryFrame, mkF, argsToLocals, Value.category]; done) | rfl
def Q2_L4 (Z : State) (a1 : Addr) (a2 : Addr) (k1 : ClassId) (c0 : Int32) (c1 : Int32) (c2 : Int32) (c3 : Int32) (cs1 : Int32) (fm : Value) (h0 : Heap) (n0 : Nat) (v : Option Value) (h : Heap) (L : List Loc) : Prop := ∃ (b : Addr) (kb : ClassId), v = none ∧ Fr n0 L ∧ (Keep h0 h [a1]) ∧ (Exa Z h a1 "java/lang/String") ∧ (Fld Z h a1 "java/lang/String" "coder" "B" (.int (0 : Int32))) ∧ (Fld Z h a1 "java/lang/String" "value" "[B" (.ref b)) ∧ (n0 ≤ b) ∧ (h0.size ≤ b) ∧ (Arv Z h b kb .byte (4 : Int32) [(.int (own_xl c0)), (.int (own_xl c1)), (.int (own_xl c2)), (.int (own_xl c3))] (.int (0 : Int32))) ∧ (a1 ≠ b)
set_option maxRecDepth 65536 in
set_option maxHeartbeats 40000000 in
theorem rm2_L4 (l : Launch) (Z : State) (a0 : Array Value) (hw : ∀ d ∈ tables_1, d.before a0 Z = true) (ws : List Jvm.Cond) (a1 : Addr) (a2 : Addr) (k1 : ClassId) (c0 : Int32) (c1 : Int32) (c2 : Int32) (c3 : Int32) (cs1 : Int32) (fm : Value) (h0 : Heap) (n0 : Nat) (Z0 : n0 ≤ h0.size) (O1 : Old Z n0 h0) (G : own_G Z cs1 fm) (F1 : Fld Z h0 a1 "java/lang/String" "coder" "B" (.int (0 : Int32))) (F2 : Fld Z h0 a1 "java/lang/String" "value" "[B" .null) (E1 : Exa Z h0 a1 "java/lang/String") (V1 : Arv Z h0 a2 k1 .char (4 : Int32) [(.int c0), (.int c1), (.int c2), (.int c3)] (.int (0 : Int32))) (ne : a1 ≠ a2) (g1 : n0 ≤ a1) (l0 : ¬ ((255 : Int32) < c0)) (l1 : ¬ ((255 : Int32) < c1)) (l2 : ¬ ((255 : Int32) < c2)) (l3 : ¬ ((255 : Int32) < c3)) :
  MetFree l (⟨"java/lang/String", "<init>", "([C)V"⟩ : MethodName) (head1 (Jvm.Cond.code (⟨"java/lang/String", "<init>", "([C)V"⟩ : MethodName) jdk_42_method_3_code 2 none :: ws) ({ frames := 3, cells := 1, slots := 4, locals := 52 } : Room)) (fun a U => a = #[(.ref a1), (.ref a2)] ∧ Z.Warmed39 U.vm ∧ U.heap = h0) (fun _ _ _ _ _ => True) (fun _ U o U' => ∃ v L, o = .returned v ∧ Q2_L4 Z a1 a2 k1 c0 c1 c2 c3 cs1 fm h0 n0 v U'.heap L ∧ FrameEnd U o U' L ({ frames := 3, cells := 1, slots := 4, locals := 52 } : Room).cells ({ frames := 3, cells := 1, slots := 4, locals := 52 } : Room).slots) := by
 refine MetFree.of_bodySF pn2 hisR ?_
 intro p e s m args below meth c s₁ Bd hml0 hP hK
 obtain ⟨rfl, hZ, hh⟩ := hP
 have hx := Bd.exec
 have hby := Bd.bytes
 have hml : c.maxLocals = 2 := hml0
 have hown : s.vm.findClass "java/lang/String" = some m.cls := findClass_of_methodNamed Bd.named
 have hnm := (name_of_methodNamed Bd.named Bd.method).1
 have X0 : Stand p l e ({ frames := 3, cells := 1, slots := 4, locals := 52 } : Room) s m #[(.ref a1), (.ref a2)] below meth c s₁ [] 0 0 := Stand.of_body Bd
 have e0 : s₁.heap = h0 := by rw [← hh, Bd.state]; rfl
 have N0 := Fr.nil n0
 have p0 : Go p.tables e below (s₁.setTop (entryFrame m #[(.ref a1), (.ref a2)] 2)) (s₁.setTop (mkF m 0 #[.val (.ref a1), .val (.ref a2)] [])) := fun t_ k_ => castTop (ef_rm2_L4 m a1 a2 k1 c0 c1 c2 c3 cs1 fm) k_
 have p101 : Go p.tables e below _ (s₁.setTop (mkF m 4 #[.val (.ref a1), .val (.ref a2)] [(.ref a2), (.int (0 : Int32)), (.ref a2), (.ref a1)])) := fun t_ k_ => p0 t_ (by
  refine XS.aloadN X0.here hx rfl (hb hby d2_0) rfl rfl ?_
  refine XS.aloadN X0.here hx rfl (hb hby d2_1) rfl rfl ?_
  refine XS.iconst X0.here hx rfl (hb hby d2_2) ?_
  refine XS.aloadN X0.here hx rfl (hb hby d2_3) rfl rfl ?_
  exact k_)
 obtain ⟨cl102, Ar102, -, S102, Ng102, -, -⟩ := id V1
 have p103 : Go p.tables e below _ (s₁.setTop (mkF m 6 #[.val (.ref a1), .val (.ref a2)] [.null, (.int (4 : Int32)), (.int (0 : Int32)), (.ref a2), (.ref a1)])) := fun t_ k_ => p101 t_ (by
  refine X0.arraylength hx (by rw [e0]; exact Ar102.1) (State.isArrayOf_alike hZ.alike Ar102.2.1) (g := (mkF m 4 #[.val (.ref a1), .val (.ref a2)] [(.ref a2), (.int (0 : Int32)), (.ref a2), (.ref a1)])) rfl rfl (hb hby d2_4) _ ?_
  rw [len_of S102 Ng102]
  show Steps p.tables e below (s₁.setTop (mkF m 5 #[.val (.ref a1), .val (.ref a2)] [(.int (4 : Int32)), (.int (0 : Int32)), (.ref a2), (.ref a1)])) _
  refine XS.aconstNull X0.here hx rfl (hb hby d2_5) ?_
  exact k_)
 obtain ⟨_, _, ⟨T104, L104, k104, n104⟩, -, X104, ⟨Lc104, hQ104, l104, y104, z104⟩, st104⟩ := X0.specialBack hx (y := (⟨"java/lang/String", "<init>", "([CIILjava/lang/Void;)V"⟩ : MethodName)) rfl hown (mvT hZ (own_w hw 12 rfl)) (mvT hZ (own_w hw 13 rfl)) (mvT hZ (own_w hw 15 rfl)) (by decide) (backOf (W := 0) (rm3_L4 l Z a0 hw [] a1 a2 k1 c0 c1 c2 c3 cs1 fm h0 n0 (Nat.le_trans Z0 (Keep.refl h0 [a1]).1) O1 G F1 F2 E1 V1 ne g1 l0 l1 l2 l3) hZ (own_w hw 15 rfl) (own_w hw 8 rfl) (by decide) (by decide)) (g := (mkF m 6 #[.val (.ref a1), .val (.ref a2)] [.null, (.int (4 : Int32)), (.int (0 : Int32)), (.ref a2), (.ref a1)])) rfl (by rw [hml]; rfl) (Steps.refl _) (a := a1) (argsL := [(.ref a2), (.int (0 : Int32)), (.int (4 : Int32)), .null]) (rest := []) (lenOf pd10 rfl) rfl (by show 2 * 0 + _ ≤ _; exact Nat.le_of_eq rfl) (hb hby d2_6) (fun _ _ => ⟨rfl, e0, (by decide : 0 + 1 ≤ _), (by decide : 0 + 4 ≤ _)⟩)
 dsimp only [Pt.U, Pt.locs, Pt.cells, Pt.slots] at X104 l104 y104 z104 st104 hQ104
 subst l104 y104 z104
 obtain ⟨x105, x106, rfl, N104q, q104_K, q104_E, q104_c, q104_v, q104_g, q104_z, q104_V, q104_n⟩ := hQ104
 have N104 := Fr.app N0 N104q
 have K107 : Keep h0 T104.heap [a1] := (Keep.refl h0 [a1]).trans q104_K (allS (Or.inl (List.mem_of_getElem? (i := 0) rfl)) all0)
 have ne_a1_x105 : a1 ≠ x105 := Nat.ne_of_lt (Nat.lt_of_lt_of_le E1.lt q104_z)
 have ne_a2_x105 : a2 ≠ x105 := Nat.ne_of_lt (Nat.lt_of_lt_of_le V1.lt q104_z)
 obtain ⟨fs, hr, hrun, hended, hW, hsame⟩ := X104.leave (v := none) (fun _ => rfl)
 refine ⟨_, _, (gcT p103 st104) _ (X104.returnOut hx Bd.returns (hb hby d2_9) hr), hrun, hended, _, _, rfl, ?_, ⟨_, rfl⟩, hW, hsame.mono (by decide) (by decide)⟩
 show Q2_L4 Z a1 a2 k1 c0 c1 c2 c3 cs1 fm h0 n0 _ T104.heap _
 exact ⟨x105, x106, rfl, N104, K107, q104_E, q104_c, q104_v, q104_g, (Nat.le_trans (Keep.refl h0 [a1]).1 q104_z), q104_V, q104_n⟩
theorem ef_rm20_U4 (m : MethodId)  : entryFrame m #[(.int (4 : Int32))] 1 = mkF m 0 #[.val (.int (4 : Int32))] [] := by first | (simp [entryFrame, mkF, argsToLocals, Value.category]; done) | rfl
def Q20_U4 (Z : State)  (h0 : Heap) (n0 : Nat) (v : Option Value) (h : Heap) (L : List Loc) : Prop := v = some (.int (8 : Int32)) ∧ Fr n0 L ∧ (h = h0)
set_option maxRecDepth 65536 in
set_option maxHeartbeats 40000000 in
theorem rm20_U4 (l : Launch) (Z : State) (a0 : Array Value) (hw : ∀ d ∈ tables_1, d.before a0 Z = true) (ws : List Jvm.Cond)  (h0 : Heap) (n0 : Nat) (Z0 : n0 ≤ h0.size) :
  MetFree l (⟨"java/lang/StringUTF16", "newBytesLength", "(I)I"⟩ : MethodName) (head1 (Jvm.Cond.code (⟨"java/lang/StringUTF16", "newBytesLength", "(I)I"⟩ : MethodName) jdk_52_method_3_code 1 (some .int) :: ws) ({ frames := 0, cells := 0, slots := 0, locals := 0 } : Room)) (fun a U => a = #[(.int (4 : Int32))] ∧ Z.Warmed39 U.vm ∧ U.heap = h0) (fun _ _ _ _ _ => True) (fun _ U o U' => ∃ v L, o = .returned v ∧ Q20_U4 Z  h0 n0 v U'.heap L ∧ FrameEnd U o U' L ({ frames := 0, cells := 0, slots := 0, locals := 0 } : Room).cells ({ frames := 0, cells := 0, slots := 0, locals := 0 } : Room).slots) := by
 refine MetFree.of_bodySF pn20 hisR ?_
 intro p e s m args below meth c s₁ Bd hml0 hP hK
 obtain ⟨rfl, hZ, hh⟩ := hP
 have hx := Bd.exec
 have hby := Bd.bytes
 have hml : c.maxLocals = 1 := hml0
 have hown : s.vm.findClass "java/lang/StringUTF16" = some m.cls := findClass_of_methodNamed Bd.named
 have hnm := (name_of_methodNamed Bd.named Bd.method).1
 have X0 : Stand p l e ({ frames := 0, cells := 0, slots := 0, locals := 0 } : Room) s m #[(.int (4 : Int32))] below meth c s₁ [] 0 0 := Stand.of_body Bd
 have e0 : s₁.heap = h0 := by rw [← hh, Bd.state]; rfl
 have N0 := Fr.nil n0
 have p0 : Go p.tables e below (s₁.setTop (entryFrame m #[(.int (4 : Int32))] 1)) (s₁.setTop (mkF m 0 #[.val (.int (4 : Int32))] [])) := fun t_ k_ => castTop (ef_rm20_U4 m ) k_
 have p101 : Go p.tables e below _ (s₁.setTop (mkF m 58 #[.val (.int (4 : Int32))] [(.int (8 : Int32))])) := fun t_ k_ => p0 t_ (by
  refine XS.iloadN X0.here hx rfl (hb hby d20_0) rfl ?_
  refine XS.ifYes X0.here hx rfl (pc0 := 1) (pc' := 12) rfl (hb hby d20_1) rfl ((if0 _ _).trans (flt (by decide : ¬ ((4 : Int32) < (0 : Int32)))).2.1) (by decide) (by decide) ?_
  refine XS.iloadN X0.here hx rfl (hb hby d20_12) rfl ?_
  refine X0.ldcInt hx hown (mvT hZ (own_w hw 91 rfl)) (g := (mkF m 13 #[.val (.int (4 : Int32))] [(.int (4 : Int32))])) rfl (hb hby d20_13) _ ?_
  refine XS.icmpYes X0.here hx rfl (pc0 := 15) (pc' := 55) rfl (hb hby d20_15) rfl (tlt (by decide : ((4 : Int32) < (1073741823 : Int32)))).1 (by decide) (by decide) ?_
  refine XS.iloadN X0.here hx rfl (hb hby d20_55) rfl ?_
  refine XS.iconst X0.here hx rfl (hb hby d20_56) ?_
  refine XS.ishl X0.here hx rfl (hb hby d20_57) rfl ?_
  exact k_)
 obtain ⟨fs, hr, hrun, hended, hW, hsame⟩ := X0.leave (v := some (.int (8 : Int32))) (fun h => by rw [Bd.returns] at h; cases h)
 refine ⟨_, _, p101 _ (retI X0 hx Bd.returns (hb hby d20_58) hr), hrun, hended, _, _, rfl, ?_, ⟨_, rfl⟩, hW, hsame.mono (by decide) (by decide)⟩
 show Q20_U4 Z  h0 n0 _ s₁.heap _
 rw [e0]
 exact ⟨rfl, N0, rfl⟩
theorem ef_rm19_U4 (m : MethodId)  : entryFrame m #[(.int (4 : Int32))] 1 = mkF m 0 #[.val (.int (4 : Int32))] [] := by first | (simp [entryFrame, mkF, argsToLocals, Value.category]; done) | rfl
def Q19_U4 (Z : State)  (h0 : Heap) (n0 : Nat) (v : Option Value) (h : Heap) (L : List Loc) : Prop := ∃ (b : Addr) (kb : ClassId), v = some (.ref b) ∧ Fr n0 L ∧ (Keep h0 h []) ∧ (n0 ≤ b) ∧ (h0.size ≤ b) ∧ (Arv Z h b kb .byte (8 : Int32) [(.int (0 : Int32)), (.int (0 : Int32)), (.int (0 : Int32)), (.int (0 : Int32)), (.int (0 : Int32)), (.int (0 : Int32)), (.int (0 : Int32)), (.int (0 : Int32))] (.int (0 : Int32)))
set_option maxRecDepth 65536 in
set_option maxHeartbeats 40000000 in
theorem rm19_U4 (l : Launch) (Z : State) (a0 : Array Value) (hw : ∀ d ∈ tables_1, d.before a0 Z = true) (ws : List Jvm.Cond)  (h0 : Heap) (n0 : Nat) (Z0 : n0 ≤ h0.size) :
  MetFree l (⟨"java/lang/StringUTF16", "newBytesFor", "(I)[B"⟩ : MethodName) (head1 (Jvm.Cond.code (⟨"java/lang/StringUTF16", "newBytesFor", "(I)[B"⟩ : MethodName) jdk_52_method_2_code 1 (some (.array .byte)) :: ws) ({ frames := 1, cells := 1, slots := 8, locals := 12 } : Room)) (fun a U => a = #[(.int (4 : Int32))] ∧ Z.Warmed39 U.vm ∧ U.heap = h0) (fun _ _ _ _ _ => True) (fun _ U o U' => ∃ v L, o = .returned v ∧ Q19_U4 Z  h0 n0 v U'.heap L ∧ FrameEnd U o U' L ({ frames := 1, cells := 1, slots := 8, locals := 12 } : Room).cells ({ frames := 1, cells := 1, slots := 8, locals := 12 } : Room).slots) := by
 refine MetFree.of_bodySF pn19 hisR ?_
 intro p e s m args below meth c s₁ Bd hml0 hP hK
 obtain ⟨rfl, hZ, hh⟩ := hP
 have hx := Bd.exec
 have hby := Bd.bytes
 have hml : c.maxLocals = 1 := hml0
 have hown : s.vm.findClass "java/lang/StringUTF16" = some m.cls := findClass_of_methodNamed Bd.named
 have hnm := (name_of_methodNamed Bd.named Bd.method).1
 have X0 : Stand p l e ({ frames := 1, cells := 1, slots := 8, locals := 12 } : Room) s m #[(.int (4 : Int32))] below meth c s₁ [] 0 0 := Stand.of_body Bd
 have e0 : s₁.heap = h0 := by rw [← hh, Bd.state]; rfl
 have N0 := Fr.nil n0
 have p0 : Go p.tables e below (s₁.setTop (entryFrame m #[(.int (4 : Int32))] 1)) (s₁.setTop (mkF m 0 #[.val (.int (4 : Int32))] [])) := fun t_ k_ => castTop (ef_rm19_U4 m ) k_
 have p101 : Go p.tables e below _ (s₁.setTop (mkF m 1 #[.val (.int (4 : Int32))] [(.int (4 : Int32))])) := fun t_ k_ => p0 t_ (by
  refine XS.iloadN X0.here hx rfl (hb hby d19_0) rfl ?_
  exact k_)
 obtain ⟨_, _, ⟨T102, L102, k102, n102⟩, -, X102, ⟨Lc102, hQ102, l102, y102, z102⟩, st102⟩ := Jvm.LawKit.callS X0 hx (y := (⟨"java/lang/StringUTF16", "newBytesLength", "(I)I"⟩ : MethodName)) hown (mvT hZ (own_w hw 88 rfl)) (mvT hZ (own_w hw 89 rfl)) (mvT hZ (own_w hw 44 rfl)) (mvT hZ (own_w hw 90 rfl)) (by decide) (backOf (W := 0) (rm20_U4 l Z a0 hw []  h0 n0 (Nat.le_trans Z0 (Keep.refl h0 []).1) ) hZ (own_w hw 90 rfl) (own_w hw 44 rfl) (by decide) (by decide)) (g := (mkF m 1 #[.val (.int (4 : Int32))] [(.int (4 : Int32))])) rfl (by rw [hml]; rfl) (argsL := [(.int (4 : Int32))]) (rest := []) (lenOf pd11 rfl) rfl (by show 2 * 0 + _ ≤ _; exact Nat.le_of_eq rfl) (hb hby d19_1) (fun _ _ => ⟨rfl, e0, (by decide : 0 + 0 ≤ _), (by decide : 0 + 0 ≤ _)⟩)
 dsimp only [Pt.U, Pt.locs, Pt.cells, Pt.slots] at X102 l102 y102 z102 st102 hQ102
 subst l102 y102 z102
 obtain ⟨rfl, N102q, q102_hh⟩ := hQ102
 have N102 := Fr.app N0 N102q
 obtain ⟨T103, h103, k103, X103, e103, E103, A103, st103⟩ := newP X102 hx hZ (own_w hw 20 rfl) q102_hh (g := (mkF m 4 #[.val (.int (4 : Int32))] [(.int (8 : Int32))])) rfl (hb hby d19_4) rfl (by decide) (cap := 8) (by decide) (by decide) (by decide) (by decide)
 obtain ⟨b103, g103⟩ : ∃ z, z = h0.size := ⟨_, rfl⟩
 rw [← g103] at A103 st103
 have ge_b103 : n0 ≤ b103 := Nat.le_trans (Nat.le_trans Z0 (Keep.refl h0 []).1) (Nat.le_of_eq g103.symm)
 have sz_b103 : h0.size ≤ b103 := Nat.le_trans (Keep.refl h0 []).1 (Nat.le_of_eq g103.symm)
 have K104 : Keep h0 h103 [] := (Keep.refl h0 []).ext E103
 have V103 : Arv Z h103 b103 k103 .byte (8 : Int32) [(.int (0 : Int32)), (.int (0 : Int32)), (.int (0 : Int32)), (.int (0 : Int32)), (.int (0 : Int32)), (.int (0 : Int32)), (.int (0 : Int32)), (.int (0 : Int32))] (.int (0 : Int32)) := (Arv.new A103 (by decide)).pad (pad_rep [] (.int (0 : Int32)) 8)
 obtain ⟨fs, hr, hrun, hended, hW, hsame⟩ := X103.leave (v := some (.ref b103)) (fun h => by rw [Bd.returns] at h; cases h)
 refine ⟨_, _, (gc (gc p101 st102) st103) _ (retOut X103 hx (w := (.ref b103)) (i := .areturn) Bd.returns rfl (Or.inr (Or.inr (Or.inr (Or.inr ⟨rfl, rfl, rfl⟩)))) (hb hby d19_6) hr), hrun, hended, _, _, rfl, ?_, ⟨_, rfl⟩, hW, hsame.mono (by decide) (by decide)⟩
 show Q19_U4 Z  h0 n0 _ T103.heap _
 rw [e103]
 exact ⟨b103, k103, rfl, N102, K104, ge_b103, sz_b103, V103⟩
theorem ef_rm18_U4 (m : MethodId) (a1 : Addr) (k1 : ClassId) (c0 : Int32) (c1 : Int32) (c2 : Int32) (c3 : Int32) (cs1 : Int32) (fm : Value) : entryFrame m #[(.ref a1), (.int (0 : Int32)), (.int (4 : Int32))] 5 = mkF m 0 #[.val (.ref a1), .val (.int (0 : Int32)), .val (.int (4 : Int32)), .unset, .unset] [] := by first | (simp [entryFrame, mkF, argsToLocals, Value.category]; done) | rfl
def Q18_U4 (Z : State) (a1 : Addr) (k1 : ClassId) (c0 : Int32) (c1 : Int32) (c2 : Int32) (c3 : Int32) (cs1 : Int32) (fm : Value) (h0 : Heap) (n0 : Nat) (v : Option Value) (h : Heap) (L : List Loc) : Prop := ∃ (b : Addr) (kb : ClassId), v = some (.ref b) ∧ Fr n0 L ∧ (Keep h0 h []) ∧ (n0 ≤ b) ∧ (h0.size ≤ b) ∧ (Arv Z h b kb .byte (8 : Int32) [(.int (own_x0 c0)), (.int (own_x8 c0)), (.int (own_x0 c1)), (.int (own_x8 c1)), (.int (own_x0 c2)), (.int (own_x8 c2)), (.int (own_x0 c3)), (.int (own_x8 c3))] (.int (0 : Int32)))
set_option maxRecDepth 65536 in
set_option maxHeartbeats 40000000 in
theorem rm18_U4 (l : Launch) (Z : State) (a0 : Array Value) (hw : ∀ d ∈ tables_1, d.before a0 Z = true) (ws : List Jvm.Cond) (a1 : Addr) (k1 : ClassId) (c0 : Int32) (c1 : Int32) (c2 : Int32) (c3 : Int32) (cs1 : Int32) (fm : Value) (h0 : Heap) (n0 : Nat) (Z0 : n0 ≤ h0.size) (O1 : Old Z n0 h0) (G : own_G Z cs1 fm) (V1 : Arv Z h0 a1 k1 .char (4 : Int32) [(.int c0), (.int c1), (.int c2), (.int c3)] (.int (0 : Int32))) :
  MetFree l (⟨"java/lang/StringUTF16", "toBytes", "([CII)[B"⟩ : MethodName) (head1 (Jvm.Cond.code (⟨"java/lang/StringUTF16", "toBytes", "([CII)[B"⟩ : MethodName) jdk_52_method_14_code 5 (some (.array .byte)) :: ws) ({ frames := 2, cells := 1, slots := 8, locals := 24 } : Room)) (fun a U => a = #[(.ref a1), (.int (0 : Int32)), (.int (4 : Int32))] ∧ Z.Warmed39 U.vm ∧ U.heap = h0) (fun _ _ _ _ _ => True) (fun _ U o U' => ∃ v L, o = .returned v ∧ Q18_U4 Z a1 k1 c0 c1 c2 c3 cs1 fm h0 n0 v U'.heap L ∧ FrameEnd U o U' L ({ frames := 2, cells := 1, slots := 8, locals := 24 } : Room).cells ({ frames := 2, cells := 1, slots := 8, locals := 24 } : Room).slots) := by
 refine MetFree.of_bodySF pn18 hisR ?_
 intro p e s m args below meth c s₁ Bd hml0 hP hK
 obtain ⟨rfl, hZ, hh⟩ := hP
 have hx := Bd.exec
 have hby := Bd.bytes
 have hml : c.maxLocals = 5 := hml0
 have hown : s.vm.findClass "java/lang/StringUTF16" = some m.cls := findClass_of_methodNamed Bd.named
 have hnm := (name_of_methodNamed Bd.named Bd.method).1
 have X0 : Stand p l e ({ frames := 2, cells := 1, slots := 8, locals := 24 } : Room) s m #[(.ref a1), (.int (0 : Int32)), (.int (4 : Int32))] below meth c s₁ [] 0 0 := Stand.of_body Bd
 have e0 : s₁.heap = h0 := by rw [← hh, Bd.state]; rfl
 have N0 := Fr.nil n0
 have p0 : Go p.tables e below (s₁.setTop (entryFrame m #[(.ref a1), (.int (0 : Int32)), (.int (4 : Int32))] 5)) (s₁.setTop (mkF m 0 #[.val (.ref a1), .val (.int (0 : Int32)), .val (.int (4 : Int32)), .unset, .unset] [])) := fun t_ k_ => castTop (ef_rm18_U4 m a1 k1 c0 c1 c2 c3 cs1 fm) k_
 have p101 : Go p.tables e below _ (s₁.setTop (mkF m 1 #[.val (.ref a1), .val (.int (0 : Int32)), .val (.int (4 : Int32)), .unset, .unset] [(.int (4 : Int32))])) := fun t_ k_ => p0 t_ (by
  refine XS.iloadN X0.here hx rfl (hb hby d18_0) rfl ?_
  exact k_)
 obtain ⟨_, _, ⟨T102, L102, k102, n102⟩, -, X102, ⟨Lc102, hQ102, l102, y102, z102⟩, st102⟩ := Jvm.LawKit.callS X0 hx (y := (⟨"java/lang/StringUTF16", "newBytesFor", "(I)[B"⟩ : MethodName)) hown (mvT hZ (own_w hw 85 rfl)) (mvT hZ (own_w hw 86 rfl)) (mvT hZ (own_w hw 44 rfl)) (mvT hZ (own_w hw 87 rfl)) (by decide) (backOf (W := 0) (rm19_U4 l Z a0 hw []  h0 n0 (Nat.le_trans Z0 (Keep.refl h0 []).1) ) hZ (own_w hw 87 rfl) (own_w hw 44 rfl) (by decide) (by decide)) (g := (mkF m 1 #[.val (.ref a1), .val (.int (0 : Int32)), .val (.int (4 : Int32)), .unset, .unset] [(.int (4 : Int32))])) rfl (by rw [hml]; rfl) (argsL := [(.int (4 : Int32))]) (rest := []) (lenOf pd12 rfl) rfl (by show 2 * 0 + _ ≤ _; exact Nat.le_of_eq rfl) (hb hby d18_1) (fun _ _ => ⟨rfl, e0, (by decide : 0 + 1 ≤ _), (by decide : 0 + 8 ≤ _)⟩)
 dsimp only [Pt.U, Pt.locs, Pt.cells, Pt.slots] at X102 l102 y102 z102 st102 hQ102
 subst l102 y102 z102
 obtain ⟨x103, x104, rfl, N102q, q102_K, q102_g, q102_z, q102_V⟩ := hQ102
 have N102 := Fr.app N0 N102q
 have K105 : Keep h0 T102.heap [] := (Keep.refl h0 []).trans q102_K all0
 have ne_a1_x103 : a1 ≠ x103 := Nat.ne_of_lt (Nat.lt_of_lt_of_le V1.lt q102_z)
 have p106 : Go p.tables e below _ (T102.setTop (mkF m 19 #[.val (.ref a1), .val (.int (0 : Int32)), .val (.int (4 : Int32)), .val (.ref x103), .val (.int (0 : Int32))] [(.int (0 : Int32)), (.ref a1), (.int (0 : Int32)), (.ref x103)])) := fun t_ k_ => (gc p101 st102) t_ (by
  refine XS.astoreN X102.here hx rfl (hb hby d18_4) rfl rfl (l' := #[.val (.ref a1), .val (.int (0 : Int32)), .val (.int (4 : Int32)), .val (.ref x103), .unset]) rfl ?_
  refine XS.iconst X102.here hx rfl (hb hby d18_5) ?_
  refine XS.istore X102.here hx rfl (hb hby d18_6) rfl (l' := #[.val (.ref a1), .val (.int (0 : Int32)), .val (.int (4 : Int32)), .val (.ref x103), .val (.int (0 : Int32))]) rfl ?_
  refine XS.iload X102.here hx rfl (hb hby d18_8) rfl ?_
  refine XS.iloadN X102.here hx rfl (hb hby d18_10) rfl ?_
  refine XS.icmpNo X102.here hx rfl (hb hby d18_11) rfl (tlt (by decide : ((0 : Int32) < (4 : Int32)))).2.1 ?_
  refine XS.aloadN X102.here hx rfl (hb hby d18_14) rfl rfl ?_
  refine XS.iload X102.here hx rfl (hb hby d18_15) rfl ?_
  refine XS.aloadN X102.here hx rfl (hb hby d18_17) rfl rfl ?_
  refine XS.iloadN X102.here hx rfl (hb hby d18_18) rfl ?_
  exact k_)
 have f108 := (V1.keep q102_K nin0)
 obtain ⟨cl107, Ar107, q107, S107, Ng107, H107, G107⟩ := id f108
 have hin107 := inb_of S107 (j := (0 : Int32)) ⟨by decide, by decide⟩
 have hat107 := H107.at (v := (.int c0)) hin107 rfl
 have p109 : Go p.tables e below _ (T102.setTop (mkF m 20 #[.val (.ref a1), .val (.int (0 : Int32)), .val (.int (4 : Int32)), .val (.ref x103), .val (.int (0 : Int32))] [(.int c0), (.int (0 : Int32)), (.ref x103)])) := fun t_ k_ => p106 t_ (by
  refine X102.caload hx (j := (0 : Int32)) (v := (.int c0)) Ar107.1 (State.isArrayOf_alike hZ.alike Ar107.2.1) Ar107.2.2 hin107 hat107 (g := (mkF m 19 #[.val (.ref a1), .val (.int (0 : Int32)), .val (.int (4 : Int32)), .val (.ref x103), .val (.int (0 : Int32))] [(.int (0 : Int32)), (.ref a1), (.int (0 : Int32)), (.ref x103)])) rfl rfl (hb hby d18_19) _ ?_
  exact k_)
 have f110 := (O1.keep q102_K all0)
 obtain ⟨_, _, ⟨T111, L111, k111, n111⟩, -, X111, ⟨Lc111, hQ111, l111, y111, z111⟩, st111⟩ := Jvm.LawKit.callS X102 hx (y := (⟨"java/lang/StringUTF16", "putChar", "([BII)V"⟩ : MethodName)) hown (mvT hZ (own_w hw 92 rfl)) (mvT hZ (own_w hw 93 rfl)) (mvT hZ (own_w hw 44 rfl)) (mvT hZ (own_w hw 94 rfl)) (by decide) (backOf (W := 0) (rm21 l Z a0 hw [] x103 (0 : Int32) c0 x104 (8 : Int32) [(.int (0 : Int32)), (.int (0 : Int32)), (.int (0 : Int32)), (.int (0 : Int32)), (.int (0 : Int32)), (.int (0 : Int32)), (.int (0 : Int32)), (.int (0 : Int32))] 0 cs1 fm T102.heap n0 (Nat.le_trans Z0 K105.1) f110 G q102_V (by decide) (by decide) rfl rfl (Nat.le_of_ble_eq_true rfl) (Nat.le_of_ble_eq_true rfl) q102_g) hZ (own_w hw 94 rfl) (own_w hw 44 rfl) (by decide) (by decide)) (g := (mkF m 20 #[.val (.ref a1), .val (.int (0 : Int32)), .val (.int (4 : Int32)), .val (.ref x103), .val (.int (0 : Int32))] [(.int c0), (.int (0 : Int32)), (.ref x103)])) rfl (by rw [hml]; rfl) (argsL := [(.ref x103), (.int (0 : Int32)), (.int c0)]) (rest := []) (lenOf pd13 rfl) rfl (by show 2 * 0 + _ ≤ _; exact Nat.le_of_eq rfl) (hb hby d18_20) (fun _ _ => ⟨rfl, rfl, (by decide : 1 + 0 ≤ _), (by decide : 8 + 0 ≤ _)⟩)
 dsimp only [Pt.U, Pt.locs, Pt.cells, Pt.slots] at X111 l111 y111 z111 st111 hQ111
 subst l111 y111 z111
 obtain ⟨rfl, N111q, q111_K, q111_V⟩ := hQ111
 have N111 := Fr.app N102 N111q
 have K112 : Keep h0 T111.heap [] := K105.trans q111_K (allS (Or.inr (Nat.le_trans (Keep.refl h0 []).1 q102_z)) all0)
 have f113 : Arv Z T111.heap x103 x104 .byte (8 : Int32) [(.int (own_x0 c0)), (.int (own_x8 c0)), (.int (0 : Int32)), (.int (0 : Int32)), (.int (0 : Int32)), (.int (0 : Int32)), (.int (0 : Int32)), (.int (0 : Int32))] (.int (0 : Int32)) := q111_V
 have p114 : Go p.tables e below _ (T111.setTop (mkF m 19 #[.val (.ref a1), .val (.int (1 : Int32)), .val (.int (4 : Int32)), .val (.ref x103), .val (.int (1 : Int32))] [(.int (1 : Int32)), (.ref a1), (.int (1 : Int32)), (.ref x103)])) := fun t_ k_ => (gc p109 st111) t_ (by
  refine XS.iinc X111.here hx rfl (hb hby d18_23) rfl (l' := #[.val (.ref a1), .val (.int (1 : Int32)), .val (.int (4 : Int32)), .val (.ref x103), .val (.int (0 : Int32))]) rfl ?_
  refine XS.iinc X111.here hx rfl (hb hby d18_26) rfl (l' := #[.val (.ref a1), .val (.int (1 : Int32)), .val (.int (4 : Int32)), .val (.ref x103), .val (.int (1 : Int32))]) rfl ?_
  refine XS.goto X111.here hx rfl (pc0 := 29) (pc' := 8) rfl (hb hby d18_29) (by decide) (by decide) ?_
  refine XS.iload X111.here hx rfl (hb hby d18_8) rfl ?_
  refine XS.iloadN X111.here hx rfl (hb hby d18_10) rfl ?_
  refine XS.icmpNo X111.here hx rfl (hb hby d18_11) rfl (tlt (by decide : ((1 : Int32) < (4 : Int32)))).2.1 ?_
  refine XS.aloadN X111.here hx rfl (hb hby d18_14) rfl rfl ?_
  refine XS.iload X111.here hx rfl (hb hby d18_15) rfl ?_
  refine XS.aloadN X111.here hx rfl (hb hby d18_17) rfl rfl ?_
  refine XS.iloadN X111.here hx rfl (hb hby d18_18) rfl ?_
  exact k_)
 have f116 := (f108.keep q111_K (ninS ne_a1_x103 nin0))
 obtain ⟨cl115, Ar115, q115, S115, Ng115, H115, G115⟩ := id f116
 have hin115 := inb_of S115 (j := (1 : Int32)) ⟨by decide, by decide⟩
 have hat115 := H115.at (v := (.int c1)) hin115 rfl
 have p117 : Go p.tables e below _ (T111.setTop (mkF m 20 #[.val (.ref a1), .val (.int (1 : Int32)), .val (.int (4 : Int32)), .val (.ref x103), .val (.int (1 : Int32))] [(.int c1), (.int (1 : Int32)), (.ref x103)])) := fun t_ k_ => p114 t_ (by
  refine X111.caload hx (j := (1 : Int32)) (v := (.int c1)) Ar115.1 (State.isArrayOf_alike hZ.alike Ar115.2.1) Ar115.2.2 hin115 hat115 (g := (mkF m 19 #[.val (.ref a1), .val (.int (1 : Int32)), .val (.int (4 : Int32)), .val (.ref x103), .val (.int (1 : Int32))] [(.int (1 : Int32)), (.ref a1), (.int (1 : Int32)), (.ref x103)])) rfl rfl (hb hby d18_19) _ ?_
  exact k_)
 have f118 := (f110.keep q111_K (allS q102_g all0))
 obtain ⟨_, _, ⟨T119, L119, k119, n119⟩, -, X119, ⟨Lc119, hQ119, l119, y119, z119⟩, st119⟩ := Jvm.LawKit.callS X111 hx (y := (⟨"java/lang/StringUTF16", "putChar", "([BII)V"⟩ : MethodName)) hown (mvT hZ (own_w hw 92 rfl)) (mvT hZ (own_w hw 93 rfl)) (mvT hZ (own_w hw 44 rfl)) (mvT hZ (own_w hw 94 rfl)) (by decide) (backOf (W := 0) (rm21 l Z a0 hw [] x103 (1 : Int32) c1 x104 (8 : Int32) [(.int (own_x0 c0)), (.int (own_x8 c0)), (.int (0 : Int32)), (.int (0 : Int32)), (.int (0 : Int32)), (.int (0 : Int32)), (.int (0 : Int32)), (.int (0 : Int32))] 2 cs1 fm T111.heap n0 (Nat.le_trans Z0 K112.1) f118 G f113 (by decide) (by decide) rfl rfl (Nat.le_of_ble_eq_true rfl) (Nat.le_of_ble_eq_true rfl) q102_g) hZ (own_w hw 94 rfl) (own_w hw 44 rfl) (by decide) (by decide)) (g := (mkF m 20 #[.val (.ref a1), .val (.int (1 : Int32)), .val (.int (4 : Int32)), .val (.ref x103), .val (.int (1 : Int32))] [(.int c1), (.int (1 : Int32)), (.ref x103)])) rfl (by rw [hml]; rfl) (argsL := [(.ref x103), (.int (1 : Int32)), (.int c1)]) (rest := []) (lenOf pd13 rfl) rfl (by show 2 * 0 + _ ≤ _; exact Nat.le_of_eq rfl) (hb hby d18_20) (fun _ _ => ⟨rfl, rfl, (by decide : 1 + 0 ≤ _), (by decide : 8 + 0 ≤ _)⟩)
 dsimp only [Pt.U, Pt.locs, Pt.cells, Pt.slots] at X119 l119 y119 z119 st119 hQ119
 subst l119 y119 z119
 obtain ⟨rfl, N119q, q119_K, q119_V⟩ := hQ119
 have N119 := Fr.app N111 N119q
 have K120 : Keep h0 T119.heap [] := K112.trans q119_K (allS (Or.inr (Nat.le_trans (Keep.refl h0 []).1 q102_z)) all0)
 have f121 : Arv Z T119.heap x103 x104 .byte (8 : Int32) [(.int (own_x0 c0)), (.int (own_x8 c0)), (.int (own_x0 c1)), (.int (own_x8 c1)), (.int (0 : Int32)), (.int (0 : Int32)), (.int (0 : Int32)), (.int (0 : Int32))] (.int (0 : Int32)) := q119_V
 have p122 : Go p.tables e below _ (T119.setTop (mkF m 19 #[.val (.ref a1), .val (.int (2 : Int32)), .val (.int (4 : Int32)), .val (.ref x103), .val (.int (2 : Int32))] [(.int (2 : Int32)), (.ref a1), (.int (2 : Int32)), (.ref x103)])) := fun t_ k_ => (gc p117 st119) t_ (by
  refine XS.iinc X119.here hx rfl (hb hby d18_23) rfl (l' := #[.val (.ref a1), .val (.int (2 : Int32)), .val (.int (4 : Int32)), .val (.ref x103), .val (.int (1 : Int32))]) rfl ?_
  refine XS.iinc X119.here hx rfl (hb hby d18_26) rfl (l' := #[.val (.ref a1), .val (.int (2 : Int32)), .val (.int (4 : Int32)), .val (.ref x103), .val (.int (2 : Int32))]) rfl ?_
  refine XS.goto X119.here hx rfl (pc0 := 29) (pc' := 8) rfl (hb hby d18_29) (by decide) (by decide) ?_
  refine XS.iload X119.here hx rfl (hb hby d18_8) rfl ?_
  refine XS.iloadN X119.here hx rfl (hb hby d18_10) rfl ?_
  refine XS.icmpNo X119.here hx rfl (hb hby d18_11) rfl (tlt (by decide : ((2 : Int32) < (4 : Int32)))).2.1 ?_
  refine XS.aloadN X119.here hx rfl (hb hby d18_14) rfl rfl ?_
  refine XS.iload X119.here hx rfl (hb hby d18_15) rfl ?_
  refine XS.aloadN X119.here hx rfl (hb hby d18_17) rfl rfl ?_
  refine XS.iloadN X119.here hx rfl (hb hby d18_18) rfl ?_
  exact k_)
 have f124 := (f116.keep q119_K (ninS ne_a1_x103 nin0))
 obtain ⟨cl123, Ar123, q123, S123, Ng123, H123, G123⟩ := id f124
 have hin123 := inb_of S123 (j := (2 : Int32)) ⟨by decide, by decide⟩
 have hat123 := H123.at (v := (.int c2)) hin123 rfl
 have p125 : Go p.tables e below _ (T119.setTop (mkF m 20 #[.val (.ref a1), .val (.int (2 : Int32)), .val (.int (4 : Int32)), .val (.ref x103), .val (.int (2 : Int32))] [(.int c2), (.int (2 : Int32)), (.ref x103)])) := fun t_ k_ => p122 t_ (by
  refine X119.caload hx (j := (2 : Int32)) (v := (.int c2)) Ar123.1 (State.isArrayOf_alike hZ.alike Ar123.2.1) Ar123.2.2 hin123 hat123 (g := (mkF m 19 #[.val (.ref a1), .val (.int (2 : Int32)), .val (.int (4 : Int32)), .val (.ref x103), .val (.int (2 : Int32))] [(.int (2 : Int32)), (.ref a1), (.int (2 : Int32)), (.ref x103)])) rfl rfl (hb hby d18_19) _ ?_
  exact k_)
 have f126 := (f118.keep q119_K (allS q102_g all0))
 obtain ⟨_, _, ⟨T127, L127, k127, n127⟩, -, X127, ⟨Lc127, hQ127, l127, y127, z127⟩, st127⟩ := Jvm.LawKit.callS X119 hx (y := (⟨"java/lang/StringUTF16", "putChar", "([BII)V"⟩ : MethodName)) hown (mvT hZ (own_w hw 92 rfl)) (mvT hZ (own_w hw 93 rfl)) (mvT hZ (own_w hw 44 rfl)) (mvT hZ (own_w hw 94 rfl)) (by decide) (backOf (W := 0) (rm21 l Z a0 hw [] x103 (2 : Int32) c2 x104 (8 : Int32) [(.int (own_x0 c0)), (.int (own_x8 c0)), (.int (own_x0 c1)), (.int (own_x8 c1)), (.int (0 : Int32)), (.int (0 : Int32)), (.int (0 : Int32)), (.int (0 : Int32))] 4 cs1 fm T119.heap n0 (Nat.le_trans Z0 K120.1) f126 G f121 (by decide) (by decide) rfl rfl (Nat.le_of_ble_eq_true rfl) (Nat.le_of_ble_eq_true rfl) q102_g) hZ (own_w hw 94 rfl) (own_w hw 44 rfl) (by decide) (by decide)) (g := (mkF m 20 #[.val (.ref a1), .val (.int (2 : Int32)), .val (.int (4 : Int32)), .val (.ref x103), .val (.int (2 : Int32))] [(.int c2), (.int (2 : Int32)), (.ref x103)])) rfl (by rw [hml]; rfl) (argsL := [(.ref x103), (.int (2 : Int32)), (.int c2)]) (rest := []) (lenOf pd13 rfl) rfl (by show 2 * 0 + _ ≤ _; exact Nat.le_of_eq rfl) (hb hby d18_20) (fun _ _ => ⟨rfl, rfl, (by decide : 1 + 0 ≤ _), (by decide : 8 + 0 ≤ _)⟩)
 dsimp only [Pt.U, Pt.locs, Pt.cells, Pt.slots] at X127 l127 y127 z127 st127 hQ127
 subst l127 y127 z127
 obtain ⟨rfl, N127q, q127_K, q127_V⟩ := hQ127
 have N127 := Fr.app N119 N127q
 have K128 : Keep h0 T127.heap [] := K120.trans q127_K (allS (Or.inr (Nat.le_trans (Keep.refl h0 []).1 q102_z)) all0)
 have f129 : Arv Z T127.heap x103 x104 .byte (8 : Int32) [(.int (own_x0 c0)), (.int (own_x8 c0)), (.int (own_x0 c1)), (.int (own_x8 c1)), (.int (own_x0 c2)), (.int (own_x8 c2)), (.int (0 : Int32)), (.int (0 : Int32))] (.int (0 : Int32)) := q127_V
 have p130 : Go p.tables e below _ (T127.setTop (mkF m 19 #[.val (.ref a1), .val (.int (3 : Int32)), .val (.int (4 : Int32)), .val (.ref x103), .val (.int (3 : Int32))] [(.int (3 : Int32)), (.ref a1), (.int (3 : Int32)), (.ref x103)])) := fun t_ k_ => (gc p125 st127) t_ (by
  refine XS.iinc X127.here hx rfl (hb hby d18_23) rfl (l' := #[.val (.ref a1), .val (.int (3 : Int32)), .val (.int (4 : Int32)), .val (.ref x103), .val (.int (2 : Int32))]) rfl ?_
  refine XS.iinc X127.here hx rfl (hb hby d18_26) rfl (l' := #[.val (.ref a1), .val (.int (3 : Int32)), .val (.int (4 : Int32)), .val (.ref x103), .val (.int (3 : Int32))]) rfl ?_
  refine XS.goto X127.here hx rfl (pc0 := 29) (pc' := 8) rfl (hb hby d18_29) (by decide) (by decide) ?_
  refine XS.iload X127.here hx rfl (hb hby d18_8) rfl ?_
  refine XS.iloadN X127.here hx rfl (hb hby d18_10) rfl ?_
  refine XS.icmpNo X127.here hx rfl (hb hby d18_11) rfl (tlt (by decide : ((3 : Int32) < (4 : Int32)))).2.1 ?_
  refine XS.aloadN X127.here hx rfl (hb hby d18_14) rfl rfl ?_
  refine XS.iload X127.here hx rfl (hb hby d18_15) rfl ?_
  refine XS.aloadN X127.here hx rfl (hb hby d18_17) rfl rfl ?_
  refine XS.iloadN X127.here hx rfl (hb hby d18_18) rfl ?_
  exact k_)
 have f132 := (f124.keep q127_K (ninS ne_a1_x103 nin0))
 obtain ⟨cl131, Ar131, q131, S131, Ng131, H131, G131⟩ := id f132
 have hin131 := inb_of S131 (j := (3 : Int32)) ⟨by decide, by decide⟩
 have hat131 := H131.at (v := (.int c3)) hin131 rfl
 have p133 : Go p.tables e below _ (T127.setTop (mkF m 20 #[.val (.ref a1), .val (.int (3 : Int32)), .val (.int (4 : Int32)), .val (.ref x103), .val (.int (3 : Int32))] [(.int c3), (.int (3 : Int32)), (.ref x103)])) := fun t_ k_ => p130 t_ (by
  refine X127.caload hx (j := (3 : Int32)) (v := (.int c3)) Ar131.1 (State.isArrayOf_alike hZ.alike Ar131.2.1) Ar131.2.2 hin131 hat131 (g := (mkF m 19 #[.val (.ref a1), .val (.int (3 : Int32)), .val (.int (4 : Int32)), .val (.ref x103), .val (.int (3 : Int32))] [(.int (3 : Int32)), (.ref a1), (.int (3 : Int32)), (.ref x103)])) rfl rfl (hb hby d18_19) _ ?_
  exact k_)
 have f134 := (f126.keep q127_K (allS q102_g all0))
 obtain ⟨_, _, ⟨T135, L135, k135, n135⟩, -, X135, ⟨Lc135, hQ135, l135, y135, z135⟩, st135⟩ := Jvm.LawKit.callS X127 hx (y := (⟨"java/lang/StringUTF16", "putChar", "([BII)V"⟩ : MethodName)) hown (mvT hZ (own_w hw 92 rfl)) (mvT hZ (own_w hw 93 rfl)) (mvT hZ (own_w hw 44 rfl)) (mvT hZ (own_w hw 94 rfl)) (by decide) (backOf (W := 0) (rm21 l Z a0 hw [] x103 (3 : Int32) c3 x104 (8 : Int32) [(.int (own_x0 c0)), (.int (own_x8 c0)), (.int (own_x0 c1)), (.int (own_x8 c1)), (.int (own_x0 c2)), (.int (own_x8 c2)), (.int (0 : Int32)), (.int (0 : Int32))] 6 cs1 fm T127.heap n0 (Nat.le_trans Z0 K128.1) f134 G f129 (by decide) (by decide) rfl rfl (Nat.le_of_ble_eq_true rfl) (Nat.le_of_ble_eq_true rfl) q102_g) hZ (own_w hw 94 rfl) (own_w hw 44 rfl) (by decide) (by decide)) (g := (mkF m 20 #[.val (.ref a1), .val (.int (3 : Int32)), .val (.int (4 : Int32)), .val (.ref x103), .val (.int (3 : Int32))] [(.int c3), (.int (3 : Int32)), (.ref x103)])) rfl (by rw [hml]; rfl) (argsL := [(.ref x103), (.int (3 : Int32)), (.int c3)]) (rest := []) (lenOf pd13 rfl) rfl (by show 2 * 0 + _ ≤ _; exact Nat.le_of_eq rfl) (hb hby d18_20) (fun _ _ => ⟨rfl, rfl, (by decide : 1 + 0 ≤ _), (by decide : 8 + 0 ≤ _)⟩)
 dsimp only [Pt.U, Pt.locs, Pt.cells, Pt.slots] at X135 l135 y135 z135 st135 hQ135
 subst l135 y135 z135
 obtain ⟨rfl, N135q, q135_K, q135_V⟩ := hQ135
 have N135 := Fr.app N127 N135q
 have K136 : Keep h0 T135.heap [] := K128.trans q135_K (allS (Or.inr (Nat.le_trans (Keep.refl h0 []).1 q102_z)) all0)
 have f137 : Arv Z T135.heap x103 x104 .byte (8 : Int32) [(.int (own_x0 c0)), (.int (own_x8 c0)), (.int (own_x0 c1)), (.int (own_x8 c1)), (.int (own_x0 c2)), (.int (own_x8 c2)), (.int (own_x0 c3)), (.int (own_x8 c3))] (.int (0 : Int32)) := q135_V
 have p138 : Go p.tables e below _ (T135.setTop (mkF m 33 #[.val (.ref a1), .val (.int (4 : Int32)), .val (.int (4 : Int32)), .val (.ref x103), .val (.int (4 : Int32))] [(.ref x103)])) := fun t_ k_ => (gc p133 st135) t_ (by
  refine XS.iinc X135.here hx rfl (hb hby d18_23) rfl (l' := #[.val (.ref a1), .val (.int (4 : Int32)), .val (.int (4 : Int32)), .val (.ref x103), .val (.int (3 : Int32))]) rfl ?_
  refine XS.iinc X135.here hx rfl (hb hby d18_26) rfl (l' := #[.val (.ref a1), .val (.int (4 : Int32)), .val (.int (4 : Int32)), .val (.ref x103), .val (.int (4 : Int32))]) rfl ?_
  refine XS.goto X135.here hx rfl (pc0 := 29) (pc' := 8) rfl (hb hby d18_29) (by decide) (by decide) ?_
  refine XS.iload X135.here hx rfl (hb hby d18_8) rfl ?_
  refine XS.iloadN X135.here hx rfl (hb hby d18_10) rfl ?_
  refine XS.icmpYes X135.here hx rfl (pc0 := 11) (pc' := 32) rfl (hb hby d18_11) rfl (flt (by decide : ¬ ((4 : Int32) < (4 : Int32)))).2.1 (by decide) (by decide) ?_
  refine XS.aloadN X135.here hx rfl (hb hby d18_32) rfl rfl ?_
  exact k_)
 obtain ⟨fs, hr, hrun, hended, hW, hsame⟩ := X135.leave (v := some (.ref x103)) (fun h => by rw [Bd.returns] at h; cases h)
 refine ⟨_, _, p138 _ (retOut X135 hx (w := (.ref x103)) (i := .areturn) Bd.returns rfl (Or.inr (Or.inr (Or.inr (Or.inr ⟨rfl, rfl, rfl⟩)))) (hb hby d18_33) hr), hrun, hended, _, _, rfl, ?_, ⟨_, rfl⟩, hW, hsame.mono (by decide) (by decide)⟩
 show Q18_U4 Z a1 k1 c0 c1 c2 c3 cs1 fm h0 n0 _ T135.heap _
 exact ⟨x103, x104, rfl, N135, K136, q102_g, (Nat.le_trans (Keep.refl h0 []).1 q102_z), f137⟩
theorem ef_rm8_U4 (m : MethodId) (a1 : Addr) (k1 : ClassId) (c0 : Int32) (c1 : Int32) (c2 : Int32) (c3 : Int32) (cs1 : Int32) (fm : Value) : entryFrame m #[(.ref a1), (.int (0 : Int32)), (.int (4 : Int32))] 6 = mkF m 0 #[.val (.ref a1), .val (.int (0 : Int32)), .val (.int (4 : Int32)), .unset, .unset, .unset] [] := by first | (simp [entryFrame, mkF, argsToLocals, Value.category]; done) | rfl
def Q8_U4 (Z : State) (a1 : Addr) (k1 : ClassId) (c0 : Int32) (c1 : Int32) (c2 : Int32) (c3 : Int32) (cs1 : Int32) (fm : Value) (h0 : Heap) (n0 : Nat) (v : Option Value) (h : Heap) (L : List Loc) : Prop := ∃ (b : Addr) (kb : ClassId), v = some (.ref b) ∧ Fr n0 L ∧ (Keep h0 h []) ∧ (n0 ≤ b) ∧ (h0.size ≤ b) ∧ (Arv Z h b kb .byte (8 : Int32) [(.int (own_x0 c0)), (.int (own_x8 c0)), (.int (own_x0 c1)), (.int (own_x8 c1)), (.int (own_x0 c2)), (.int (own_x8 c2)), (.int (own_x0 c3)), (.int (own_x8 c3))] (.int (0 : Int32)))
set_option maxRecDepth 65536 in
set_option maxHeartbeats 40000000 in
theorem rm8_U4 (l : Launch) (Z : State) (a0 : Array Value) (hw : ∀ d ∈ tables_1, d.before a0 Z = true) (ws : List Jvm.Cond) (a1 : Addr) (k1 : ClassId) (c0 : Int32) (c1 : Int32) (c2 : Int32) (c3 : Int32) (cs1 : Int32) (fm : Value) (h0 : Heap) (n0 : Nat) (Z0 : n0 ≤ h0.size) (O1 : Old Z n0 h0) (G : own_G Z cs1 fm) (V1 : Arv Z h0 a1 k1 .char (4 : Int32) [(.int c0), (.int c1), (.int c2), (.int c3)] (.int (0 : Int32))) (a0_ : ¬ (c0 < (0 : Int32))) (b0_ : ¬ ((65535 : Int32) < c0)) (a1_ : ¬ (c1 < (0 : Int32))) (b1_ : ¬ ((65535 : Int32) < c1)) (a2_ : ¬ (c2 < (0 : Int32))) (b2_ : ¬ ((65535 : Int32) < c2)) (a3_ : ¬ (c3 < (0 : Int32))) (b3_ : ¬ ((65535 : Int32) < c3)) (big : ((255 : Int32) < c0) ∨ ((255 : Int32) < c1) ∨ ((255 : Int32) < c2) ∨ ((255 : Int32) < c3)) :
  MetFree l (⟨"java/lang/StringUTF16", "compress", "([CII)[B"⟩ : MethodName) (head1 (Jvm.Cond.code (⟨"java/lang/StringUTF16", "compress", "([CII)[B"⟩ : MethodName) jdk_52_method_16_code 6 (some (.array .byte)) :: ws) ({ frames := 3, cells := 2, slots := 12, locals := 40 } : Room)) (fun a U => a = #[(.ref a1), (.int (0 : Int32)), (.int (4 : Int32))] ∧ Z.Warmed39 U.vm ∧ U.heap = h0) (fun _ _ _ _ _ => True) (fun _ U o U' => ∃ v L, o = .returned v ∧ Q8_U4 Z a1 k1 c0 c1 c2 c3 cs1 fm h0 n0 v U'.heap L ∧ FrameEnd U o U' L ({ frames := 3, cells := 2, slots := 12, locals := 40 } : Room).cells ({ frames := 3, cells := 2, slots := 12, locals := 40 } : Room).slots) := by
 refine MetFree.of_bodySF pn8 hisR ?_
 intro p e s m args below meth c s₁ Bd hml0 hP hK
 obtain ⟨rfl, hZ, hh⟩ := hP
 have hx := Bd.exec
 have hby := Bd.bytes
 have hml : c.maxLocals = 6 := hml0
 have hown : s.vm.findClass "java/lang/StringUTF16" = some m.cls := findClass_of_methodNamed Bd.named
 have hnm := (name_of_methodNamed Bd.named Bd.method).1
 have X0 : Stand p l e ({ frames := 3, cells := 2, slots := 12, locals := 40 } : Room) s m #[(.ref a1), (.int (0 : Int32)), (.int (4 : Int32))] below meth c s₁ [] 0 0 := Stand.of_body Bd
 have e0 : s₁.heap = h0 := by rw [← hh, Bd.state]; rfl
 have N0 := Fr.nil n0
 have p0 : Go p.tables e below (s₁.setTop (entryFrame m #[(.ref a1), (.int (0 : Int32)), (.int (4 : Int32))] 6)) (s₁.setTop (mkF m 0 #[.val (.ref a1), .val (.int (0 : Int32)), .val (.int (4 : Int32)), .unset, .unset, .unset] [])) := fun t_ k_ => castTop (ef_rm8_U4 m a1 k1 c0 c1 c2 c3 cs1 fm) k_
 have p101 : Go p.tables e below _ (s₁.setTop (mkF m 1 #[.val (.ref a1), .val (.int (0 : Int32)), .val (.int (4 : Int32)), .unset, .unset, .unset] [(.int (4 : Int32))])) := fun t_ k_ => p0 t_ (by
  refine XS.iloadN X0.here hx rfl (hb hby d8_0) rfl ?_
  exact k_)
 obtain ⟨T102, h102, k102, X102, e102, E102, A102, st102⟩ := newP X0 hx hZ (own_w hw 20 rfl) e0 (g := (mkF m 1 #[.val (.ref a1), .val (.int (0 : Int32)), .val (.int (4 : Int32)), .unset, .unset, .unset] [(.int (4 : Int32))])) rfl (hb hby d8_1) rfl (by decide) (cap := 4) (by decide) (by decide) (by decide) (by decide)
 obtain ⟨b102, g102⟩ : ∃ z, z = h0.size := ⟨_, rfl⟩
 rw [← g102] at A102 st102
 have ne_a1_b102 : a1 ≠ b102 := Nat.ne_of_lt (Nat.lt_of_lt_of_le V1.lt (Nat.le_of_eq g102.symm))
 have ge_b102 : n0 ≤ b102 := Nat.le_trans (Nat.le_trans Z0 (Keep.refl h0 []).1) (Nat.le_of_eq g102.symm)
 have sz_b102 : h0.size ≤ b102 := Nat.le_trans (Keep.refl h0 []).1 (Nat.le_of_eq g102.symm)
 have K103 : Keep h0 h102 [] := (Keep.refl h0 []).ext E102
 have V102 : Arv Z h102 b102 k102 .byte (4 : Int32) [(.int (0 : Int32)), (.int (0 : Int32)), (.int (0 : Int32)), (.int (0 : Int32))] (.int (0 : Int32)) := (Arv.new A102 (by decide)).pad (pad_rep [] (.int (0 : Int32)) 4)
 have p104 : Go p.tables e below _ (T102.setTop (mkF m 9 #[.val (.ref a1), .val (.int (0 : Int32)), .val (.int (4 : Int32)), .val (.ref b102), .unset, .unset] [(.int (4 : Int32)), (.int (0 : Int32)), (.ref b102), (.int (0 : Int32)), (.ref a1)])) := fun t_ k_ => (gc p101 st102) t_ (by
  refine XS.astoreN X102.here hx rfl (hb hby d8_3) rfl rfl (l' := #[.val (.ref a1), .val (.int (0 : Int32)), .val (.int (4 : Int32)), .val (.ref b102), .unset, .unset]) rfl ?_
  refine XS.aloadN X102.here hx rfl (hb hby d8_4) rfl rfl ?_
  refine XS.iloadN X102.here hx rfl (hb hby d8_5) rfl ?_
  refine XS.aloadN X102.here hx rfl (hb hby d8_6) rfl rfl ?_
  refine XS.iconst X102.here hx rfl (hb hby d8_7) ?_
  refine XS.iloadN X102.here hx rfl (hb hby d8_8) rfl ?_
  exact k_)
 by_cases m0 : (255 : Int32) < c0
 ·have f105 := (V1.ext E102)
  obtain ⟨_, _, ⟨T106, L106, k106, n106⟩, -, X106, ⟨Lc106, hQ106, l106, y106, z106⟩, st106⟩ := Jvm.LawKit.callS X102 hx (y := (⟨"java/lang/StringUTF16", "compress", "([CI[BII)I"⟩ : MethodName)) hown (mvT hZ (own_w hw 46 rfl)) (mvT hZ (own_w hw 47 rfl)) (mvT hZ (own_w hw 44 rfl)) (mvT hZ (own_w hw 48 rfl)) (by decide) (backOf (W := 0) (rm9_U l Z a0 hw [] a1 b102 k1 k102 [c0, c1, c2, c3] 4 0 h102 n0 (Nat.le_trans Z0 K103.1) f105 V102 (by decide) (by decide) (fun j hj => absurd hj (by omega)) m0 ne_a1_b102 ge_b102) hZ (own_w hw 48 rfl) (own_w hw 44 rfl) (by decide) (by decide)) (g := (mkF m 9 #[.val (.ref a1), .val (.int (0 : Int32)), .val (.int (4 : Int32)), .val (.ref b102), .unset, .unset] [(.int (4 : Int32)), (.int (0 : Int32)), (.ref b102), (.int (0 : Int32)), (.ref a1)])) rfl (by rw [hml]; rfl) (argsL := [(.ref a1), (.int (0 : Int32)), (.ref b102), (.int (0 : Int32)), (.int (4 : Int32))]) (rest := []) (lenOf pd7 rfl) rfl (by show 2 * 0 + _ ≤ _; exact Nat.le_of_eq rfl) (hb hby d8_9) (fun _ _ => ⟨rfl, e102, (by decide : 1 + 0 ≤ _), (by decide : 4 + 0 ≤ _)⟩)
  dsimp only [Pt.U, Pt.locs, Pt.cells, Pt.slots] at X106 l106 y106 z106 st106 hQ106
  subst l106 y106 z106
  obtain ⟨rfl, N106q, q106_K, q106_V⟩ := hQ106
  have N106 := Fr.app N0 N106q
  have K107 : Keep h0 T106.heap [] := K103.trans q106_K (allS (Or.inr sz_b102) all0)
  have f108 : Arv Z T106.heap b102 k102 .byte (4 : Int32) [(.int (0 : Int32)), (.int (0 : Int32)), (.int (0 : Int32)), (.int (0 : Int32))] (.int (0 : Int32)) := q106_V
  have p109 : Go p.tables e below _ (T106.setTop (mkF m 12 #[.val (.ref a1), .val (.int (0 : Int32)), .val (.int (4 : Int32)), .val (.ref b102), .unset, .unset] [(.int (0 : Int32))])) := (gc p104 st106)
  have p110 : Go p.tables e below _ (T106.setTop (mkF m 23 #[.val (.ref a1), .val (.int (0 : Int32)), .val (.int (4 : Int32)), .val (.ref b102), .val (.int (0 : Int32)), .unset] [(.int (4 : Int32)), (.int (0 : Int32)), (.ref a1)])) := fun t_ k_ => p109 t_ (by
   refine XS.istore X106.here hx rfl (hb hby d8_12) rfl (l' := #[.val (.ref a1), .val (.int (0 : Int32)), .val (.int (4 : Int32)), .val (.ref b102), .val (.int (0 : Int32)), .unset]) rfl ?_
   refine XS.iload X106.here hx rfl (hb hby d8_14) rfl ?_
   refine XS.iloadN X106.here hx rfl (hb hby d8_16) rfl ?_
   refine XS.icmpNo X106.here hx rfl (hb hby d8_17) rfl (feq (by decide : ¬ ((0 : Int32) = (4 : Int32)))).1 ?_
   refine XS.aloadN X106.here hx rfl (hb hby d8_20) rfl rfl ?_
   refine XS.iloadN X106.here hx rfl (hb hby d8_21) rfl ?_
   refine XS.iloadN X106.here hx rfl (hb hby d8_22) rfl ?_
   exact k_)
  have f111 := (f105.keep q106_K (ninS ne_a1_b102 nin0))
  have f112 := ((O1.ext E102).keep q106_K (allS ge_b102 all0))
  obtain ⟨_, _, ⟨T113, L113, k113, n113⟩, -, X113, ⟨Lc113, hQ113, l113, y113, z113⟩, st113⟩ := Jvm.LawKit.callS X106 hx (y := (⟨"java/lang/StringUTF16", "toBytes", "([CII)[B"⟩ : MethodName)) hown (mvT hZ (own_w hw 82 rfl)) (mvT hZ (own_w hw 83 rfl)) (mvT hZ (own_w hw 44 rfl)) (mvT hZ (own_w hw 84 rfl)) (by decide) (backOf (W := 0) (rm18_U4 l Z a0 hw [] a1 k1 c0 c1 c2 c3 cs1 fm T106.heap n0 (Nat.le_trans Z0 K107.1) f112 G f111) hZ (own_w hw 84 rfl) (own_w hw 44 rfl) (by decide) (by decide)) (g := (mkF m 23 #[.val (.ref a1), .val (.int (0 : Int32)), .val (.int (4 : Int32)), .val (.ref b102), .val (.int (0 : Int32)), .unset] [(.int (4 : Int32)), (.int (0 : Int32)), (.ref a1)])) rfl (by rw [hml]; rfl) (argsL := [(.ref a1), (.int (0 : Int32)), (.int (4 : Int32))]) (rest := []) (lenOf pd8 rfl) rfl (by show 2 * 0 + _ ≤ _; exact Nat.le_of_eq rfl) (hb hby d8_23) (fun _ _ => ⟨rfl, rfl, (by decide : 1 + 1 ≤ _), (by decide : 4 + 8 ≤ _)⟩)
  dsimp only [Pt.U, Pt.locs, Pt.cells, Pt.slots] at X113 l113 y113 z113 st113 hQ113
  subst l113 y113 z113
  obtain ⟨x114, x115, rfl, N113q, q113_K, q113_g, q113_z, q113_V⟩ := hQ113
  have N113 := Fr.app N106 N113q
  have K116 : Keep h0 T113.heap [] := K107.trans q113_K all0
  have ne_a1_x114 : a1 ≠ x114 := Nat.ne_of_lt (Nat.lt_of_lt_of_le f111.lt q113_z)
  have ne_b102_x114 : b102 ≠ x114 := Nat.ne_of_lt (Nat.lt_of_lt_of_le f108.lt q113_z)
  have p117 : Go p.tables e below _ (T113.setTop (mkF m 32 #[.val (.ref a1), .val (.int (0 : Int32)), .val (.int (4 : Int32)), .val (.ref b102), .val (.int (0 : Int32)), .val (.ref x114)] [(.int (0 : Int32)), (.ref x114)])) := fun t_ k_ => (gc p110 st113) t_ (by
   refine XS.astore X113.here hx rfl (hb hby d8_26) rfl rfl (l' := #[.val (.ref a1), .val (.int (0 : Int32)), .val (.int (4 : Int32)), .val (.ref b102), .val (.int (0 : Int32)), .val (.ref x114)]) rfl ?_
   refine XS.aload X113.here hx rfl (hb hby d8_28) rfl rfl ?_
   refine XS.iload X113.here hx rfl (hb hby d8_30) rfl ?_
   exact k_)
  have f118 := (f112.keep q113_K all0)
  obtain ⟨_, _, ⟨T119, L119, k119, n119⟩, -, X119, ⟨Lc119, hQ119, l119, y119, z119⟩, st119⟩ := Jvm.LawKit.callS X113 hx (y := (⟨"java/lang/StringUTF16", "getChar", "([BI)C"⟩ : MethodName)) hown (mvT hZ (own_w hw 98 rfl)) (mvT hZ (own_w hw 99 rfl)) (mvT hZ (own_w hw 44 rfl)) (mvT hZ (own_w hw 100 rfl)) (by decide) (backOf (W := 0) (rm22 l Z a0 hw [] x114 (0 : Int32) x115 (8 : Int32) [(.int (own_x0 c0)), (.int (own_x8 c0)), (.int (own_x0 c1)), (.int (own_x8 c1)), (.int (own_x0 c2)), (.int (own_x8 c2)), (.int (own_x0 c3)), (.int (own_x8 c3))] (own_x0 c0) (own_x8 c0) c0 cs1 fm T113.heap n0 (Nat.le_trans Z0 K116.1) f118 G q113_V (by decide) (by decide) rfl rfl (own_l16 c0 a0_ b0_)) hZ (own_w hw 100 rfl) (own_w hw 44 rfl) (by decide) (by decide)) (g := (mkF m 32 #[.val (.ref a1), .val (.int (0 : Int32)), .val (.int (4 : Int32)), .val (.ref b102), .val (.int (0 : Int32)), .val (.ref x114)] [(.int (0 : Int32)), (.ref x114)])) rfl (by rw [hml]; rfl) (argsL := [(.ref x114), (.int (0 : Int32))]) (rest := []) (lenOf pd4 rfl) rfl (by show 2 * 0 + _ ≤ _; exact Nat.le_of_eq rfl) (hb hby d8_32) (fun _ _ => ⟨rfl, rfl, (by decide : 2 + 0 ≤ _), (by decide : 12 + 0 ≤ _)⟩)
  dsimp only [Pt.U, Pt.locs, Pt.cells, Pt.slots] at X119 l119 y119 z119 st119 hQ119
  subst l119 y119 z119
  obtain ⟨rfl, N119q, q119_hh⟩ := hQ119
  have N119 := Fr.app N113 N119q
  have p120 : Go p.tables e below _ (T119.setTop (mkF m 38 #[.val (.ref a1), .val (.int (0 : Int32)), .val (.int (4 : Int32)), .val (.ref b102), .val (.int (0 : Int32)), .val (.ref x114)] [(.int (255 : Int32)), (.int c0)])) := fun t_ k_ => (gc p117 st119) t_ (by
   refine XS.sipush X119.here hx rfl (hb hby d8_35) ?_
   exact k_)
  have c121 : ((255 : Int32) < c0) := m0
  have p122 : Go p.tables e below _ (T119.setTop (mkF m 56 #[.val (.ref a1), .val (.int (0 : Int32)), .val (.int (4 : Int32)), .val (.ref b102), .val (.int (0 : Int32)), .val (.ref x114)] [(.ref x114)])) := fun t_ k_ => p120 t_ (by
   refine XS.icmpYes X119.here hx rfl (pc0 := 38) (pc' := 54) rfl (hb hby d8_38) rfl (tlt c121).2.2.1 (by decide) (by decide) ?_
   refine XS.aload X119.here hx rfl (hb hby d8_54) rfl rfl ?_
   exact k_)
  obtain ⟨fs, hr, hrun, hended, hW, hsame⟩ := X119.leave (v := some (.ref x114)) (fun h => by rw [Bd.returns] at h; cases h)
  refine ⟨_, _, p122 _ (retOut X119 hx (w := (.ref x114)) (i := .areturn) Bd.returns rfl (Or.inr (Or.inr (Or.inr (Or.inr ⟨rfl, rfl, rfl⟩)))) (hb hby d8_56) hr), hrun, hended, _, _, rfl, ?_, ⟨_, rfl⟩, hW, hsame.mono (by decide) (by decide)⟩
  show Q8_U4 Z a1 k1 c0 c1 c2 c3 cs1 fm h0 n0 _ T119.heap _
  rw [q119_hh]
  exact ⟨x114, x115, rfl, N119, K116, q113_g, (Nat.le_trans K107.1 q113_z), q113_V⟩
 ·skip
  by_cases m1 : (255 : Int32) < c1
  ·have hl123 : ∀ j, j < 1 → ¬ ((255 : Int32) < own_at [c0, c1, c2, c3] j) := by
    intro j hj
    rcases (by omega : j = 0) with rfl
    ·exact m0
   have f124 := (V1.ext E102)
   obtain ⟨_, _, ⟨T125, L125, k125, n125⟩, -, X125, ⟨Lc125, hQ125, l125, y125, z125⟩, st125⟩ := Jvm.LawKit.callS X102 hx (y := (⟨"java/lang/StringUTF16", "compress", "([CI[BII)I"⟩ : MethodName)) hown (mvT hZ (own_w hw 46 rfl)) (mvT hZ (own_w hw 47 rfl)) (mvT hZ (own_w hw 44 rfl)) (mvT hZ (own_w hw 48 rfl)) (by decide) (backOf (W := 0) (rm9_U l Z a0 hw [] a1 b102 k1 k102 [c0, c1, c2, c3] 4 1 h102 n0 (Nat.le_trans Z0 K103.1) f124 V102 (by decide) (by decide) hl123 m1 ne_a1_b102 ge_b102) hZ (own_w hw 48 rfl) (own_w hw 44 rfl) (by decide) (by decide)) (g := (mkF m 9 #[.val (.ref a1), .val (.int (0 : Int32)), .val (.int (4 : Int32)), .val (.ref b102), .unset, .unset] [(.int (4 : Int32)), (.int (0 : Int32)), (.ref b102), (.int (0 : Int32)), (.ref a1)])) rfl (by rw [hml]; rfl) (argsL := [(.ref a1), (.int (0 : Int32)), (.ref b102), (.int (0 : Int32)), (.int (4 : Int32))]) (rest := []) (lenOf pd7 rfl) rfl (by show 2 * 0 + _ ≤ _; exact Nat.le_of_eq rfl) (hb hby d8_9) (fun _ _ => ⟨rfl, e102, (by decide : 1 + 0 ≤ _), (by decide : 4 + 0 ≤ _)⟩)
   dsimp only [Pt.U, Pt.locs, Pt.cells, Pt.slots] at X125 l125 y125 z125 st125 hQ125
   subst l125 y125 z125
   obtain ⟨rfl, N125q, q125_K, q125_V⟩ := hQ125
   have N125 := Fr.app N0 N125q
   have K126 : Keep h0 T125.heap [] := K103.trans q125_K (allS (Or.inr sz_b102) all0)
   have f127 : Arv Z T125.heap b102 k102 .byte (4 : Int32) [(.int (own_xl c0)), (.int (0 : Int32)), (.int (0 : Int32)), (.int (0 : Int32))] (.int (0 : Int32)) := q125_V
   have p128 : Go p.tables e below _ (T125.setTop (mkF m 12 #[.val (.ref a1), .val (.int (0 : Int32)), .val (.int (4 : Int32)), .val (.ref b102), .unset, .unset] [(.int (1 : Int32))])) := (gc p104 st125)
   have p129 : Go p.tables e below _ (T125.setTop (mkF m 23 #[.val (.ref a1), .val (.int (0 : Int32)), .val (.int (4 : Int32)), .val (.ref b102), .val (.int (1 : Int32)), .unset] [(.int (4 : Int32)), (.int (0 : Int32)), (.ref a1)])) := fun t_ k_ => p128 t_ (by
    refine XS.istore X125.here hx rfl (hb hby d8_12) rfl (l' := #[.val (.ref a1), .val (.int (0 : Int32)), .val (.int (4 : Int32)), .val (.ref b102), .val (.int (1 : Int32)), .unset]) rfl ?_
    refine XS.iload X125.here hx rfl (hb hby d8_14) rfl ?_
    refine XS.iloadN X125.here hx rfl (hb hby d8_16) rfl ?_
    refine XS.icmpNo X125.here hx rfl (hb hby d8_17) rfl (feq (by decide : ¬ ((1 : Int32) = (4 : Int32)))).1 ?_
    refine XS.aloadN X125.here hx rfl (hb hby d8_20) rfl rfl ?_
    refine XS.iloadN X125.here hx rfl (hb hby d8_21) rfl ?_
    refine XS.iloadN X125.here hx rfl (hb hby d8_22) rfl ?_
    exact k_)
   have f130 := (f124.keep q125_K (ninS ne_a1_b102 nin0))
   have f131 := ((O1.ext E102).keep q125_K (allS ge_b102 all0))
   obtain ⟨_, _, ⟨T132, L132, k132, n132⟩, -, X132, ⟨Lc132, hQ132, l132, y132, z132⟩, st132⟩ := Jvm.LawKit.callS X125 hx (y := (⟨"java/lang/StringUTF16", "toBytes", "([CII)[B"⟩ : MethodName)) hown (mvT hZ (own_w hw 82 rfl)) (mvT hZ (own_w hw 83 rfl)) (mvT hZ (own_w hw 44 rfl)) (mvT hZ (own_w hw 84 rfl)) (by decide) (backOf (W := 0) (rm18_U4 l Z a0 hw [] a1 k1 c0 c1 c2 c3 cs1 fm T125.heap n0 (Nat.le_trans Z0 K126.1) f131 G f130) hZ (own_w hw 84 rfl) (own_w hw 44 rfl) (by decide) (by decide)) (g := (mkF m 23 #[.val (.ref a1), .val (.int (0 : Int32)), .val (.int (4 : Int32)), .val (.ref b102), .val (.int (1 : Int32)), .unset] [(.int (4 : Int32)), (.int (0 : Int32)), (.ref a1)])) rfl (by rw [hml]; rfl) (argsL := [(.ref a1), (.int (0 : Int32)), (.int (4 : Int32))]) (rest := []) (lenOf pd8 rfl) rfl (by show 2 * 0 + _ ≤ _; exact Nat.le_of_eq rfl) (hb hby d8_23) (fun _ _ => ⟨rfl, rfl, (by decide : 1 + 1 ≤ _), (by decide : 4 + 8 ≤ _)⟩)
   dsimp only [Pt.U, Pt.locs, Pt.cells, Pt.slots] at X132 l132 y132 z132 st132 hQ132
   subst l132 y132 z132
   obtain ⟨x133, x134, rfl, N132q, q132_K, q132_g, q132_z, q132_V⟩ := hQ132
   have N132 := Fr.app N125 N132q
   have K135 : Keep h0 T132.heap [] := K126.trans q132_K all0
   have ne_a1_x133 : a1 ≠ x133 := Nat.ne_of_lt (Nat.lt_of_lt_of_le f130.lt q132_z)
   have ne_b102_x133 : b102 ≠ x133 := Nat.ne_of_lt (Nat.lt_of_lt_of_le f127.lt q132_z)
   have p136 : Go p.tables e below _ (T132.setTop (mkF m 32 #[.val (.ref a1), .val (.int (0 : Int32)), .val (.int (4 : Int32)), .val (.ref b102), .val (.int (1 : Int32)), .val (.ref x133)] [(.int (1 : Int32)), (.ref x133)])) := fun t_ k_ => (gc p129 st132) t_ (by
    refine XS.astore X132.here hx rfl (hb hby d8_26) rfl rfl (l' := #[.val (.ref a1), .val (.int (0 : Int32)), .val (.int (4 : Int32)), .val (.ref b102), .val (.int (1 : Int32)), .val (.ref x133)]) rfl ?_
    refine XS.aload X132.here hx rfl (hb hby d8_28) rfl rfl ?_
    refine XS.iload X132.here hx rfl (hb hby d8_30) rfl ?_
    exact k_)
   have f137 := (f131.keep q132_K all0)
   obtain ⟨_, _, ⟨T138, L138, k138, n138⟩, -, X138, ⟨Lc138, hQ138, l138, y138, z138⟩, st138⟩ := Jvm.LawKit.callS X132 hx (y := (⟨"java/lang/StringUTF16", "getChar", "([BI)C"⟩ : MethodName)) hown (mvT hZ (own_w hw 98 rfl)) (mvT hZ (own_w hw 99 rfl)) (mvT hZ (own_w hw 44 rfl)) (mvT hZ (own_w hw 100 rfl)) (by decide) (backOf (W := 0) (rm22 l Z a0 hw [] x133 (1 : Int32) x134 (8 : Int32) [(.int (own_x0 c0)), (.int (own_x8 c0)), (.int (own_x0 c1)), (.int (own_x8 c1)), (.int (own_x0 c2)), (.int (own_x8 c2)), (.int (own_x0 c3)), (.int (own_x8 c3))] (own_x0 c1) (own_x8 c1) c1 cs1 fm T132.heap n0 (Nat.le_trans Z0 K135.1) f137 G q132_V (by decide) (by decide) rfl rfl (own_l16 c1 a1_ b1_)) hZ (own_w hw 100 rfl) (own_w hw 44 rfl) (by decide) (by decide)) (g := (mkF m 32 #[.val (.ref a1), .val (.int (0 : Int32)), .val (.int (4 : Int32)), .val (.ref b102), .val (.int (1 : Int32)), .val (.ref x133)] [(.int (1 : Int32)), (.ref x133)])) rfl (by rw [hml]; rfl) (argsL := [(.ref x133), (.int (1 : Int32))]) (rest := []) (lenOf pd4 rfl) rfl (by show 2 * 0 + _ ≤ _; exact Nat.le_of_eq rfl) (hb hby d8_32) (fun _ _ => ⟨rfl, rfl, (by decide : 2 + 0 ≤ _), (by decide : 12 + 0 ≤ _)⟩)
   dsimp only [Pt.U, Pt.locs, Pt.cells, Pt.slots] at X138 l138 y138 z138 st138 hQ138
   subst l138 y138 z138
   obtain ⟨rfl, N138q, q138_hh⟩ := hQ138
   have N138 := Fr.app N132 N138q
   have p139 : Go p.tables e below _ (T138.setTop (mkF m 38 #[.val (.ref a1), .val (.int (0 : Int32)), .val (.int (4 : Int32)), .val (.ref b102), .val (.int (1 : Int32)), .val (.ref x133)] [(.int (255 : Int32)), (.int c1)])) := fun t_ k_ => (gc p136 st138) t_ (by
    refine XS.sipush X138.here hx rfl (hb hby d8_35) ?_
    exact k_)
   have c140 : ((255 : Int32) < c1) := m1
   have p141 : Go p.tables e below _ (T138.setTop (mkF m 56 #[.val (.ref a1), .val (.int (0 : Int32)), .val (.int (4 : Int32)), .val (.ref b102), .val (.int (1 : Int32)), .val (.ref x133)] [(.ref x133)])) := fun t_ k_ => p139 t_ (by
    refine XS.icmpYes X138.here hx rfl (pc0 := 38) (pc' := 54) rfl (hb hby d8_38) rfl (tlt c140).2.2.1 (by decide) (by decide) ?_
    refine XS.aload X138.here hx rfl (hb hby d8_54) rfl rfl ?_
    exact k_)
   obtain ⟨fs, hr, hrun, hended, hW, hsame⟩ := X138.leave (v := some (.ref x133)) (fun h => by rw [Bd.returns] at h; cases h)
   refine ⟨_, _, p141 _ (retOut X138 hx (w := (.ref x133)) (i := .areturn) Bd.returns rfl (Or.inr (Or.inr (Or.inr (Or.inr ⟨rfl, rfl, rfl⟩)))) (hb hby d8_56) hr), hrun, hended, _, _, rfl, ?_, ⟨_, rfl⟩, hW, hsame.mono (by decide) (by decide)⟩
   show Q8_U4 Z a1 k1 c0 c1 c2 c3 cs1 fm h0 n0 _ T138.heap _
   rw [q138_hh]
   exact ⟨x133, x134, rfl, N138, K135, q132_g, (Nat.le_trans K126.1 q132_z), q132_V⟩
  ·skip
   by_cases m2 : (255 : Int32) < c2
   ·have hl142 : ∀ j, j < 2 → ¬ ((255 : Int32) < own_at [c0, c1, c2, c3] j) := by
     intro j hj
     rcases (by omega : j = 0 ∨ j = 1) with rfl | rfl
     ·exact m0
     ·exact m1
    have f143 := (V1.ext E102)
    obtain ⟨_, _, ⟨T144, L144, k144, n144⟩, -, X144, ⟨Lc144, hQ144, l144, y144, z144⟩, st144⟩ := Jvm.LawKit.callS X102 hx (y := (⟨"java/lang/StringUTF16", "compress", "([CI[BII)I"⟩ : MethodName)) hown (mvT hZ (own_w hw 46 rfl)) (mvT hZ (own_w hw 47 rfl)) (mvT hZ (own_w hw 44 rfl)) (mvT hZ (own_w hw 48 rfl)) (by decide) (backOf (W := 0) (rm9_U l Z a0 hw [] a1 b102 k1 k102 [c0, c1, c2, c3] 4 2 h102 n0 (Nat.le_trans Z0 K103.1) f143 V102 (by decide) (by decide) hl142 m2 ne_a1_b102 ge_b102) hZ (own_w hw 48 rfl) (own_w hw 44 rfl) (by decide) (by decide)) (g := (mkF m 9 #[.val (.ref a1), .val (.int (0 : Int32)), .val (.int (4 : Int32)), .val (.ref b102), .unset, .unset] [(.int (4 : Int32)), (.int (0 : Int32)), (.ref b102), (.int (0 : Int32)), (.ref a1)])) rfl (by rw [hml]; rfl) (argsL := [(.ref a1), (.int (0 : Int32)), (.ref b102), (.int (0 : Int32)), (.int (4 : Int32))]) (rest := []) (lenOf pd7 rfl) rfl (by show 2 * 0 + _ ≤ _; exact Nat.le_of_eq rfl) (hb hby d8_9) (fun _ _ => ⟨rfl, e102, (by decide : 1 + 0 ≤ _), (by decide : 4 + 0 ≤ _)⟩)
    dsimp only [Pt.U, Pt.locs, Pt.cells, Pt.slots] at X144 l144 y144 z144 st144 hQ144
    subst l144 y144 z144
    obtain ⟨rfl, N144q, q144_K, q144_V⟩ := hQ144
    have N144 := Fr.app N0 N144q
    have K145 : Keep h0 T144.heap [] := K103.trans q144_K (allS (Or.inr sz_b102) all0)
    have f146 : Arv Z T144.heap b102 k102 .byte (4 : Int32) [(.int (own_xl c0)), (.int (own_xl c1)), (.int (0 : Int32)), (.int (0 : Int32))] (.int (0 : Int32)) := q144_V
    have p147 : Go p.tables e below _ (T144.setTop (mkF m 12 #[.val (.ref a1), .val (.int (0 : Int32)), .val (.int (4 : Int32)), .val (.ref b102), .unset, .unset] [(.int (2 : Int32))])) := (gc p104 st144)
    have p148 : Go p.tables e below _ (T144.setTop (mkF m 23 #[.val (.ref a1), .val (.int (0 : Int32)), .val (.int (4 : Int32)), .val (.ref b102), .val (.int (2 : Int32)), .unset] [(.int (4 : Int32)), (.int (0 : Int32)), (.ref a1)])) := fun t_ k_ => p147 t_ (by
     refine XS.istore X144.here hx rfl (hb hby d8_12) rfl (l' := #[.val (.ref a1), .val (.int (0 : Int32)), .val (.int (4 : Int32)), .val (.ref b102), .val (.int (2 : Int32)), .unset]) rfl ?_
     refine XS.iload X144.here hx rfl (hb hby d8_14) rfl ?_
     refine XS.iloadN X144.here hx rfl (hb hby d8_16) rfl ?_
     refine XS.icmpNo X144.here hx rfl (hb hby d8_17) rfl (feq (by decide : ¬ ((2 : Int32) = (4 : Int32)))).1 ?_
     refine XS.aloadN X144.here hx rfl (hb hby d8_20) rfl rfl ?_
     refine XS.iloadN X144.here hx rfl (hb hby d8_21) rfl ?_
     refine XS.iloadN X144.here hx rfl (hb hby d8_22) rfl ?_
     exact k_)
    have f149 := (f143.keep q144_K (ninS ne_a1_b102 nin0))
    have f150 := ((O1.ext E102).keep q144_K (allS ge_b102 all0))
    obtain ⟨_, _, ⟨T151, L151, k151, n151⟩, -, X151, ⟨Lc151, hQ151, l151, y151, z151⟩, st151⟩ := Jvm.LawKit.callS X144 hx (y := (⟨"java/lang/StringUTF16", "toBytes", "([CII)[B"⟩ : MethodName)) hown (mvT hZ (own_w hw 82 rfl)) (mvT hZ (own_w hw 83 rfl)) (mvT hZ (own_w hw 44 rfl)) (mvT hZ (own_w hw 84 rfl)) (by decide) (backOf (W := 0) (rm18_U4 l Z a0 hw [] a1 k1 c0 c1 c2 c3 cs1 fm T144.heap n0 (Nat.le_trans Z0 K145.1) f150 G f149) hZ (own_w hw 84 rfl) (own_w hw 44 rfl) (by decide) (by decide)) (g := (mkF m 23 #[.val (.ref a1), .val (.int (0 : Int32)), .val (.int (4 : Int32)), .val (.ref b102), .val (.int (2 : Int32)), .unset] [(.int (4 : Int32)), (.int (0 : Int32)), (.ref a1)])) rfl (by rw [hml]; rfl) (argsL := [(.ref a1), (.int (0 : Int32)), (.int (4 : Int32))]) (rest := []) (lenOf pd8 rfl) rfl (by show 2 * 0 + _ ≤ _; exact Nat.le_of_eq rfl) (hb hby d8_23) (fun _ _ => ⟨rfl, rfl, (by decide : 1 + 1 ≤ _), (by decide : 4 + 8 ≤ _)⟩)
    dsimp only [Pt.U, Pt.locs, Pt.cells, Pt.slots] at X151 l151 y151 z151 st151 hQ151
    subst l151 y151 z151
    obtain ⟨x152, x153, rfl, N151q, q151_K, q151_g, q151_z, q151_V⟩ := hQ151
    have N151 := Fr.app N144 N151q
    have K154 : Keep h0 T151.heap [] := K145.trans q151_K all0
    have ne_a1_x152 : a1 ≠ x152 := Nat.ne_of_lt (Nat.lt_of_lt_of_le f149.lt q151_z)
    have ne_b102_x152 : b102 ≠ x152 := Nat.ne_of_lt (Nat.lt_of_lt_of_le f146.lt q151_z)
    have p155 : Go p.tables e below _ (T151.setTop (mkF m 32 #[.val (.ref a1), .val (.int (0 : Int32)), .val (.int (4 : Int32)), .val (.ref b102), .val (.int (2 : Int32)), .val (.ref x152)] [(.int (2 : Int32)), (.ref x152)])) := fun t_ k_ => (gc p148 st151) t_ (by
     refine XS.astore X151.here hx rfl (hb hby d8_26) rfl rfl (l' := #[.val (.ref a1), .val (.int (0 : Int32)), .val (.int (4 : Int32)), .val (.ref b102), .val (.int (2 : Int32)), .val (.ref x152)]) rfl ?_
     refine XS.aload X151.here hx rfl (hb hby d8_28) rfl rfl ?_
     refine XS.iload X151.here hx rfl (hb hby d8_30) rfl ?_
     exact k_)
    have f156 := (f150.keep q151_K all0)
    obtain ⟨_, _, ⟨T157, L157, k157, n157⟩, -, X157, ⟨Lc157, hQ157, l157, y157, z157⟩, st157⟩ := Jvm.LawKit.callS X151 hx (y := (⟨"java/lang/StringUTF16", "getChar", "([BI)C"⟩ : MethodName)) hown (mvT hZ (own_w hw 98 rfl)) (mvT hZ (own_w hw 99 rfl)) (mvT hZ (own_w hw 44 rfl)) (mvT hZ (own_w hw 100 rfl)) (by decide) (backOf (W := 0) (rm22 l Z a0 hw [] x152 (2 : Int32) x153 (8 : Int32) [(.int (own_x0 c0)), (.int (own_x8 c0)), (.int (own_x0 c1)), (.int (own_x8 c1)), (.int (own_x0 c2)), (.int (own_x8 c2)), (.int (own_x0 c3)), (.int (own_x8 c3))] (own_x0 c2) (own_x8 c2) c2 cs1 fm T151.heap n0 (Nat.le_trans Z0 K154.1) f156 G q151_V (by decide) (by decide) rfl rfl (own_l16 c2 a2_ b2_)) hZ (own_w hw 100 rfl) (own_w hw 44 rfl) (by decide) (by decide)) (g := (mkF m 32 #[.val (.ref a1), .val (.int (0 : Int32)), .val (.int (4 : Int32)), .val (.ref b102), .val (.int (2 : Int32)), .val (.ref x152)] [(.int (2 : Int32)), (.ref x152)])) rfl (by rw [hml]; rfl) (argsL := [(.ref x152), (.int (2 : Int32))]) (rest := []) (lenOf pd4 rfl) rfl (by show 2 * 0 + _ ≤ _; exact Nat.le_of_eq rfl) (hb hby d8_32) (fun _ _ => ⟨rfl, rfl, (by decide : 2 + 0 ≤ _), (by decide : 12 + 0 ≤ _)⟩)
    dsimp only [Pt.U, Pt.locs, Pt.cells, Pt.slots] at X157 l157 y157 z157 st157 hQ157
    subst l157 y157 z157
    obtain ⟨rfl, N157q, q157_hh⟩ := hQ157
    have N157 := Fr.app N151 N157q
    have p158 : Go p.tables e below _ (T157.setTop (mkF m 38 #[.val (.ref a1), .val (.int (0 : Int32)), .val (.int (4 : Int32)), .val (.ref b102), .val (.int (2 : Int32)), .val (.ref x152)] [(.int (255 : Int32)), (.int c2)])) := fun t_ k_ => (gc p155 st157) t_ (by
     refine XS.sipush X157.here hx rfl (hb hby d8_35) ?_
     exact k_)
    have c159 : ((255 : Int32) < c2) := m2
    have p160 : Go p.tables e below _ (T157.setTop (mkF m 56 #[.val (.ref a1), .val (.int (0 : Int32)), .val (.int (4 : Int32)), .val (.ref b102), .val (.int (2 : Int32)), .val (.ref x152)] [(.ref x152)])) := fun t_ k_ => p158 t_ (by
     refine XS.icmpYes X157.here hx rfl (pc0 := 38) (pc' := 54) rfl (hb hby d8_38) rfl (tlt c159).2.2.1 (by decide) (by decide) ?_
     refine XS.aload X157.here hx rfl (hb hby d8_54) rfl rfl ?_
     exact k_)
    obtain ⟨fs, hr, hrun, hended, hW, hsame⟩ := X157.leave (v := some (.ref x152)) (fun h => by rw [Bd.returns] at h; cases h)
    refine ⟨_, _, p160 _ (retOut X157 hx (w := (.ref x152)) (i := .areturn) Bd.returns rfl (Or.inr (Or.inr (Or.inr (Or.inr ⟨rfl, rfl, rfl⟩)))) (hb hby d8_56) hr), hrun, hended, _, _, rfl, ?_, ⟨_, rfl⟩, hW, hsame.mono (by decide) (by decide)⟩
    show Q8_U4 Z a1 k1 c0 c1 c2 c3 cs1 fm h0 n0 _ T157.heap _
    rw [q157_hh]
    exact ⟨x152, x153, rfl, N157, K154, q151_g, (Nat.le_trans K145.1 q151_z), q151_V⟩
   ·skip
    by_cases m3 : (255 : Int32) < c3
    ·have hl161 : ∀ j, j < 3 → ¬ ((255 : Int32) < own_at [c0, c1, c2, c3] j) := by
      intro j hj
      rcases (by omega : j = 0 ∨ j = 1 ∨ j = 2) with rfl | rfl | rfl
      ·exact m0
      ·exact m1
      ·exact m2
     have f162 := (V1.ext E102)
     obtain ⟨_, _, ⟨T163, L163, k163, n163⟩, -, X163, ⟨Lc163, hQ163, l163, y163, z163⟩, st163⟩ := Jvm.LawKit.callS X102 hx (y := (⟨"java/lang/StringUTF16", "compress", "([CI[BII)I"⟩ : MethodName)) hown (mvT hZ (own_w hw 46 rfl)) (mvT hZ (own_w hw 47 rfl)) (mvT hZ (own_w hw 44 rfl)) (mvT hZ (own_w hw 48 rfl)) (by decide) (backOf (W := 0) (rm9_U l Z a0 hw [] a1 b102 k1 k102 [c0, c1, c2, c3] 4 3 h102 n0 (Nat.le_trans Z0 K103.1) f162 V102 (by decide) (by decide) hl161 m3 ne_a1_b102 ge_b102) hZ (own_w hw 48 rfl) (own_w hw 44 rfl) (by decide) (by decide)) (g := (mkF m 9 #[.val (.ref a1), .val (.int (0 : Int32)), .val (.int (4 : Int32)), .val (.ref b102), .unset, .unset] [(.int (4 : Int32)), (.int (0 : Int32)), (.ref b102), (.int (0 : Int32)), (.ref a1)])) rfl (by rw [hml]; rfl) (argsL := [(.ref a1), (.int (0 : Int32)), (.ref b102), (.int (0 : Int32)), (.int (4 : Int32))]) (rest := []) (lenOf pd7 rfl) rfl (by show 2 * 0 + _ ≤ _; exact Nat.le_of_eq rfl) (hb hby d8_9) (fun _ _ => ⟨rfl, e102, (by decide : 1 + 0 ≤ _), (by decide : 4 + 0 ≤ _)⟩)
     dsimp only [Pt.U, Pt.locs, Pt.cells, Pt.slots] at X163 l163 y163 z163 st163 hQ163
     subst l163 y163 z163
     obtain ⟨rfl, N163q, q163_K, q163_V⟩ := hQ163
     have N163 := Fr.app N0 N163q
     have K164 : Keep h0 T163.heap [] := K103.trans q163_K (allS (Or.inr sz_b102) all0)
     have f165 : Arv Z T163.heap b102 k102 .byte (4 : Int32) [(.int (own_xl c0)), (.int (own_xl c1)), (.int (own_xl c2)), (.int (0 : Int32))] (.int (0 : Int32)) := q163_V
     have p166 : Go p.tables e below _ (T163.setTop (mkF m 12 #[.val (.ref a1), .val (.int (0 : Int32)), .val (.int (4 : Int32)), .val (.ref b102), .unset, .unset] [(.int (3 : Int32))])) := (gc p104 st163)
     have p167 : Go p.tables e below _ (T163.setTop (mkF m 23 #[.val (.ref a1), .val (.int (0 : Int32)), .val (.int (4 : Int32)), .val (.ref b102), .val (.int (3 : Int32)), .unset] [(.int (4 : Int32)), (.int (0 : Int32)), (.ref a1)])) := fun t_ k_ => p166 t_ (by
      refine XS.istore X163.here hx rfl (hb hby d8_12) rfl (l' := #[.val (.ref a1), .val (.int (0 : Int32)), .val (.int (4 : Int32)), .val (.ref b102), .val (.int (3 : Int32)), .unset]) rfl ?_
      refine XS.iload X163.here hx rfl (hb hby d8_14) rfl ?_
      refine XS.iloadN X163.here hx rfl (hb hby d8_16) rfl ?_
      refine XS.icmpNo X163.here hx rfl (hb hby d8_17) rfl (feq (by decide : ¬ ((3 : Int32) = (4 : Int32)))).1 ?_
      refine XS.aloadN X163.here hx rfl (hb hby d8_20) rfl rfl ?_
      refine XS.iloadN X163.here hx rfl (hb hby d8_21) rfl ?_
      refine XS.iloadN X163.here hx rfl (hb hby d8_22) rfl ?_
      exact k_)
     have f168 := (f162.keep q163_K (ninS ne_a1_b102 nin0))
     have f169 := ((O1.ext E102).keep q163_K (allS ge_b102 all0))
     obtain ⟨_, _, ⟨T170, L170, k170, n170⟩, -, X170, ⟨Lc170, hQ170, l170, y170, z170⟩, st170⟩ := Jvm.LawKit.callS X163 hx (y := (⟨"java/lang/StringUTF16", "toBytes", "([CII)[B"⟩ : MethodName)) hown (mvT hZ (own_w hw 82 rfl)) (mvT hZ (own_w hw 83 rfl)) (mvT hZ (own_w hw 44 rfl)) (mvT hZ (own_w hw 84 rfl)) (by decide) (backOf (W := 0) (rm18_U4 l Z a0 hw [] a1 k1 c0 c1 c2 c3 cs1 fm T163.heap n0 (Nat.le_trans Z0 K164.1) f169 G f168) hZ (own_w hw 84 rfl) (own_w hw 44 rfl) (by decide) (by decide)) (g := (mkF m 23 #[.val (.ref a1), .val (.int (0 : Int32)), .val (.int (4 : Int32)), .val (.ref b102), .val (.int (3 : Int32)), .unset] [(.int (4 : Int32)), (.int (0 : Int32)), (.ref a1)])) rfl (by rw [hml]; rfl) (argsL := [(.ref a1), (.int (0 : Int32)), (.int (4 : Int32))]) (rest := []) (lenOf pd8 rfl) rfl (by show 2 * 0 + _ ≤ _; exact Nat.le_of_eq rfl) (hb hby d8_23) (fun _ _ => ⟨rfl, rfl, (by decide : 1 + 1 ≤ _), (by decide : 4 + 8 ≤ _)⟩)
     dsimp only [Pt.U, Pt.locs, Pt.cells, Pt.slots] at X170 l170 y170 z170 st170 hQ170
     subst l170 y170 z170
     obtain ⟨x171, x172, rfl, N170q, q170_K, q170_g, q170_z, q170_V⟩ := hQ170
     have N170 := Fr.app N163 N170q
     have K173 : Keep h0 T170.heap [] := K164.trans q170_K all0
     have ne_a1_x171 : a1 ≠ x171 := Nat.ne_of_lt (Nat.lt_of_lt_of_le f168.lt q170_z)
     have ne_b102_x171 : b102 ≠ x171 := Nat.ne_of_lt (Nat.lt_of_lt_of_le f165.lt q170_z)
     have p174 : Go p.tables e below _ (T170.setTop (mkF m 32 #[.val (.ref a1), .val (.int (0 : Int32)), .val (.int (4 : Int32)), .val (.ref b102), .val (.int (3 : Int32)), .val (.ref x171)] [(.int (3 : Int32)), (.ref x171)])) := fun t_ k_ => (gc p167 st170) t_ (by
      refine XS.astore X170.here hx rfl (hb hby d8_26) rfl rfl (l' := #[.val (.ref a1), .val (.int (0 : Int32)), .val (.int (4 : Int32)), .val (.ref b102), .val (.int (3 : Int32)), .val (.ref x171)]) rfl ?_
      refine XS.aload X170.here hx rfl (hb hby d8_28) rfl rfl ?_
      refine XS.iload X170.here hx rfl (hb hby d8_30) rfl ?_
      exact k_)
     have f175 := (f169.keep q170_K all0)
     obtain ⟨_, _, ⟨T176, L176, k176, n176⟩, -, X176, ⟨Lc176, hQ176, l176, y176, z176⟩, st176⟩ := Jvm.LawKit.callS X170 hx (y := (⟨"java/lang/StringUTF16", "getChar", "([BI)C"⟩ : MethodName)) hown (mvT hZ (own_w hw 98 rfl)) (mvT hZ (own_w hw 99 rfl)) (mvT hZ (own_w hw 44 rfl)) (mvT hZ (own_w hw 100 rfl)) (by decide) (backOf (W := 0) (rm22 l Z a0 hw [] x171 (3 : Int32) x172 (8 : Int32) [(.int (own_x0 c0)), (.int (own_x8 c0)), (.int (own_x0 c1)), (.int (own_x8 c1)), (.int (own_x0 c2)), (.int (own_x8 c2)), (.int (own_x0 c3)), (.int (own_x8 c3))] (own_x0 c3) (own_x8 c3) c3 cs1 fm T170.heap n0 (Nat.le_trans Z0 K173.1) f175 G q170_V (by decide) (by decide) rfl rfl (own_l16 c3 a3_ b3_)) hZ (own_w hw 100 rfl) (own_w hw 44 rfl) (by decide) (by decide)) (g := (mkF m 32 #[.val (.ref a1), .val (.int (0 : Int32)), .val (.int (4 : Int32)), .val (.ref b102), .val (.int (3 : Int32)), .val (.ref x171)] [(.int (3 : Int32)), (.ref x171)])) rfl (by rw [hml]; rfl) (argsL := [(.ref x171), (.int (3 : Int32))]) (rest := []) (lenOf pd4 rfl) rfl (by show 2 * 0 + _ ≤ _; exact Nat.le_of_eq rfl) (hb hby d8_32) (fun _ _ => ⟨rfl, rfl, (by decide : 2 + 0 ≤ _), (by decide : 12 + 0 ≤ _)⟩)
     dsimp only [Pt.U, Pt.locs, Pt.cells, Pt.slots] at X176 l176 y176 z176 st176 hQ176
     subst l176 y176 z176
     obtain ⟨rfl, N176q, q176_hh⟩ := hQ176
     have N176 := Fr.app N170 N176q
     have p177 : Go p.tables e below _ (T176.setTop (mkF m 38 #[.val (.ref a1), .val (.int (0 : Int32)), .val (.int (4 : Int32)), .val (.ref b102), .val (.int (3 : Int32)), .val (.ref x171)] [(.int (255 : Int32)), (.int c3)])) := fun t_ k_ => (gc p174 st176) t_ (by
      refine XS.sipush X176.here hx rfl (hb hby d8_35) ?_
      exact k_)
     have c178 : ((255 : Int32) < c3) := m3
     have p179 : Go p.tables e below _ (T176.setTop (mkF m 56 #[.val (.ref a1), .val (.int (0 : Int32)), .val (.int (4 : Int32)), .val (.ref b102), .val (.int (3 : Int32)), .val (.ref x171)] [(.ref x171)])) := fun t_ k_ => p177 t_ (by
      refine XS.icmpYes X176.here hx rfl (pc0 := 38) (pc' := 54) rfl (hb hby d8_38) rfl (tlt c178).2.2.1 (by decide) (by decide) ?_
      refine XS.aload X176.here hx rfl (hb hby d8_54) rfl rfl ?_
      exact k_)
     obtain ⟨fs, hr, hrun, hended, hW, hsame⟩ := X176.leave (v := some (.ref x171)) (fun h => by rw [Bd.returns] at h; cases h)
     refine ⟨_, _, p179 _ (retOut X176 hx (w := (.ref x171)) (i := .areturn) Bd.returns rfl (Or.inr (Or.inr (Or.inr (Or.inr ⟨rfl, rfl, rfl⟩)))) (hb hby d8_56) hr), hrun, hended, _, _, rfl, ?_, ⟨_, rfl⟩, hW, hsame.mono (by decide) (by decide)⟩
     show Q8_U4 Z a1 k1 c0 c1 c2 c3 cs1 fm h0 n0 _ T176.heap _
     rw [q176_hh]
     exact ⟨x171, x172, rfl, N176, K173, q170_g, (Nat.le_trans K164.1 q170_z), q170_V⟩
    ·exact absurd big (by simp [m0, m1, m2, m3])
theorem ef_rm10_U4 (m : MethodId) (a1 : Addr) (k1 : ClassId) (vs : List Value) : entryFrame m #[(.ref a1), (.int (4 : Int32))] 2 = mkF m 0 #[.val (.ref a1), .val (.int (4 : Int32))] [] := by first | (simp [entryFrame, mkF, argsToLocals, Value.category]; done) | rfl
def Q10_U4 (Z : State) (a1 : Addr) (k1 : ClassId) (vs : List Value) (h0 : Heap) (n0 : Nat) (v : Option Value) (h : Heap) (L : List Loc) : Prop := v = some (.int (1 : Int32)) ∧ Fr n0 L ∧ (h = h0)
set_option maxRecDepth 65536 in
set_option maxHeartbeats 40000000 in
theorem rm10_U4 (l : Launch) (Z : State) (a0 : Array Value) (hw : ∀ d ∈ tables_1, d.before a0 Z = true) (ws : List Jvm.Cond) (a1 : Addr) (k1 : ClassId) (vs : List Value) (h0 : Heap) (n0 : Nat) (Z0 : n0 ≤ h0.size) (V1 : Arv Z h0 a1 k1 .byte (8 : Int32) vs (.int (0 : Int32))) :
  MetFree l (⟨"java/lang/StringUTF16", "coderFromArrayLen", "([BI)B"⟩ : MethodName) (head1 (Jvm.Cond.code (⟨"java/lang/StringUTF16", "coderFromArrayLen", "([BI)B"⟩ : MethodName) jdk_52_method_15_code 2 (some .byte) :: ws) ({ frames := 0, cells := 0, slots := 0, locals := 0 } : Room)) (fun a U => a = #[(.ref a1), (.int (4 : Int32))] ∧ Z.Warmed39 U.vm ∧ U.heap = h0) (fun _ _ _ _ _ => True) (fun _ U o U' => ∃ v L, o = .returned v ∧ Q10_U4 Z a1 k1 vs h0 n0 v U'.heap L ∧ FrameEnd U o U' L ({ frames := 0, cells := 0, slots := 0, locals := 0 } : Room).cells ({ frames := 0, cells := 0, slots := 0, locals := 0 } : Room).slots) := by
 refine MetFree.of_bodySF pn10 hisR ?_
 intro p e s m args below meth c s₁ Bd hml0 hP hK
 obtain ⟨rfl, hZ, hh⟩ := hP
 have hx := Bd.exec
 have hby := Bd.bytes
 have hml : c.maxLocals = 2 := hml0
 have hown : s.vm.findClass "java/lang/StringUTF16" = some m.cls := findClass_of_methodNamed Bd.named
 have hnm := (name_of_methodNamed Bd.named Bd.method).1
 have X0 : Stand p l e ({ frames := 0, cells := 0, slots := 0, locals := 0 } : Room) s m #[(.ref a1), (.int (4 : Int32))] below meth c s₁ [] 0 0 := Stand.of_body Bd
 have e0 : s₁.heap = h0 := by rw [← hh, Bd.state]; rfl
 have N0 := Fr.nil n0
 have p0 : Go p.tables e below (s₁.setTop (entryFrame m #[(.ref a1), (.int (4 : Int32))] 2)) (s₁.setTop (mkF m 0 #[.val (.ref a1), .val (.int (4 : Int32))] [])) := fun t_ k_ => castTop (ef_rm10_U4 m a1 k1 vs) k_
 have p101 : Go p.tables e below _ (s₁.setTop (mkF m 2 #[.val (.ref a1), .val (.int (4 : Int32))] [(.ref a1), (.int (4 : Int32))])) := fun t_ k_ => p0 t_ (by
  refine XS.iloadN X0.here hx rfl (hb hby d10_0) rfl ?_
  refine XS.aloadN X0.here hx rfl (hb hby d10_1) rfl rfl ?_
  exact k_)
 obtain ⟨cl102, Ar102, -, S102, Ng102, -, -⟩ := id V1
 have p103 : Go p.tables e below _ (s₁.setTop (mkF m 8 #[.val (.ref a1), .val (.int (4 : Int32))] [(.int (1 : Int32))])) := fun t_ k_ => p101 t_ (by
  refine X0.arraylength hx (by rw [e0]; exact Ar102.1) (State.isArrayOf_alike hZ.alike Ar102.2.1) (g := (mkF m 2 #[.val (.ref a1), .val (.int (4 : Int32))] [(.ref a1), (.int (4 : Int32))])) rfl rfl (hb hby d10_2) _ ?_
  rw [len_of S102 Ng102]
  show Steps p.tables e below (s₁.setTop (mkF m 3 #[.val (.ref a1), .val (.int (4 : Int32))] [(.int (8 : Int32)), (.int (4 : Int32))])) _
  refine XS.isub X0.here hx rfl (hb hby d10_3) rfl ?_
  refine XS.bipush X0.here hx rfl (hb hby d10_4) ?_
  refine XS.iushr X0.here hx rfl (hb hby d10_6) rfl ?_
  refine XS.i2b X0.here hx rfl (hb hby d10_7) rfl ?_
  exact k_)
 obtain ⟨fs, hr, hrun, hended, hW, hsame⟩ := X0.leave (v := some (.int (1 : Int32))) (fun h => by rw [Bd.returns] at h; cases h)
 refine ⟨_, _, p103 _ (retN X0 hx (t := .byte) Bd.returns (by simp) (hb hby d10_8) hr), hrun, hended, _, _, rfl, ?_, ⟨_, rfl⟩, hW, hsame.mono (by decide) (by decide)⟩
 show Q10_U4 Z a1 k1 vs h0 n0 _ s₁.heap _
 rw [e0]
 exact ⟨rfl, N0, rfl⟩
theorem ef_rm3_U4 (m : MethodId) (a1 : Addr) (a2 : Addr) (k1 : ClassId) (c0 : Int32) (c1 : Int32) (c2 : Int32) (c3 : Int32) (cs1 : Int32) (fm : Value) : entryFrame m #[(.ref a1), (.ref a2), (.int (0 : Int32)), (.int (4 : Int32)), .null] 6 = mkF m 0 #[.val (.ref a1), .val (.ref a2), .val (.int (0 : Int32)), .val (.int (4 : Int32)), .val .null, .unset] [] := by first | (simp [entryFrame, mkF, argsToLocals, Value.category]; done) | rfl
def Q3_U4 (Z : State) (a1 : Addr) (a2 : Addr) (k1 : ClassId) (c0 : Int32) (c1 : Int32) (c2 : Int32) (c3 : Int32) (cs1 : Int32) (fm : Value) (h0 : Heap) (n0 : Nat) (v : Option Value) (h : Heap) (L : List Loc) : Prop := ∃ (b : Addr) (kb : ClassId), v = none ∧ Fr n0 L ∧ (Keep h0 h [a1]) ∧ (Exa Z h a1 "java/lang/String") ∧ (Fld Z h a1 "java/lang/String" "coder" "B" (.int (1 : Int32))) ∧ (Fld Z h a1 "java/lang/String" "value" "[B" (.ref b)) ∧ (n0 ≤ b) ∧ (h0.size ≤ b) ∧ (Arv Z h b kb .byte (8 : Int32) [(.int (own_x0 c0)), (.int (own_x8 c0)), (.int (own_x0 c1)), (.int (own_x8 c1)), (.int (own_x0 c2)), (.int (own_x8 c2)), (.int (own_x0 c3)), (.int (own_x8 c3))] (.int (0 : Int32))) ∧ (a1 ≠ b)
set_option maxRecDepth 65536 in
set_option maxHeartbeats 40000000 in
theorem rm3_U4 (l : Launch) (Z : State) (a0 : Array Value) (hw : ∀ d ∈ tables_1, d.before a0 Z = true) (ws : List Jvm.Cond) (a1 : Addr) (a2 : Addr) (k1 : ClassId) (c0 : Int32) (c1 : Int32) (c2 : Int32) (c3 : Int32) (cs1 : Int32) (fm : Value) (h0 : Heap) (n0 : Nat) (Z0 : n0 ≤ h0.size) (O1 : Old Z n0 h0) (G : own_G Z cs1 fm) (F1 : Fld Z h0 a1 "java/lang/String" "coder" "B" (.int (0 : Int32))) (F2 : Fld Z h0 a1 "java/lang/String" "value" "[B" .null) (E1 : Exa Z h0 a1 "java/lang/String") (V1 : Arv Z h0 a2 k1 .char (4 : Int32) [(.int c0), (.int c1), (.int c2), (.int c3)] (.int (0 : Int32))) (ne : a1 ≠ a2) (g1 : n0 ≤ a1) (a0_ : ¬ (c0 < (0 : Int32))) (b0_ : ¬ ((65535 : Int32) < c0)) (a1_ : ¬ (c1 < (0 : Int32))) (b1_ : ¬ ((65535 : Int32) < c1)) (a2_ : ¬ (c2 < (0 : Int32))) (b2_ : ¬ ((65535 : Int32) < c2)) (a3_ : ¬ (c3 < (0 : Int32))) (b3_ : ¬ ((65535 : Int32) < c3)) (big : ((255 : Int32) < c0) ∨ ((255 : Int32) < c1) ∨ ((255 : Int32) < c2) ∨ ((255 : Int32) < c3)) :
  MetFree l (⟨"java/lang/String", "<init>", "([CIILjava/lang/Void;)V"⟩ : MethodName) (head1 (Jvm.Cond.code (⟨"java/lang/String", "<init>", "([CIILjava/lang/Void;)V"⟩ : MethodName) jdk_42_method_149_code 6 none :: ws) ({ frames := 4, cells := 2, slots := 12, locals := 57 } : Room)) (fun a U => a = #[(.ref a1), (.ref a2), (.int (0 : Int32)), (.int (4 : Int32)), .null] ∧ Z.Warmed39 U.vm ∧ U.heap = h0) (fun _ _ _ _ _ => True) (fun _ U o U' => ∃ v L, o = .returned v ∧ Q3_U4 Z a1 a2 k1 c0 c1 c2 c3 cs1 fm h0 n0 v U'.heap L ∧ FrameEnd U o U' L ({ frames := 4, cells := 2, slots := 12, locals := 57 } : Room).cells ({ frames := 4, cells := 2, slots := 12, locals := 57 } : Room).slots) := by
 refine MetFree.of_bodySF pn3 hisR ?_
 intro p e s m args below meth c s₁ Bd hml0 hP hK
 obtain ⟨rfl, hZ, hh⟩ := hP
 have hx := Bd.exec
 have hby := Bd.bytes
 have hml : c.maxLocals = 6 := hml0
 have hown : s.vm.findClass "java/lang/String" = some m.cls := findClass_of_methodNamed Bd.named
 have hnm := (name_of_methodNamed Bd.named Bd.method).1
 have X0 : Stand p l e ({ frames := 4, cells := 2, slots := 12, locals := 57 } : Room) s m #[(.ref a1), (.ref a2), (.int (0 : Int32)), (.int (4 : Int32)), .null] below meth c s₁ [] 0 0 := Stand.of_body Bd
 have e0 : s₁.heap = h0 := by rw [← hh, Bd.state]; rfl
 have N0 := Fr.nil n0
 have p0 : Go p.tables e below (s₁.setTop (entryFrame m #[(.ref a1), (.ref a2), (.int (0 : Int32)), (.int (4 : Int32)), .null] 6)) (s₁.setTop (mkF m 0 #[.val (.ref a1), .val (.ref a2), .val (.int (0 : Int32)), .val (.int (4 : Int32)), .val .null, .unset] [])) := fun t_ k_ => castTop (ef_rm3_U4 m a1 a2 k1 c0 c1 c2 c3 cs1 fm) k_
 have p101 : Go p.tables e below _ (s₁.setTop (mkF m 1 #[.val (.ref a1), .val (.ref a2), .val (.int (0 : Int32)), .val (.int (4 : Int32)), .val .null, .unset] [(.ref a1)])) := fun t_ k_ => p0 t_ (by
  refine XS.aloadN X0.here hx rfl (hb hby d3_0) rfl rfl ?_
  exact k_)
 obtain ⟨T102, X102, e102, st102⟩ := initO X0 hx hZ hown (own_w hw 16 rfl) (own_w hw 17 rfl) (own_w hw 18 rfl) e0 (g := (mkF m 1 #[.val (.ref a1), .val (.ref a2), .val (.int (0 : Int32)), .val (.int (4 : Int32)), .val .null, .unset] [(.ref a1)])) rfl (by rw [hml]; rfl) rfl (hb hby d3_1) (by decide) (W := 0) (by show 2 * 0 + _ ≤ _; exact Nat.le_of_eq rfl) (by decide)
 have p103 : Go p.tables e below _ (T102.setTop (mkF m 27 #[.val (.ref a1), .val (.ref a2), .val (.int (0 : Int32)), .val (.int (4 : Int32)), .val .null, .unset] [])) := fun t_ k_ => (gc p101 st102) t_ (by
  refine XS.iloadN X102.here hx rfl (hb hby d3_4) rfl ?_
  refine XS.ifYes X102.here hx rfl (pc0 := 5) (pc' := 27) rfl (hb hby d3_5) rfl ((if0 _ _).trans (feq (by decide : ¬ ((4 : Int32) = (0 : Int32)))).2) (by decide) (by decide) ?_
  exact k_)
 obtain ⟨T104, X104, e104, st104⟩ := getS2 X102 hx hZ hown (host := "") (Or.inl (own_w hw 41 rfl)) Via.refl e102 (G.1.ext O1.2) (g := (mkF m 27 #[.val (.ref a1), .val (.ref a2), .val (.int (0 : Int32)), .val (.int (4 : Int32)), .val .null, .unset] [])) rfl (hb hby d3_27)
 have c105 : ¬ (cs1 = (0 : Int32)) := G.2.1
 have p106 : Go p.tables e below _ (T104.setTop (mkF m 36 #[.val (.ref a1), .val (.ref a2), .val (.int (0 : Int32)), .val (.int (4 : Int32)), .val .null, .unset] [(.int (4 : Int32)), (.int (0 : Int32)), (.ref a2)])) := fun t_ k_ => (gc p103 st104) t_ (by
  refine XS.ifNo X104.here hx rfl (hb hby d3_30) rfl ((if0 _ _).trans (feq c105).1) ?_
  refine XS.aloadN X104.here hx rfl (hb hby d3_33) rfl rfl ?_
  refine XS.iloadN X104.here hx rfl (hb hby d3_34) rfl ?_
  refine XS.iloadN X104.here hx rfl (hb hby d3_35) rfl ?_
  exact k_)
 obtain ⟨_, _, ⟨T107, L107, k107, n107⟩, -, X107, ⟨Lc107, hQ107, l107, y107, z107⟩, st107⟩ := Jvm.LawKit.callS X104 hx (y := (⟨"java/lang/StringUTF16", "compress", "([CII)[B"⟩ : MethodName)) hown (mvT hZ (own_w hw 42 rfl)) (mvT hZ (own_w hw 43 rfl)) (mvT hZ (own_w hw 44 rfl)) (mvT hZ (own_w hw 45 rfl)) (by decide) (backOf (W := 0) (rm8_U4 l Z a0 hw [] a2 k1 c0 c1 c2 c3 cs1 fm h0 n0 (Nat.le_trans Z0 (Keep.refl h0 [a1]).1) O1 G V1 a0_ b0_ a1_ b1_ a2_ b2_ a3_ b3_ big) hZ (own_w hw 45 rfl) (own_w hw 44 rfl) (by decide) (by decide)) (g := (mkF m 36 #[.val (.ref a1), .val (.ref a2), .val (.int (0 : Int32)), .val (.int (4 : Int32)), .val .null, .unset] [(.int (4 : Int32)), (.int (0 : Int32)), (.ref a2)])) rfl (by rw [hml]; rfl) (argsL := [(.ref a2), (.int (0 : Int32)), (.int (4 : Int32))]) (rest := []) (lenOf pd8 rfl) rfl (by show 2 * 0 + _ ≤ _; exact Nat.le_of_eq rfl) (hb hby d3_36) (fun _ _ => ⟨rfl, e104, (by decide : 0 + 2 ≤ _), (by decide : 0 + 12 ≤ _)⟩)
 dsimp only [Pt.U, Pt.locs, Pt.cells, Pt.slots] at X107 l107 y107 z107 st107 hQ107
 subst l107 y107 z107
 obtain ⟨x108, x109, rfl, N107q, q107_K, q107_g, q107_z, q107_V⟩ := hQ107
 have N107 := Fr.app N0 N107q
 have K110 : Keep h0 T107.heap [a1] := (Keep.refl h0 [a1]).trans q107_K all0
 have ne_a1_x108 : a1 ≠ x108 := Nat.ne_of_lt (Nat.lt_of_lt_of_le E1.lt q107_z)
 have ne_a2_x108 : a2 ≠ x108 := Nat.ne_of_lt (Nat.lt_of_lt_of_le V1.lt q107_z)
 have p111 : Go p.tables e below _ (T107.setTop (mkF m 45 #[.val (.ref a1), .val (.ref a2), .val (.int (0 : Int32)), .val (.int (4 : Int32)), .val .null, .val (.ref x108)] [(.int (4 : Int32)), (.ref x108), (.ref a1)])) := fun t_ k_ => (gc p106 st107) t_ (by
  refine XS.astore X107.here hx rfl (hb hby d3_39) rfl rfl (l' := #[.val (.ref a1), .val (.ref a2), .val (.int (0 : Int32)), .val (.int (4 : Int32)), .val .null, .val (.ref x108)]) rfl ?_
  refine XS.aloadN X107.here hx rfl (hb hby d3_41) rfl rfl ?_
  refine XS.aload X107.here hx rfl (hb hby d3_42) rfl rfl ?_
  refine XS.iloadN X107.here hx rfl (hb hby d3_44) rfl ?_
  exact k_)
 obtain ⟨_, _, ⟨T112, L112, k112, n112⟩, -, X112, ⟨Lc112, hQ112, l112, y112, z112⟩, st112⟩ := Jvm.LawKit.callS X107 hx (y := (⟨"java/lang/StringUTF16", "coderFromArrayLen", "([BI)B"⟩ : MethodName)) hown (mvT hZ (own_w hw 49 rfl)) (mvT hZ (own_w hw 50 rfl)) (mvT hZ (own_w hw 44 rfl)) (mvT hZ (own_w hw 51 rfl)) (by decide) (backOf (W := 1) (rm10_U4 l Z a0 hw [] x108 x109 [(.int (own_x0 c0)), (.int (own_x8 c0)), (.int (own_x0 c1)), (.int (own_x8 c1)), (.int (own_x0 c2)), (.int (own_x8 c2)), (.int (own_x0 c3)), (.int (own_x8 c3))] T107.heap n0 (Nat.le_trans Z0 K110.1) q107_V) hZ (own_w hw 51 rfl) (own_w hw 44 rfl) (by decide) (by decide)) (g := (mkF m 45 #[.val (.ref a1), .val (.ref a2), .val (.int (0 : Int32)), .val (.int (4 : Int32)), .val .null, .val (.ref x108)] [(.int (4 : Int32)), (.ref x108), (.ref a1)])) rfl (by rw [hml]; rfl) (argsL := [(.ref x108), (.int (4 : Int32))]) (rest := [(.ref a1)]) (lenOf pd9 rfl) rfl (by show 2 * 0 + _ ≤ _; exact Nat.le_of_eq rfl) (hb hby d3_45) (fun _ _ => ⟨rfl, rfl, (by decide : 2 + 0 ≤ _), (by decide : 12 + 0 ≤ _)⟩)
 dsimp only [Pt.U, Pt.locs, Pt.cells, Pt.slots] at X112 l112 y112 z112 st112 hQ112
 subst l112 y112 z112
 obtain ⟨rfl, N112q, q112_hh⟩ := hQ112
 have N112 := Fr.app N107 N112q
 have f113 := (F1.keep q107_K nin0)
 have f114 := (E1.keep q107_K)
 obtain ⟨T115, h115, X115, e115, W115, st115⟩ := putFN X112 hx hZ hown (own_w hw 26 rfl) Via.refl q112_hh f113 f114 (Or.inr ⟨(own_w hw 22 rfl), rfl, hnm⟩) (own_w hw 7 rfl) (ty := .byte) (v' := (.int (1 : Int32))) (by decide) rfl (by decide) (g := (mkF m 48 #[.val (.ref a1), .val (.ref a2), .val (.int (0 : Int32)), .val (.int (4 : Int32)), .val .null, .val (.ref x108)] [(.int (1 : Int32)), (.ref a1)])) rfl rfl (hb hby d3_48)
 have K116 : Keep h0 h115 [a1] := K110.wr W115 (Or.inl (List.mem_of_getElem? (i := 0) rfl))
 have N115 := Fr.snoc X115 N112 g1
 have F115 : Fld Z h115 a1 "java/lang/String" "coder" "B" (.int (1 : Int32)) := f113.same W115
 have p117 : Go p.tables e below _ (T115.setTop (mkF m 54 #[.val (.ref a1), .val (.ref a2), .val (.int (0 : Int32)), .val (.int (4 : Int32)), .val .null, .val (.ref x108)] [(.ref x108), (.ref a1)])) := fun t_ k_ => (gc (gc p111 st112) st115) t_ (by
  refine XS.aloadN X115.here hx rfl (hb hby d3_51) rfl rfl ?_
  refine XS.aload X115.here hx rfl (hb hby d3_52) rfl rfl ?_
  exact k_)
 have f118 := ((F2.keep q107_K nin0).other W115 (Or.inr (slot_ne (Or.inr (own_w hw 21 rfl)) (Or.inr (own_w hw 22 rfl)) (by decide) (t := (.array .byte)) (t' := .byte) (by decide) (by decide))))
 have f119 := (f114.wr W115)
 obtain ⟨T120, h120, X120, e120, W120, st120⟩ := putF X115 hx hZ hown (host := "") (Or.inl (own_w hw 25 rfl)) Via.refl e115 f118 f119 (Or.inr ⟨(own_w hw 21 rfl), rfl, hnm⟩) (own_w hw 7 rfl) (ty := (.array .byte)) (by decide) rfl rfl (g := (mkF m 54 #[.val (.ref a1), .val (.ref a2), .val (.int (0 : Int32)), .val (.int (4 : Int32)), .val .null, .val (.ref x108)] [(.ref x108), (.ref a1)])) rfl rfl (hb hby d3_54)
 have K121 : Keep h0 h120 [a1] := K116.wr W120 (Or.inl (List.mem_of_getElem? (i := 0) rfl))
 have N120 := Fr.snoc X120 N115 g1
 have F120 : Fld Z h120 a1 "java/lang/String" "value" "[B" (.ref x108) := f118.same W120
 have f122 := (f119.wr W120)
 have f123 := (F115.other W120 (Or.inr (slot_ne (Or.inr (own_w hw 22 rfl)) (Or.inr (own_w hw 21 rfl)) (by decide) (t := .byte) (t' := (.array .byte)) (by decide) (by decide))))
 have f124 := ((q107_V.other W115 (Ne.symm ne_a1_x108)).other W120 (Ne.symm ne_a1_x108))
 obtain ⟨fs, hr, hrun, hended, hW, hsame⟩ := X120.leave (v := none) (fun _ => rfl)
 refine ⟨_, _, (gc p117 st120) _ (X120.returnOut hx Bd.returns (hb hby d3_57) hr), hrun, hended, _, _, rfl, ?_, ⟨_, rfl⟩, hW, hsame.mono (by decide) (by decide)⟩
 show Q3_U4 Z a1 a2 k1 c0 c1 c2 c3 cs1 fm h0 n0 _ T120.heap _
 rw [e120]
 exact ⟨x108, x109, rfl, N120, K121, f122, f123, F120, q107_g, (Nat.le_trans (Keep.refl h0 [a1]).1 q107_z), f124, ne_a1_x108⟩
theorem ef_rm2_U4 (m : MethodId) (a1 : Addr) (a2 : Addr) (k1 : ClassId) (c0 : Int32) (c1 : Int32) (c2 : Int32) (c3 : Int32) (cs1 : Int32) (fm : Value) : entryFrame m #[(.ref a1), (.ref a2)] 2 = mkF m 0 #[.val (.ref a1), .val (.ref a2)] [] := by first | (simp [entryFrame, mkF, argsToLocals, Value.category]; done) | rfl
def Q2_U4 (Z : State) (a1 : Addr) (a2 : Addr) (k1 : ClassId) (c0 : Int32) (c1 : Int32) (c2 : Int32) (c3 : Int32) (cs1 : Int32) (fm : Value) (h0 : Heap) (n0 : Nat) (v : Option Value) (h : Heap) (L : List Loc) : Prop := ∃ (b : Addr) (kb : ClassId), v = none ∧ Fr n0 L ∧ (Keep h0 h [a1]) ∧ (Exa Z h a1 "java/lang/String") ∧ (Fld Z h a1 "java/lang/String" "coder" "B" (.int (1 : Int32))) ∧ (Fld Z h a1 "java/lang/String" "value" "[B" (.ref b)) ∧ (n0 ≤ b) ∧ (h0.size ≤ b) ∧ (Arv Z h b kb .byte (8 : Int32) [(.int (own_x0 c0)), (.int (own_x8 c0)), (.int (own_x0 c1)), (.int (own_x8 c1)), (.int (own_x0 c2)), (.int (own_x8 c2)), (.int (own_x0 c3)), (.int (own_x8 c3))] (.int (0 : Int32))) ∧ (a1 ≠ b)
set_option maxRecDepth 65536 in
set_option maxHeartbeats 40000000 in
theorem rm2_U4 (l : Launch) (Z : State) (a0 : Array Value) (hw : ∀ d ∈ tables_1, d.before a0 Z = true) (ws : List Jvm.Cond) (a1 : Addr) (a2 : Addr) (k1 : ClassId) (c0 : Int32) (c1 : Int32) (c2 : Int32) (c3 : Int32) (cs1 : Int32) (fm : Value) (h0 : Heap) (n0 : Nat) (Z0 : n0 ≤ h0.size) (O1 : Old Z n0 h0) (G : own_G Z cs1 fm) (F1 : Fld Z h0 a1 "java/lang/String" "coder" "B" (.int (0 : Int32))) (F2 : Fld Z h0 a1 "java/lang/String" "value" "[B" .null) (E1 : Exa Z h0 a1 "java/lang/String") (V1 : Arv Z h0 a2 k1 .char (4 : Int32) [(.int c0), (.int c1), (.int c2), (.int c3)] (.int (0 : Int32))) (ne : a1 ≠ a2) (g1 : n0 ≤ a1) (a0_ : ¬ (c0 < (0 : Int32))) (b0_ : ¬ ((65535 : Int32) < c0)) (a1_ : ¬ (c1 < (0 : Int32))) (b1_ : ¬ ((65535 : Int32) < c1)) (a2_ : ¬ (c2 < (0 : Int32))) (b2_ : ¬ ((65535 : Int32) < c2)) (a3_ : ¬ (c3 < (0 : Int32))) (b3_ : ¬ ((65535 : Int32) < c3)) (big : ((255 : Int32) < c0) ∨ ((255 : Int32) < c1) ∨ ((255 : Int32) < c2) ∨ ((255 : Int32) < c3)) :
  MetFree l (⟨"java/lang/String", "<init>", "([C)V"⟩ : MethodName) (head1 (Jvm.Cond.code (⟨"java/lang/String", "<init>", "([C)V"⟩ : MethodName) jdk_42_method_3_code 2 none :: ws) ({ frames := 5, cells := 2, slots := 12, locals := 74 } : Room)) (fun a U => a = #[(.ref a1), (.ref a2)] ∧ Z.Warmed39 U.vm ∧ U.heap = h0) (fun _ _ _ _ _ => True) (fun _ U o U' => ∃ v L, o = .returned v ∧ Q2_U4 Z a1 a2 k1 c0 c1 c2 c3 cs1 fm h0 n0 v U'.heap L ∧ FrameEnd U o U' L ({ frames := 5, cells := 2, slots := 12, locals := 74 } : Room).cells ({ frames := 5, cells := 2, slots := 12, locals := 74 } : Room).slots) := by
 refine MetFree.of_bodySF pn2 hisR ?_
 intro p e s m args below meth c s₁ Bd hml0 hP hK
 obtain ⟨rfl, hZ, hh⟩ := hP
 have hx := Bd.exec
 have hby := Bd.bytes
 have hml : c.maxLocals = 2 := hml0
 have hown : s.vm.findClass "java/lang/String" = some m.cls := findClass_of_methodNamed Bd.named
 have hnm := (name_of_methodNamed Bd.named Bd.method).1
 have X0 : Stand p l e ({ frames := 5, cells := 2, slots := 12, locals := 74 } : Room) s m #[(.ref a1), (.ref a2)] below meth c s₁ [] 0 0 := Stand.of_body Bd
 have e0 : s₁.heap = h0 := by rw [← hh, Bd.state]; rfl
 have N0 := Fr.nil n0
 have p0 : Go p.tables e below (s₁.setTop (entryFrame m #[(.ref a1), (.ref a2)] 2)) (s₁.setTop (mkF m 0 #[.val (.ref a1), .val (.ref a2)] [])) := fun t_ k_ => castTop (ef_rm2_U4 m a1 a2 k1 c0 c1 c2 c3 cs1 fm) k_
 have p101 : Go p.tables e below _ (s₁.setTop (mkF m 4 #[.val (.ref a1), .val (.ref a2)] [(.ref a2), (.int (0 : Int32)), (.ref a2), (.ref a1)])) := fun t_ k_ => p0 t_ (by
  refine XS.aloadN X0.here hx rfl (hb hby d2_0) rfl rfl ?_
  refine XS.aloadN X0.here hx rfl (hb hby d2_1) rfl rfl ?_
  refine XS.iconst X0.here hx rfl (hb hby d2_2) ?_
  refine XS.aloadN X0.here hx rfl (hb hby d2_3) rfl rfl ?_
  exact k_)
 obtain ⟨cl102, Ar102, -, S102, Ng102, -, -⟩ := id V1
 have p103 : Go p.tables e below _ (s₁.setTop (mkF m 6 #[.val (.ref a1), .val (.ref a2)] [.null, (.int (4 : Int32)), (.int (0 : Int32)), (.ref a2), (.ref a1)])) := fun t_ k_ => p101 t_ (by
  refine X0.arraylength hx (by rw [e0]; exact Ar102.1) (State.isArrayOf_alike hZ.alike Ar102.2.1) (g := (mkF m 4 #[.val (.ref a1), .val (.ref a2)] [(.ref a2), (.int (0 : Int32)), (.ref a2), (.ref a1)])) rfl rfl (hb hby d2_4) _ ?_
  rw [len_of S102 Ng102]
  show Steps p.tables e below (s₁.setTop (mkF m 5 #[.val (.ref a1), .val (.ref a2)] [(.int (4 : Int32)), (.int (0 : Int32)), (.ref a2), (.ref a1)])) _
  refine XS.aconstNull X0.here hx rfl (hb hby d2_5) ?_
  exact k_)
 obtain ⟨_, _, ⟨T104, L104, k104, n104⟩, -, X104, ⟨Lc104, hQ104, l104, y104, z104⟩, st104⟩ := X0.specialBack hx (y := (⟨"java/lang/String", "<init>", "([CIILjava/lang/Void;)V"⟩ : MethodName)) rfl hown (mvT hZ (own_w hw 12 rfl)) (mvT hZ (own_w hw 13 rfl)) (mvT hZ (own_w hw 15 rfl)) (by decide) (backOf (W := 0) (rm3_U4 l Z a0 hw [] a1 a2 k1 c0 c1 c2 c3 cs1 fm h0 n0 (Nat.le_trans Z0 (Keep.refl h0 [a1]).1) O1 G F1 F2 E1 V1 ne g1 a0_ b0_ a1_ b1_ a2_ b2_ a3_ b3_ big) hZ (own_w hw 15 rfl) (own_w hw 8 rfl) (by decide) (by decide)) (g := (mkF m 6 #[.val (.ref a1), .val (.ref a2)] [.null, (.int (4 : Int32)), (.int (0 : Int32)), (.ref a2), (.ref a1)])) rfl (by rw [hml]; rfl) (Steps.refl _) (a := a1) (argsL := [(.ref a2), (.int (0 : Int32)), (.int (4 : Int32)), .null]) (rest := []) (lenOf pd10 rfl) rfl (by show 2 * 0 + _ ≤ _; exact Nat.le_of_eq rfl) (hb hby d2_6) (fun _ _ => ⟨rfl, e0, (by decide : 0 + 2 ≤ _), (by decide : 0 + 12 ≤ _)⟩)
 dsimp only [Pt.U, Pt.locs, Pt.cells, Pt.slots] at X104 l104 y104 z104 st104 hQ104
 subst l104 y104 z104
 obtain ⟨x105, x106, rfl, N104q, q104_K, q104_E, q104_c, q104_v, q104_g, q104_z, q104_V, q104_n⟩ := hQ104
 have N104 := Fr.app N0 N104q
 have K107 : Keep h0 T104.heap [a1] := (Keep.refl h0 [a1]).trans q104_K (allS (Or.inl (List.mem_of_getElem? (i := 0) rfl)) all0)
 have ne_a1_x105 : a1 ≠ x105 := Nat.ne_of_lt (Nat.lt_of_lt_of_le E1.lt q104_z)
 have ne_a2_x105 : a2 ≠ x105 := Nat.ne_of_lt (Nat.lt_of_lt_of_le V1.lt q104_z)
 obtain ⟨fs, hr, hrun, hended, hW, hsame⟩ := X104.leave (v := none) (fun _ => rfl)
 refine ⟨_, _, (gcT p103 st104) _ (X104.returnOut hx Bd.returns (hb hby d2_9) hr), hrun, hended, _, _, rfl, ?_, ⟨_, rfl⟩, hW, hsame.mono (by decide) (by decide)⟩
 show Q2_U4 Z a1 a2 k1 c0 c1 c2 c3 cs1 fm h0 n0 _ T104.heap _
 exact ⟨x105, x106, rfl, N104, K107, q104_E, q104_c, q104_v, q104_g, (Nat.le_trans (Keep.refl h0 [a1]).1 q104_z), q104_V, q104_n⟩
theorem d3_8 : decode jdk_42_method_149_code 8 = .ok (.aload_n 0, 1) := by decide +kernel
theorem d3_9 : decode jdk_42_method_149_code 9 = .ok (.ldc 7, 2) := by decide +kernel
theorem d3_11 : decode jdk_42_method_149_code 11 = .ok (.getfield 9, 3) := by decide +kernel
theorem d3_14 : decode jdk_42_method_149_code 14 = .ok (.putfield 9, 3) := by decide +kernel
theorem d3_17 : decode jdk_42_method_149_code 17 = .ok (.aload_n 0, 1) := by decide +kernel
theorem d3_18 : decode jdk_42_method_149_code 18 = .ok (.ldc 7, 2) := by decide +kernel
theorem d3_20 : decode jdk_42_method_149_code 20 = .ok (.getfield 15, 3) := by decide +kernel
theorem d3_23 : decode jdk_42_method_149_code 23 = .ok (.putfield 15, 3) := by decide +kernel
theorem d3_26 : decode jdk_42_method_149_code 26 = .ok (.return_, 1) := by decide +kernel
theorem ef_rm3_E (m : MethodId) (a1 : Addr) (a2 : Addr) (cs1 : Int32) (fm : Value) : entryFrame m #[(.ref a1), (.ref a2), (.int (0 : Int32)), (.int (0 : Int32)), .null] 6 = mkF m 0 #[.val (.ref a1), .val (.ref a2), .val (.int (0 : Int32)), .val (.int (0 : Int32)), .val .null, .unset] [] := by first | (simp [entryFrame, mkF, argsToLocals, Value.category]; done) | rfl
def Q3_E (Z : State) (a1 : Addr) (a2 : Addr) (cs1 : Int32) (fm : Value) (h0 : Heap) (n0 : Nat) (v : Option Value) (h : Heap) (L : List Loc) : Prop := ∃ (b : Addr) (kb : ClassId), v = none ∧ Fr n0 L ∧ (Keep h0 h [a1]) ∧ (Exa Z h a1 "java/lang/String") ∧ (Fld Z h a1 "java/lang/String" "coder" "B" (.int (0 : Int32))) ∧ (Fld Z h a1 "java/lang/String" "value" "[B" (.ref b)) ∧ (Arv Z h b kb .byte (0 : Int32) [] (.int (0 : Int32)))
set_option maxRecDepth 65536 in
set_option maxHeartbeats 40000000 in
theorem rm3_E (l : Launch) (Z : State) (a0 : Array Value) (hw : ∀ d ∈ tables_1, d.before a0 Z = true) (ws : List Jvm.Cond) (a1 : Addr) (a2 : Addr) (cs1 : Int32) (fm : Value) (h0 : Heap) (n0 : Nat) (Z0 : n0 ≤ h0.size) (O1 : Old Z n0 h0) (G : own_G Z cs1 fm) (hcw : Jvm.Lit.compactW.before a0 Z = true) (hheld : Jvm.Lit.constHeld Z "java/lang/String" 7) (F1 : Fld Z h0 a1 "java/lang/String" "coder" "B" (.int (0 : Int32))) (F2 : Fld Z h0 a1 "java/lang/String" "value" "[B" .null) (E1 : Exa Z h0 a1 "java/lang/String") (g1 : n0 ≤ a1) :
  MetFree l (⟨"java/lang/String", "<init>", "([CIILjava/lang/Void;)V"⟩ : MethodName) (head1 (Jvm.Cond.code (⟨"java/lang/String", "<init>", "([CIILjava/lang/Void;)V"⟩ : MethodName) jdk_42_method_149_code 6 none :: ws) ({ frames := 1, cells := 2, slots := 4, locals := 12 } : Room)) (fun a U => a = #[(.ref a1), (.ref a2), (.int (0 : Int32)), (.int (0 : Int32)), .null] ∧ Z.Warmed39 U.vm ∧ U.heap = h0 ∧ IB Z U.vm []) (fun _ _ _ _ _ => True) (fun _ U o U' => ∃ v L, o = .returned v ∧ Q3_E Z a1 a2 cs1 fm h0 n0 v U'.heap L ∧ ReturnedEndW U o U' L ({ frames := 1, cells := 2, slots := 4, locals := 12 } : Room).cells ({ frames := 1, cells := 2, slots := 4, locals := 12 } : Room).slots) := by
 refine MetFree.of_bodySF pn3 hisR ?_
 intro p e s m args below meth c s₁ Bd hml0 hP hK
 obtain ⟨rfl, hZ, hh, I0⟩ := hP
 have hx := Bd.exec
 have hby := Bd.bytes
 have hml : c.maxLocals = 6 := hml0
 have hown : s.vm.findClass "java/lang/String" = some m.cls := findClass_of_methodNamed Bd.named
 have hnm := (name_of_methodNamed Bd.named Bd.method).1
 have X0 : Stand p l e ({ frames := 1, cells := 2, slots := 4, locals := 12 } : Room) s m #[(.ref a1), (.ref a2), (.int (0 : Int32)), (.int (0 : Int32)), .null] below meth c s₁ [] 0 0 := Stand.of_body Bd
 have e0 : s₁.heap = h0 := by rw [← hh, Bd.state]; rfl
 have N0 := Fr.nil n0
 have p0 : Go p.tables e below (s₁.setTop (entryFrame m #[(.ref a1), (.ref a2), (.int (0 : Int32)), (.int (0 : Int32)), .null] 6)) (s₁.setTop (mkF m 0 #[.val (.ref a1), .val (.ref a2), .val (.int (0 : Int32)), .val (.int (0 : Int32)), .val .null, .unset] [])) := fun t_ k_ => castTop (ef_rm3_E m a1 a2 cs1 fm) k_
 have hkp : ∀ (b : Addr) (cl : Cell), Z.heap[b]? = some cl → s.heap[b]? = some cl := fun b cl q => by rw [hh]; exact O1.2.2 b cl q
 have p101 : Go p.tables e below _ (s₁.setTop (mkF m 1 #[.val (.ref a1), .val (.ref a2), .val (.int (0 : Int32)), .val (.int (0 : Int32)), .val .null, .unset] [(.ref a1)])) := fun t_ k_ => p0 t_ (by
  refine XS.aloadN X0.here hx rfl (hb hby d3_0) rfl rfl ?_
  exact k_)
 obtain ⟨T102, X102, e102, st102⟩ := initO X0 hx hZ hown (own_w hw 16 rfl) (own_w hw 17 rfl) (own_w hw 18 rfl) e0 (g := (mkF m 1 #[.val (.ref a1), .val (.ref a2), .val (.int (0 : Int32)), .val (.int (0 : Int32)), .val .null, .unset] [(.ref a1)])) rfl (by rw [hml]; rfl) rfl (hb hby d3_1) (by decide) (W := 0) (by show 2 * 0 + _ ≤ _; exact Nat.le_of_eq rfl) (by decide)
 have p103 : Go p.tables e below _ (T102.setTop (mkF m 9 #[.val (.ref a1), .val (.ref a2), .val (.int (0 : Int32)), .val (.int (0 : Int32)), .val .null, .unset] [(.ref a1)])) := fun t_ k_ => (gc p101 st102) t_ (by
  refine XS.iloadN X102.here hx rfl (hb hby d3_4) rfl ?_
  refine XS.ifNo X102.here hx rfl (hb hby d3_5) rfl ((if0 _ _).trans (teq (by decide : ((0 : Int32) = (0 : Int32)))).2) ?_
  refine XS.aloadN X102.here hx rfl (hb hby d3_8) rfl rfl ?_
  exact k_)
 obtain ⟨b104, T104, h104, k104, v104, c104, X104, e104, E104, S104, kb104, hZ104, hown104, A104, C104, F104, V104, -, -, I104, L104, st104⟩ := ldcSVL (s := s) (vm0 := s.vm) X102 hx hZ hown (own_w hw 19 rfl) (own_sA hw) e102 ((State.WarmedH.refl s).since 0) (Nat.zero_le _) (Fr.nil _) hkp I0 (by decide) hheld hcw (z := (0 : Int32)) (vs := []) ⟨by decide, by decide⟩ (by decide) (by decide) (g := (mkF m 9 #[.val (.ref a1), .val (.ref a2), .val (.int (0 : Int32)), .val (.int (0 : Int32)), .val .null, .unset] [(.ref a1)])) rfl (hb hby d3_9) (n := 0) (by decide) (by decide) (by decide) (by decide)
 have K105 : Keep h0 h104 [a1] := (Keep.refl h0 [a1]).ext E104
 have f107 := (F2.ext E104)
 have ne106 := neFF f107 F104
 have f109 := (E1.ext E104)
 have ne108 := neAV (own_w hw 7 rfl) f109 V104
 obtain ⟨T110, X110, e110, st110⟩ := getF X104 hx hZ104 hown104 (host := "") (Or.inl (own_w hw 25 rfl)) Via.refl e104 F104 (g := (mkF m 11 #[.val (.ref a1), .val (.ref a2), .val (.int (0 : Int32)), .val (.int (0 : Int32)), .val .null, .unset] [(.ref b104), (.ref a1)])) rfl rfl (hb hby d3_11)
 obtain ⟨T111, h111, X111, e111, W111, st111⟩ := putF X110 hx hZ104 hown104 (host := "") (Or.inl (own_w hw 25 rfl)) Via.refl e110 f107 f109 (Or.inr ⟨(own_w hw 21 rfl), rfl, hnm⟩) (own_w hw 7 rfl) (ty := (.array .byte)) (by decide) rfl rfl (g := (mkF m 14 #[.val (.ref a1), .val (.ref a2), .val (.int (0 : Int32)), .val (.int (0 : Int32)), .val .null, .unset] [(.ref v104), (.ref a1)])) rfl rfl (hb hby d3_14)
 have K112 : Keep h0 h111 [a1] := K105.wr W111 (Or.inl (List.mem_of_getElem? (i := 0) rfl))
 have N111 := Fr.snoc X111 N0 g1
 have F111 : Fld Z h111 a1 "java/lang/String" "value" "[B" (.ref v104) := f107.same W111
 have p113 : Go p.tables e below _ (T111.setTop (mkF m 18 #[.val (.ref a1), .val (.ref a2), .val (.int (0 : Int32)), .val (.int (0 : Int32)), .val .null, .unset] [(.ref a1)])) := fun t_ k_ => (gc (gc (gc p103 st104) st110) st111) t_ (by
  refine XS.aloadN X111.here hx rfl (hb hby d3_17) rfl rfl ?_
  exact k_)
 have p114 : Go p.tables e below _ (T111.setTop (mkF m 20 #[.val (.ref a1), .val (.ref a2), .val (.int (0 : Int32)), .val (.int (0 : Int32)), .val .null, .unset] [(.ref b104), (.ref a1)])) := fun t_ k_ => p113 t_ (by
  refine ldcAgain (s := s) (vm0 := T104.vm) X111 hx hZ104 hown104 (own_w hw 19 rfl) L104 (g := (mkF m 18 #[.val (.ref a1), .val (.ref a2), .val (.int (0 : Int32)), .val (.int (0 : Int32)), .val .null, .unset] [(.ref a1)])) rfl (hb hby d3_18) _ ?_
  exact k_)
 have f115 := (C104.other W111 (Or.inl (Ne.symm ne106)))
 obtain ⟨T116, X116, e116, st116⟩ := getF X111 hx hZ104 hown104 (host := "") (Or.inl (own_w hw 26 rfl)) Via.refl e111 f115 (g := (mkF m 20 #[.val (.ref a1), .val (.ref a2), .val (.int (0 : Int32)), .val (.int (0 : Int32)), .val .null, .unset] [(.ref b104), (.ref a1)])) rfl rfl (hb hby d3_20)
 have f117 := ((F1.ext E104).other W111 (Or.inr (slot_ne (Or.inr (own_w hw 22 rfl)) (Or.inr (own_w hw 21 rfl)) (by decide) (t := .byte) (t' := (.array .byte)) (by decide) (by decide))))
 have f118 := (f109.wr W111)
 obtain ⟨T119, h119, X119, e119, W119, st119⟩ := putFN X116 hx hZ104 hown104 (own_w hw 26 rfl) Via.refl e116 f117 f118 (Or.inr ⟨(own_w hw 22 rfl), rfl, hnm⟩) (own_w hw 7 rfl) (ty := .byte) (v' := (.int (0 : Int32))) (by decide) rfl (by decide) (g := (mkF m 23 #[.val (.ref a1), .val (.ref a2), .val (.int (0 : Int32)), .val (.int (0 : Int32)), .val .null, .unset] [(.int (0 : Int32)), (.ref a1)])) rfl rfl (hb hby d3_23)
 have K120 : Keep h0 h119 [a1] := K112.wr W119 (Or.inl (List.mem_of_getElem? (i := 0) rfl))
 have N119 := Fr.snoc X119 N111 g1
 have F119 : Fld Z h119 a1 "java/lang/String" "coder" "B" (.int (0 : Int32)) := f117.same W119
 have f121 := (f118.wr W119)
 have f122 := (F111.other W119 (Or.inr (slot_ne (Or.inr (own_w hw 21 rfl)) (Or.inr (own_w hw 22 rfl)) (by decide) (t := (.array .byte)) (t' := .byte) (by decide) (by decide))))
 have f123 := ((V104.other W111 (Ne.symm ne108)).other W119 (Ne.symm ne108))
 have f124 := (Nat.le_trans (Nat.le_trans kb104 (Keep.of_wr W111).1) (Keep.of_wr W119).1)
 obtain ⟨fs, hr, hrun, hended, hRW⟩ := X119.leaveW (s := s) S104 (by rw [e119]; exact f124) (v := none) (fun _ => rfl)
 refine ⟨_, _, (gc (gc p114 st116) st119) _ (X119.returnOut hx Bd.returns (hb hby d3_26) hr), hrun, hended, _, _, rfl, ?_, hRW.1, hRW.2.1, hRW.2.2.1, hRW.2.2.2.mono (by decide) (by decide)⟩
 show Q3_E Z a1 a2 cs1 fm h0 n0 _ T119.heap _
 rw [e119]
 exact ⟨v104, c104, rfl, N119, K120, f121, F119, f122, f123⟩
theorem ef_rm2_E (m : MethodId) (a1 : Addr) (a2 : Addr) (k2 : ClassId) (cs1 : Int32) (fm : Value) : entryFrame m #[(.ref a1), (.ref a2)] 2 = mkF m 0 #[.val (.ref a1), .val (.ref a2)] [] := by first | (simp [entryFrame, mkF, argsToLocals, Value.category]; done) | rfl
def Q2_E (Z : State) (a1 : Addr) (a2 : Addr) (k2 : ClassId) (cs1 : Int32) (fm : Value) (h0 : Heap) (n0 : Nat) (v : Option Value) (h : Heap) (L : List Loc) : Prop := ∃ (b : Addr) (kb : ClassId), v = none ∧ Fr n0 L ∧ (Keep h0 h [a1]) ∧ (Exa Z h a1 "java/lang/String") ∧ (Fld Z h a1 "java/lang/String" "coder" "B" (.int (0 : Int32))) ∧ (Fld Z h a1 "java/lang/String" "value" "[B" (.ref b)) ∧ (Arv Z h b kb .byte (0 : Int32) [] (.int (0 : Int32)))
set_option maxRecDepth 65536 in
set_option maxHeartbeats 40000000 in
theorem rm2_E (l : Launch) (Z : State) (a0 : Array Value) (hw : ∀ d ∈ tables_1, d.before a0 Z = true) (ws : List Jvm.Cond) (a1 : Addr) (a2 : Addr) (k2 : ClassId) (cs1 : Int32) (fm : Value) (h0 : Heap) (n0 : Nat) (Z0 : n0 ≤ h0.size) (O1 : Old Z n0 h0) (G : own_G Z cs1 fm) (hcw : Jvm.Lit.compactW.before a0 Z = true) (hheld : Jvm.Lit.constHeld Z "java/lang/String" 7) (F1 : Fld Z h0 a1 "java/lang/String" "coder" "B" (.int (0 : Int32))) (F2 : Fld Z h0 a1 "java/lang/String" "value" "[B" .null) (E1 : Exa Z h0 a1 "java/lang/String") (g1 : n0 ≤ a1) (V2 : Arv Z h0 a2 k2 .char (0 : Int32) [] (.int (0 : Int32))) :
  MetFree l (⟨"java/lang/String", "<init>", "([C)V"⟩ : MethodName) (head1 (Jvm.Cond.code (⟨"java/lang/String", "<init>", "([C)V"⟩ : MethodName) jdk_42_method_3_code 2 none :: ws) ({ frames := 2, cells := 2, slots := 4, locals := 29 } : Room)) (fun a U => a = #[(.ref a1), (.ref a2)] ∧ Z.Warmed39 U.vm ∧ U.heap = h0 ∧ IB Z U.vm []) (fun _ _ _ _ _ => True) (fun _ U o U' => ∃ v L, o = .returned v ∧ Q2_E Z a1 a2 k2 cs1 fm h0 n0 v U'.heap L ∧ ReturnedEndW U o U' L ({ frames := 2, cells := 2, slots := 4, locals := 29 } : Room).cells ({ frames := 2, cells := 2, slots := 4, locals := 29 } : Room).slots) := by
 refine MetFree.of_bodySF pn2 hisR ?_
 intro p e s m args below meth c s₁ Bd hml0 hP hK
 obtain ⟨rfl, hZ, hh, I0⟩ := hP
 have hx := Bd.exec
 have hby := Bd.bytes
 have hml : c.maxLocals = 2 := hml0
 have hown : s.vm.findClass "java/lang/String" = some m.cls := findClass_of_methodNamed Bd.named
 have hnm := (name_of_methodNamed Bd.named Bd.method).1
 have X0 : Stand p l e ({ frames := 2, cells := 2, slots := 4, locals := 29 } : Room) s m #[(.ref a1), (.ref a2)] below meth c s₁ [] 0 0 := Stand.of_body Bd
 have e0 : s₁.heap = h0 := by rw [← hh, Bd.state]; rfl
 have N0 := Fr.nil n0
 have p0 : Go p.tables e below (s₁.setTop (entryFrame m #[(.ref a1), (.ref a2)] 2)) (s₁.setTop (mkF m 0 #[.val (.ref a1), .val (.ref a2)] [])) := fun t_ k_ => castTop (ef_rm2_E m a1 a2 k2 cs1 fm) k_
 have hkp : ∀ (b : Addr) (cl : Cell), Z.heap[b]? = some cl → s.heap[b]? = some cl := fun b cl q => by rw [hh]; exact O1.2.2 b cl q
 have p101 : Go p.tables e below _ (s₁.setTop (mkF m 4 #[.val (.ref a1), .val (.ref a2)] [(.ref a2), (.int (0 : Int32)), (.ref a2), (.ref a1)])) := fun t_ k_ => p0 t_ (by
  refine XS.aloadN X0.here hx rfl (hb hby d2_0) rfl rfl ?_
  refine XS.aloadN X0.here hx rfl (hb hby d2_1) rfl rfl ?_
  refine XS.iconst X0.here hx rfl (hb hby d2_2) ?_
  refine XS.aloadN X0.here hx rfl (hb hby d2_3) rfl rfl ?_
  exact k_)
 obtain ⟨cl102, Ar102, -, S102, Ng102, -, -⟩ := id V2
 have p103 : Go p.tables e below _ (s₁.setTop (mkF m 6 #[.val (.ref a1), .val (.ref a2)] [.null, (.int (0 : Int32)), (.int (0 : Int32)), (.ref a2), (.ref a1)])) := fun t_ k_ => p101 t_ (by
  refine X0.arraylength hx (by rw [e0]; exact Ar102.1) (State.isArrayOf_alike hZ.alike Ar102.2.1) (g := (mkF m 4 #[.val (.ref a1), .val (.ref a2)] [(.ref a2), (.int (0 : Int32)), (.ref a2), (.ref a1)])) rfl rfl (hb hby d2_4) _ ?_
  rw [len_of S102 Ng102]
  show Steps p.tables e below (s₁.setTop (mkF m 5 #[.val (.ref a1), .val (.ref a2)] [(.int (0 : Int32)), (.int (0 : Int32)), (.ref a2), (.ref a1)])) _
  refine XS.aconstNull X0.here hx rfl (hb hby d2_5) ?_
  exact k_)
 obtain ⟨_, _, ⟨T104, L104, k104, n104⟩, -, X104, S104, -, ⟨Lc104, hQ104, l104, y104, z104⟩, st104⟩ := X0.specialBackS hx (y := (⟨"java/lang/String", "<init>", "([CIILjava/lang/Void;)V"⟩ : MethodName)) rfl hown (mvT hZ (own_w hw 12 rfl)) (mvT hZ (own_w hw 13 rfl)) (mvT hZ (own_w hw 15 rfl)) (by decide) (backOfI (W := 0) (rm3_E l Z a0 hw [] a1 a2 cs1 fm h0 n0 (Nat.le_trans Z0 (Keep.refl h0 [a1]).1) O1 G hcw hheld F1 F2 E1 g1) hZ I0 (own_w hw 15 rfl) (own_w hw 8 rfl) (by decide) (by decide)) (g := (mkF m 6 #[.val (.ref a1), .val (.ref a2)] [.null, (.int (0 : Int32)), (.int (0 : Int32)), (.ref a2), (.ref a1)])) rfl (by rw [hml]; rfl) (Steps.refl _) (a := a1) (argsL := [(.ref a2), (.int (0 : Int32)), (.int (0 : Int32)), .null]) (rest := []) (lenOf pd10 rfl) rfl (by show 2 * 0 + _ ≤ _; exact Nat.le_of_eq rfl) (hb hby d2_6) (fun _ _ => ⟨rfl, e0, (by decide : 0 + 2 ≤ _), (by decide : 0 + 4 ≤ _)⟩)
 dsimp only [Pt.U, Pt.locs, Pt.cells, Pt.slots] at X104 l104 y104 z104 st104 hQ104 S104
 subst l104 y104 z104
 have hZ104 : Z.Warmed39 (s.setVm T104.vm).vm := State.Warmed39.trans (t := s) hZ S104.1
 have hown104 : (s.setVm T104.vm).vm.findClass "java/lang/String" = some m.cls := by rw [show (s.setVm T104.vm).vm = T104.vm from rfl, S104.1.alike.findClass]; exact hown
 have kb104 := Nat.le_refl T104.heap.size
 obtain ⟨x105, x106, rfl, N104q, q104_K, q104_E, q104_c, q104_v, q104_V⟩ := hQ104
 have N104 := Fr.app N0 N104q
 have K107 : Keep h0 T104.heap [a1] := (Keep.refl h0 [a1]).trans q104_K (allS (Or.inl (List.mem_of_getElem? (i := 0) rfl)) all0)
 obtain ⟨fs, hr, hrun, hended, hRW⟩ := X104.leaveW (s := s) S104 kb104 (v := none) (fun _ => rfl)
 refine ⟨_, _, (gcT p103 st104) _ (X104.returnOut hx Bd.returns (hb hby d2_9) hr), hrun, hended, _, _, rfl, ?_, hRW.1, hRW.2.1, hRW.2.2.1, hRW.2.2.2.mono (by decide) (by decide)⟩
 show Q2_E Z a1 a2 k2 cs1 fm h0 n0 _ T104.heap _
 exact ⟨x105, x106, rfl, N104, K107, q104_E, q104_c, q104_v, q104_V⟩
theorem d1_0 : decode method_2_code 0 = .ok (.iload_n 0, 1) := by decide +kernel
theorem d1_1 : decode method_2_code 1 = .ok (.iconst 1, 1) := by decide +kernel
theorem d1_2 : decode method_2_code 2 = .ok (.iand, 1) := by decide +kernel
theorem d1_3 : decode method_2_code 3 = .ok (.ifCond .eq 11, 3) := by decide +kernel
theorem d1_6 : decode method_2_code 6 = .ok (.iload_n 0, 1) := by decide +kernel
theorem d1_7 : decode method_2_code 7 = .ok (.iconst 1, 1) := by decide +kernel
theorem d1_8 : decode method_2_code 8 = .ok (.iushr, 1) := by decide +kernel
theorem d1_9 : decode method_2_code 9 = .ok (.bipush 63, 2) := by decide +kernel
theorem d1_11 : decode method_2_code 11 = .ok (.iand, 1) := by decide +kernel
theorem d1_12 : decode method_2_code 12 = .ok (.i2c, 1) := by decide +kernel
theorem d1_13 : decode method_2_code 13 = .ok (.ireturn, 1) := by decide +kernel
theorem d1_14 : decode method_2_code 14 = .ok (.iload_n 0, 1) := by decide +kernel
theorem d1_15 : decode method_2_code 15 = .ok (.bipush 16, 2) := by decide +kernel
theorem d1_17 : decode method_2_code 17 = .ok (.iushr, 1) := by decide +kernel
theorem d1_18 : decode method_2_code 18 = .ok (.i2c, 1) := by decide +kernel
theorem d1_19 : decode method_2_code 19 = .ok (.ireturn, 1) := by decide +kernel
theorem pn1 : plainFor (⟨"com/example/kuusi/kuusi/core/LineScannerIsBlankPinLaw", "ch", "(I)C"⟩ : MethodName) = true := plainFor_of_name (by first | (simp [plainName, overriddenIn]; done) | decide +kernel)
theorem ef_rm1 (m : MethodId) (p1 : Int32) : entryFrame m #[(.int p1)] 1 = mkF m 0 #[.val (.int p1)] [] := by first | (simp [entryFrame, mkF, argsToLocals, Value.category]; done) | rfl
def Q1 (Z : State) (p1 : Int32) (h0 : Heap) (n0 : Nat) (v : Option Value) (h : Heap) (L : List Loc) : Prop := ∃ (cc : Int32), v = some (.int cc) ∧ Fr n0 L ∧ (h = h0) ∧ (¬ (cc < (0 : Int32))) ∧ (¬ ((65535 : Int32) < cc))
set_option maxRecDepth 65536 in
set_option maxHeartbeats 40000000 in
theorem rm1 (l : Launch) (Z : State) (a0 : Array Value) (hw : ∀ d ∈ tables_1, d.before a0 Z = true) (ws : List Jvm.Cond) (p1 : Int32) (h0 : Heap) (n0 : Nat) (Z0 : n0 ≤ h0.size) :
  MetFree l (⟨"com/example/kuusi/kuusi/core/LineScannerIsBlankPinLaw", "ch", "(I)C"⟩ : MethodName) (head1 (Jvm.Cond.code (⟨"com/example/kuusi/kuusi/core/LineScannerIsBlankPinLaw", "ch", "(I)C"⟩ : MethodName) method_2_code 1 (some .char) :: ws) ({ frames := 0, cells := 0, slots := 0, locals := 0 } : Room)) (fun a U => a = #[(.int p1)] ∧ Z.Warmed39 U.vm ∧ U.heap = h0) (fun _ _ _ _ _ => True) (fun _ U o U' => ∃ v L, o = .returned v ∧ Q1 Z p1 h0 n0 v U'.heap L ∧ FrameEnd U o U' L ({ frames := 0, cells := 0, slots := 0, locals := 0 } : Room).cells ({ frames := 0, cells := 0, slots := 0, locals := 0 } : Room).slots) := by
 refine MetFree.of_bodySF pn1 hisR ?_
 intro p e s m args below meth c s₁ Bd hml0 hP hK
 obtain ⟨rfl, hZ, hh⟩ := hP
 have hx := Bd.exec
 have hby := Bd.bytes
 have hml : c.maxLocals = 1 := hml0
 have hown : s.vm.findClass "com/example/kuusi/kuusi/core/LineScannerIsBlankPinLaw" = some m.cls := findClass_of_methodNamed Bd.named
 have hnm := (name_of_methodNamed Bd.named Bd.method).1
 have X0 : Stand p l e ({ frames := 0, cells := 0, slots := 0, locals := 0 } : Room) s m #[(.int p1)] below meth c s₁ [] 0 0 := Stand.of_body Bd
 have e0 : s₁.heap = h0 := by rw [← hh, Bd.state]; rfl
 have N0 := Fr.nil n0
 have p0 : Go p.tables e below (s₁.setTop (entryFrame m #[(.int p1)] 1)) (s₁.setTop (mkF m 0 #[.val (.int p1)] [])) := fun t_ k_ => castTop (ef_rm1 m p1) k_
 have p101 : Go p.tables e below _ (s₁.setTop (mkF m 3 #[.val (.int p1)] [(.int (p1 &&& (1 : Int32)))])) := fun t_ k_ => p0 t_ (by
  refine XS.iloadN X0.here hx rfl (hb hby d1_0) rfl ?_
  refine XS.iconst X0.here hx rfl (hb hby d1_1) ?_
  refine XS.iand X0.here hx rfl (hb hby d1_2) rfl ?_
  exact k_)
 by_cases c102 : (p1 &&& (1 : Int32)) = (0 : Int32)
 ·have p103 : Go p.tables e below _ (s₁.setTop (mkF m 14 #[.val (.int p1)] [])) := fun t_ k_ => p101 t_ (by
   refine XS.ifYes X0.here hx rfl (pc0 := 3) (pc' := 14) rfl (hb hby d1_3) rfl ((if0 _ _).trans (teq c102).1) (by decide) (by decide) ?_
   exact k_)
  have p104 : Go p.tables e below _ (s₁.setTop (mkF m 19 #[.val (.int p1)] [(.int (((p1.toUInt32 >>> (16 : UInt32)).toInt32).toUInt32.toUInt16.toUInt32.toInt32))])) := fun t_ k_ => p103 t_ (by
   refine XS.iloadN X0.here hx rfl (hb hby d1_14) rfl ?_
   refine XS.bipush X0.here hx rfl (hb hby d1_15) ?_
   refine XS.iushr X0.here hx rfl (hb hby d1_17) rfl ?_
   refine XS.i2c X0.here hx rfl (hb hby d1_18) rfl ?_
   exact k_)
  obtain ⟨fs, hr, hrun, hended, hW, hsame⟩ := X0.leave (v := some (.int (nar .char (((p1.toUInt32 >>> (16 : UInt32)).toInt32).toUInt32.toUInt16.toUInt32.toInt32)))) (fun h => by rw [Bd.returns] at h; cases h)
  refine ⟨_, _, p104 _ (retN X0 hx (t := .char) Bd.returns (by simp) (hb hby d1_19) hr), hrun, hended, _, _, rfl, ?_, ⟨_, rfl⟩, hW, hsame.mono (by decide) (by decide)⟩
  show Q1 Z p1 h0 n0 _ s₁.heap _
  rw [e0]
  exact ⟨_, rfl, N0, rfl, (own_narcr _).1, (own_narcr _).2⟩
 ·have p105 : Go p.tables e below _ (s₁.setTop (mkF m 6 #[.val (.int p1)] [])) := fun t_ k_ => p101 t_ (by
   refine XS.ifNo X0.here hx rfl (hb hby d1_3) rfl ((if0 _ _).trans (feq c102).1) ?_
   exact k_)
  have p106 : Go p.tables e below _ (s₁.setTop (mkF m 13 #[.val (.int p1)] [(.int ((((p1.toUInt32 >>> (1 : UInt32)).toInt32) &&& (63 : Int32)).toUInt32.toUInt16.toUInt32.toInt32))])) := fun t_ k_ => p105 t_ (by
   refine XS.iloadN X0.here hx rfl (hb hby d1_6) rfl ?_
   refine XS.iconst X0.here hx rfl (hb hby d1_7) ?_
   refine XS.iushr X0.here hx rfl (hb hby d1_8) rfl ?_
   refine XS.bipush X0.here hx rfl (hb hby d1_9) ?_
   refine XS.iand X0.here hx rfl (hb hby d1_11) rfl ?_
   refine XS.i2c X0.here hx rfl (hb hby d1_12) rfl ?_
   exact k_)
  obtain ⟨fs, hr, hrun, hended, hW, hsame⟩ := X0.leave (v := some (.int (nar .char ((((p1.toUInt32 >>> (1 : UInt32)).toInt32) &&& (63 : Int32)).toUInt32.toUInt16.toUInt32.toInt32)))) (fun h => by rw [Bd.returns] at h; cases h)
  refine ⟨_, _, p106 _ (retN X0 hx (t := .char) Bd.returns (by simp) (hb hby d1_13) hr), hrun, hended, _, _, rfl, ?_, ⟨_, rfl⟩, hW, hsame.mono (by decide) (by decide)⟩
  show Q1 Z p1 h0 n0 _ s₁.heap _
  rw [e0]
  exact ⟨_, rfl, N0, rfl, (own_narcr _).1, (own_narcr _).2⟩
theorem d11_0 : decode method_3_code 0 = .ok (.iload_n 0, 1) := by decide +kernel
theorem d11_1 : decode method_3_code 1 = .ok (.bipush 32, 2) := by decide +kernel
theorem d11_3 : decode method_3_code 3 = .ok (.if_icmp .eq 33, 3) := by decide +kernel
theorem d11_6 : decode method_3_code 6 = .ok (.iload_n 0, 1) := by decide +kernel
theorem d11_7 : decode method_3_code 7 = .ok (.bipush 9, 2) := by decide +kernel
theorem d11_9 : decode method_3_code 9 = .ok (.if_icmp .eq 27, 3) := by decide +kernel
theorem d11_12 : decode method_3_code 12 = .ok (.iload_n 0, 1) := by decide +kernel
theorem d11_13 : decode method_3_code 13 = .ok (.bipush 10, 2) := by decide +kernel
theorem d11_15 : decode method_3_code 15 = .ok (.if_icmp .eq 21, 3) := by decide +kernel
theorem d11_18 : decode method_3_code 18 = .ok (.iload_n 0, 1) := by decide +kernel
theorem d11_19 : decode method_3_code 19 = .ok (.bipush 11, 2) := by decide +kernel
theorem d11_21 : decode method_3_code 21 = .ok (.if_icmp .eq 15, 3) := by decide +kernel
theorem d11_24 : decode method_3_code 24 = .ok (.iload_n 0, 1) := by decide +kernel
theorem d11_25 : decode method_3_code 25 = .ok (.bipush 12, 2) := by decide +kernel
theorem d11_27 : decode method_3_code 27 = .ok (.if_icmp .eq 9, 3) := by decide +kernel
theorem d11_30 : decode method_3_code 30 = .ok (.iload_n 0, 1) := by decide +kernel
theorem d11_31 : decode method_3_code 31 = .ok (.bipush 13, 2) := by decide +kernel
theorem d11_33 : decode method_3_code 33 = .ok (.if_icmp .ne 7, 3) := by decide +kernel
theorem d11_36 : decode method_3_code 36 = .ok (.iconst 1, 1) := by decide +kernel
theorem d11_37 : decode method_3_code 37 = .ok (.goto 4, 3) := by decide +kernel
theorem d11_40 : decode method_3_code 40 = .ok (.iconst 0, 1) := by decide +kernel
theorem d11_41 : decode method_3_code 41 = .ok (.ireturn, 1) := by decide +kernel
theorem pn11 : plainFor (⟨"com/example/kuusi/kuusi/core/LineScannerIsBlankPinLaw", "bl", "(C)Z"⟩ : MethodName) = true := plainFor_of_name (by first | (simp [plainName, overriddenIn]; done) | decide +kernel)
theorem ef_rm11 (m : MethodId) (p1 : Int32) : entryFrame m #[(.int p1)] 1 = mkF m 0 #[.val (.int p1)] [] := by first | (simp [entryFrame, mkF, argsToLocals, Value.category]; done) | rfl
def Q11 (Z : State) (p1 : Int32) (h0 : Heap) (n0 : Nat) (v : Option Value) (h : Heap) (L : List Loc) : Prop := v = some (.int (own_bl p1)) ∧ Fr n0 L ∧ (h = h0)
set_option maxRecDepth 65536 in
set_option maxHeartbeats 40000000 in
theorem rm11 (l : Launch) (Z : State) (a0 : Array Value) (hw : ∀ d ∈ tables_1, d.before a0 Z = true) (ws : List Jvm.Cond) (p1 : Int32) (h0 : Heap) (n0 : Nat) (Z0 : n0 ≤ h0.size) :
  MetFree l (⟨"com/example/kuusi/kuusi/core/LineScannerIsBlankPinLaw", "bl", "(C)Z"⟩ : MethodName) (head1 (Jvm.Cond.code (⟨"com/example/kuusi/kuusi/core/LineScannerIsBlankPinLaw", "bl", "(C)Z"⟩ : MethodName) method_3_code 1 (some .boolean) :: ws) ({ frames := 0, cells := 0, slots := 0, locals := 0 } : Room)) (fun a U => a = #[(.int p1)] ∧ Z.Warmed39 U.vm ∧ U.heap = h0) (fun _ _ _ _ _ => True) (fun _ U o U' => ∃ v L, o = .returned v ∧ Q11 Z p1 h0 n0 v U'.heap L ∧ FrameEnd U o U' L ({ frames := 0, cells := 0, slots := 0, locals := 0 } : Room).cells ({ frames := 0, cells := 0, slots := 0, locals := 0 } : Room).slots) := by
 refine MetFree.of_bodySF pn11 hisR ?_
 intro p e s m args below meth c s₁ Bd hml0 hP hK
 obtain ⟨rfl, hZ, hh⟩ := hP
 have hx := Bd.exec
 have hby := Bd.bytes
 have hml : c.maxLocals = 1 := hml0
 have hown : s.vm.findClass "com/example/kuusi/kuusi/core/LineScannerIsBlankPinLaw" = some m.cls := findClass_of_methodNamed Bd.named
 have hnm := (name_of_methodNamed Bd.named Bd.method).1
 have X0 : Stand p l e ({ frames := 0, cells := 0, slots := 0, locals := 0 } : Room) s m #[(.int p1)] below meth c s₁ [] 0 0 := Stand.of_body Bd
 have e0 : s₁.heap = h0 := by rw [← hh, Bd.state]; rfl
 have N0 := Fr.nil n0
 have p0 : Go p.tables e below (s₁.setTop (entryFrame m #[(.int p1)] 1)) (s₁.setTop (mkF m 0 #[.val (.int p1)] [])) := fun t_ k_ => castTop (ef_rm11 m p1) k_
 have p101 : Go p.tables e below _ (s₁.setTop (mkF m 3 #[.val (.int p1)] [(.int (32 : Int32)), (.int p1)])) := fun t_ k_ => p0 t_ (by
  refine XS.iloadN X0.here hx rfl (hb hby d11_0) rfl ?_
  refine XS.bipush X0.here hx rfl (hb hby d11_1) ?_
  exact k_)
 by_cases c102 : p1 = (32 : Int32)
 ·have p103 : Go p.tables e below _ (s₁.setTop (mkF m 36 #[.val (.int p1)] [])) := fun t_ k_ => p101 t_ (by
   refine XS.icmpYes X0.here hx rfl (pc0 := 3) (pc' := 36) rfl (hb hby d11_3) rfl (teq c102).1 (by decide) (by decide) ?_
   exact k_)
  have p104 : Go p.tables e below _ (s₁.setTop (mkF m 41 #[.val (.int p1)] [(.int (1 : Int32))])) := fun t_ k_ => p103 t_ (by
   refine XS.iconst X0.here hx rfl (hb hby d11_36) ?_
   refine XS.goto X0.here hx rfl (pc0 := 37) (pc' := 41) rfl (hb hby d11_37) (by decide) (by decide) ?_
   exact k_)
  obtain ⟨fs, hr, hrun, hended, hW, hsame⟩ := X0.leave (v := some (.int (1 : Int32))) (fun h => by rw [Bd.returns] at h; cases h)
  refine ⟨_, _, p104 _ (retN X0 hx (t := .boolean) Bd.returns (by simp) (hb hby d11_41) hr), hrun, hended, _, _, rfl, ?_, ⟨_, rfl⟩, hW, hsame.mono (by decide) (by decide)⟩
  show Q11 Z p1 h0 n0 _ s₁.heap _
  rw [e0]
  exact ⟨by simp [own_bl, c102], N0, rfl⟩
 ·have p105 : Go p.tables e below _ (s₁.setTop (mkF m 6 #[.val (.int p1)] [])) := fun t_ k_ => p101 t_ (by
   refine XS.icmpNo X0.here hx rfl (hb hby d11_3) rfl (feq c102).1 ?_
   exact k_)
  have p106 : Go p.tables e below _ (s₁.setTop (mkF m 9 #[.val (.int p1)] [(.int (9 : Int32)), (.int p1)])) := fun t_ k_ => p105 t_ (by
   refine XS.iloadN X0.here hx rfl (hb hby d11_6) rfl ?_
   refine XS.bipush X0.here hx rfl (hb hby d11_7) ?_
   exact k_)
  by_cases c107 : p1 = (9 : Int32)
  ·have p108 : Go p.tables e below _ (s₁.setTop (mkF m 36 #[.val (.int p1)] [])) := fun t_ k_ => p106 t_ (by
    refine XS.icmpYes X0.here hx rfl (pc0 := 9) (pc' := 36) rfl (hb hby d11_9) rfl (teq c107).1 (by decide) (by decide) ?_
    exact k_)
   have p109 : Go p.tables e below _ (s₁.setTop (mkF m 41 #[.val (.int p1)] [(.int (1 : Int32))])) := fun t_ k_ => p108 t_ (by
    refine XS.iconst X0.here hx rfl (hb hby d11_36) ?_
    refine XS.goto X0.here hx rfl (pc0 := 37) (pc' := 41) rfl (hb hby d11_37) (by decide) (by decide) ?_
    exact k_)
   obtain ⟨fs, hr, hrun, hended, hW, hsame⟩ := X0.leave (v := some (.int (1 : Int32))) (fun h => by rw [Bd.returns] at h; cases h)
   refine ⟨_, _, p109 _ (retN X0 hx (t := .boolean) Bd.returns (by simp) (hb hby d11_41) hr), hrun, hended, _, _, rfl, ?_, ⟨_, rfl⟩, hW, hsame.mono (by decide) (by decide)⟩
   show Q11 Z p1 h0 n0 _ s₁.heap _
   rw [e0]
   exact ⟨by simp [own_bl, c102, c107], N0, rfl⟩
  ·have p110 : Go p.tables e below _ (s₁.setTop (mkF m 12 #[.val (.int p1)] [])) := fun t_ k_ => p106 t_ (by
    refine XS.icmpNo X0.here hx rfl (hb hby d11_9) rfl (feq c107).1 ?_
    exact k_)
   have p111 : Go p.tables e below _ (s₁.setTop (mkF m 15 #[.val (.int p1)] [(.int (10 : Int32)), (.int p1)])) := fun t_ k_ => p110 t_ (by
    refine XS.iloadN X0.here hx rfl (hb hby d11_12) rfl ?_
    refine XS.bipush X0.here hx rfl (hb hby d11_13) ?_
    exact k_)
   by_cases c112 : p1 = (10 : Int32)
   ·have p113 : Go p.tables e below _ (s₁.setTop (mkF m 36 #[.val (.int p1)] [])) := fun t_ k_ => p111 t_ (by
     refine XS.icmpYes X0.here hx rfl (pc0 := 15) (pc' := 36) rfl (hb hby d11_15) rfl (teq c112).1 (by decide) (by decide) ?_
     exact k_)
    have p114 : Go p.tables e below _ (s₁.setTop (mkF m 41 #[.val (.int p1)] [(.int (1 : Int32))])) := fun t_ k_ => p113 t_ (by
     refine XS.iconst X0.here hx rfl (hb hby d11_36) ?_
     refine XS.goto X0.here hx rfl (pc0 := 37) (pc' := 41) rfl (hb hby d11_37) (by decide) (by decide) ?_
     exact k_)
    obtain ⟨fs, hr, hrun, hended, hW, hsame⟩ := X0.leave (v := some (.int (1 : Int32))) (fun h => by rw [Bd.returns] at h; cases h)
    refine ⟨_, _, p114 _ (retN X0 hx (t := .boolean) Bd.returns (by simp) (hb hby d11_41) hr), hrun, hended, _, _, rfl, ?_, ⟨_, rfl⟩, hW, hsame.mono (by decide) (by decide)⟩
    show Q11 Z p1 h0 n0 _ s₁.heap _
    rw [e0]
    exact ⟨by simp [own_bl, c102, c107, c112], N0, rfl⟩
   ·have p115 : Go p.tables e below _ (s₁.setTop (mkF m 18 #[.val (.int p1)] [])) := fun t_ k_ => p111 t_ (by
     refine XS.icmpNo X0.here hx rfl (hb hby d11_15) rfl (feq c112).1 ?_
     exact k_)
    have p116 : Go p.tables e below _ (s₁.setTop (mkF m 21 #[.val (.int p1)] [(.int (11 : Int32)), (.int p1)])) := fun t_ k_ => p115 t_ (by
     refine XS.iloadN X0.here hx rfl (hb hby d11_18) rfl ?_
     refine XS.bipush X0.here hx rfl (hb hby d11_19) ?_
     exact k_)
    by_cases c117 : p1 = (11 : Int32)
    ·have p118 : Go p.tables e below _ (s₁.setTop (mkF m 36 #[.val (.int p1)] [])) := fun t_ k_ => p116 t_ (by
      refine XS.icmpYes X0.here hx rfl (pc0 := 21) (pc' := 36) rfl (hb hby d11_21) rfl (teq c117).1 (by decide) (by decide) ?_
      exact k_)
     have p119 : Go p.tables e below _ (s₁.setTop (mkF m 41 #[.val (.int p1)] [(.int (1 : Int32))])) := fun t_ k_ => p118 t_ (by
      refine XS.iconst X0.here hx rfl (hb hby d11_36) ?_
      refine XS.goto X0.here hx rfl (pc0 := 37) (pc' := 41) rfl (hb hby d11_37) (by decide) (by decide) ?_
      exact k_)
     obtain ⟨fs, hr, hrun, hended, hW, hsame⟩ := X0.leave (v := some (.int (1 : Int32))) (fun h => by rw [Bd.returns] at h; cases h)
     refine ⟨_, _, p119 _ (retN X0 hx (t := .boolean) Bd.returns (by simp) (hb hby d11_41) hr), hrun, hended, _, _, rfl, ?_, ⟨_, rfl⟩, hW, hsame.mono (by decide) (by decide)⟩
     show Q11 Z p1 h0 n0 _ s₁.heap _
     rw [e0]
     exact ⟨by simp [own_bl, c102, c107, c112, c117], N0, rfl⟩
    ·have p120 : Go p.tables e below _ (s₁.setTop (mkF m 24 #[.val (.int p1)] [])) := fun t_ k_ => p116 t_ (by
      refine XS.icmpNo X0.here hx rfl (hb hby d11_21) rfl (feq c117).1 ?_
      exact k_)
     have p121 : Go p.tables e below _ (s₁.setTop (mkF m 27 #[.val (.int p1)] [(.int (12 : Int32)), (.int p1)])) := fun t_ k_ => p120 t_ (by
      refine XS.iloadN X0.here hx rfl (hb hby d11_24) rfl ?_
      refine XS.bipush X0.here hx rfl (hb hby d11_25) ?_
      exact k_)
     by_cases c122 : p1 = (12 : Int32)
     ·have p123 : Go p.tables e below _ (s₁.setTop (mkF m 36 #[.val (.int p1)] [])) := fun t_ k_ => p121 t_ (by
       refine XS.icmpYes X0.here hx rfl (pc0 := 27) (pc' := 36) rfl (hb hby d11_27) rfl (teq c122).1 (by decide) (by decide) ?_
       exact k_)
      have p124 : Go p.tables e below _ (s₁.setTop (mkF m 41 #[.val (.int p1)] [(.int (1 : Int32))])) := fun t_ k_ => p123 t_ (by
       refine XS.iconst X0.here hx rfl (hb hby d11_36) ?_
       refine XS.goto X0.here hx rfl (pc0 := 37) (pc' := 41) rfl (hb hby d11_37) (by decide) (by decide) ?_
       exact k_)
      obtain ⟨fs, hr, hrun, hended, hW, hsame⟩ := X0.leave (v := some (.int (1 : Int32))) (fun h => by rw [Bd.returns] at h; cases h)
      refine ⟨_, _, p124 _ (retN X0 hx (t := .boolean) Bd.returns (by simp) (hb hby d11_41) hr), hrun, hended, _, _, rfl, ?_, ⟨_, rfl⟩, hW, hsame.mono (by decide) (by decide)⟩
      show Q11 Z p1 h0 n0 _ s₁.heap _
      rw [e0]
      exact ⟨by simp [own_bl, c102, c107, c112, c117, c122], N0, rfl⟩
     ·have p125 : Go p.tables e below _ (s₁.setTop (mkF m 30 #[.val (.int p1)] [])) := fun t_ k_ => p121 t_ (by
       refine XS.icmpNo X0.here hx rfl (hb hby d11_27) rfl (feq c122).1 ?_
       exact k_)
      have p126 : Go p.tables e below _ (s₁.setTop (mkF m 33 #[.val (.int p1)] [(.int (13 : Int32)), (.int p1)])) := fun t_ k_ => p125 t_ (by
       refine XS.iloadN X0.here hx rfl (hb hby d11_30) rfl ?_
       refine XS.bipush X0.here hx rfl (hb hby d11_31) ?_
       exact k_)
      by_cases c127 : p1 = (13 : Int32)
      ·have p128 : Go p.tables e below _ (s₁.setTop (mkF m 36 #[.val (.int p1)] [])) := fun t_ k_ => p126 t_ (by
        refine XS.icmpNo X0.here hx rfl (hb hby d11_33) rfl (teq c127).2 ?_
        exact k_)
       have p129 : Go p.tables e below _ (s₁.setTop (mkF m 41 #[.val (.int p1)] [(.int (1 : Int32))])) := fun t_ k_ => p128 t_ (by
        refine XS.iconst X0.here hx rfl (hb hby d11_36) ?_
        refine XS.goto X0.here hx rfl (pc0 := 37) (pc' := 41) rfl (hb hby d11_37) (by decide) (by decide) ?_
        exact k_)
       obtain ⟨fs, hr, hrun, hended, hW, hsame⟩ := X0.leave (v := some (.int (1 : Int32))) (fun h => by rw [Bd.returns] at h; cases h)
       refine ⟨_, _, p129 _ (retN X0 hx (t := .boolean) Bd.returns (by simp) (hb hby d11_41) hr), hrun, hended, _, _, rfl, ?_, ⟨_, rfl⟩, hW, hsame.mono (by decide) (by decide)⟩
       show Q11 Z p1 h0 n0 _ s₁.heap _
       rw [e0]
       exact ⟨by simp [own_bl, c102, c107, c112, c117, c122, c127], N0, rfl⟩
      ·have p130 : Go p.tables e below _ (s₁.setTop (mkF m 40 #[.val (.int p1)] [])) := fun t_ k_ => p126 t_ (by
        refine XS.icmpYes X0.here hx rfl (pc0 := 33) (pc' := 40) rfl (hb hby d11_33) rfl (feq c127).2 (by decide) (by decide) ?_
        exact k_)
       have p131 : Go p.tables e below _ (s₁.setTop (mkF m 41 #[.val (.int p1)] [(.int (0 : Int32))])) := fun t_ k_ => p130 t_ (by
        refine XS.iconst X0.here hx rfl (hb hby d11_40) ?_
        exact k_)
       obtain ⟨fs, hr, hrun, hended, hW, hsame⟩ := X0.leave (v := some (.int (0 : Int32))) (fun h => by rw [Bd.returns] at h; cases h)
       refine ⟨_, _, p131 _ (retN X0 hx (t := .boolean) Bd.returns (by simp) (hb hby d11_41) hr), hrun, hended, _, _, rfl, ?_, ⟨_, rfl⟩, hW, hsame.mono (by decide) (by decide)⟩
       show Q11 Z p1 h0 n0 _ s₁.heap _
       rw [e0]
       exact ⟨by simp [own_bl, c102, c107, c112, c117, c122, c127], N0, rfl⟩
theorem d17_0 : decode prog_51_method_15_code 0 = .ok (.iload_n 0, 1) := by decide +kernel
theorem d17_1 : decode prog_51_method_15_code 1 = .ok (.getstatic 120, 3) := by decide +kernel
theorem d17_4 : decode prog_51_method_15_code 4 = .ok (.arraylength, 1) := by decide +kernel
theorem d17_5 : decode prog_51_method_15_code 5 = .ok (.if_icmp .ge 15, 3) := by decide +kernel
theorem d17_8 : decode prog_51_method_15_code 8 = .ok (.getstatic 120, 3) := by decide +kernel
theorem d17_11 : decode prog_51_method_15_code 11 = .ok (.iload_n 0, 1) := by decide +kernel
theorem d17_12 : decode prog_51_method_15_code 12 = .ok (.baload, 1) := by decide +kernel
theorem d17_13 : decode prog_51_method_15_code 13 = .ok (.ifCond .eq 7, 3) := by decide +kernel
theorem d17_16 : decode prog_51_method_15_code 16 = .ok (.iconst 1, 1) := by decide +kernel
theorem d17_17 : decode prog_51_method_15_code 17 = .ok (.goto 4, 3) := by decide +kernel
theorem d17_20 : decode prog_51_method_15_code 20 = .ok (.iconst 0, 1) := by decide +kernel
theorem d17_21 : decode prog_51_method_15_code 21 = .ok (.ireturn, 1) := by decide +kernel
theorem pn17 : plainFor (⟨"com/example/kuusi/kuusi/core/LineScanner", "isBlank", "(C)Z"⟩ : MethodName) = true := plainFor_of_name (by first | (simp [plainName, overriddenIn]; done) | decide +kernel)
theorem ef_rm17 (m : MethodId) (p1 : Int32) (ab : Addr) (kab : ClassId) (vsb : List Value) (cs1 : Int32) (fm : Value) : entryFrame m #[(.int p1)] 1 = mkF m 0 #[.val (.int p1)] [] := by first | (simp [entryFrame, mkF, argsToLocals, Value.category]; done) | rfl
def Q17 (Z : State) (p1 : Int32) (ab : Addr) (kab : ClassId) (vsb : List Value) (cs1 : Int32) (fm : Value) (h0 : Heap) (n0 : Nat) (v : Option Value) (h : Heap) (L : List Loc) : Prop := v = some (.int (own_bl p1)) ∧ Fr n0 L ∧ (h = h0)
set_option maxRecDepth 65536 in
set_option maxHeartbeats 40000000 in
theorem rm17 (l : Launch) (Z : State) (a0 : Array Value) (hw : ∀ d ∈ tables_1, d.before a0 Z = true) (ws : List Jvm.Cond) (p1 : Int32) (ab : Addr) (kab : ClassId) (vsb : List Value) (cs1 : Int32) (fm : Value) (h0 : Heap) (n0 : Nat) (Z0 : n0 ≤ h0.size) (O1 : Old Z n0 h0) (G : own_G Z cs1 fm) (AS : Sta Z Z.heap "com/example/kuusi/kuusi/core/LineScanner" "ASCII_BLANKS" "[Z" (.ref ab)) (AV : Arv Z Z.heap ab kab .boolean (128 : Int32) vsb (.int (0 : Int32))) (HT : ∀ j, j < 128 → vsb.getD j (.int (0 : Int32)) = .int (own_bt j)) (ra : ¬ (p1 < (0 : Int32))) :
  MetFree l (⟨"com/example/kuusi/kuusi/core/LineScanner", "isBlank", "(C)Z"⟩ : MethodName) (head1 (Jvm.Cond.code (⟨"com/example/kuusi/kuusi/core/LineScanner", "isBlank", "(C)Z"⟩ : MethodName) prog_51_method_15_code 1 (some .boolean) :: ws) ({ frames := 0, cells := 0, slots := 0, locals := 0 } : Room)) (fun a U => a = #[(.int p1)] ∧ Z.Warmed39 U.vm ∧ U.heap = h0) (fun _ _ _ _ _ => True) (fun _ U o U' => ∃ v L, o = .returned v ∧ Q17 Z p1 ab kab vsb cs1 fm h0 n0 v U'.heap L ∧ FrameEnd U o U' L ({ frames := 0, cells := 0, slots := 0, locals := 0 } : Room).cells ({ frames := 0, cells := 0, slots := 0, locals := 0 } : Room).slots) := by
 refine MetFree.of_bodySF pn17 hisR ?_
 intro p e s m args below meth c s₁ Bd hml0 hP hK
 obtain ⟨rfl, hZ, hh⟩ := hP
 have hx := Bd.exec
 have hby := Bd.bytes
 have hml : c.maxLocals = 1 := hml0
 have hown : s.vm.findClass "com/example/kuusi/kuusi/core/LineScanner" = some m.cls := findClass_of_methodNamed Bd.named
 have hnm := (name_of_methodNamed Bd.named Bd.method).1
 have X0 : Stand p l e ({ frames := 0, cells := 0, slots := 0, locals := 0 } : Room) s m #[(.int p1)] below meth c s₁ [] 0 0 := Stand.of_body Bd
 have e0 : s₁.heap = h0 := by rw [← hh, Bd.state]; rfl
 have N0 := Fr.nil n0
 have p0 : Go p.tables e below (s₁.setTop (entryFrame m #[(.int p1)] 1)) (s₁.setTop (mkF m 0 #[.val (.int p1)] [])) := fun t_ k_ => castTop (ef_rm17 m p1 ab kab vsb cs1 fm) k_
 have p101 : Go p.tables e below _ (s₁.setTop (mkF m 1 #[.val (.int p1)] [(.int p1)])) := fun t_ k_ => p0 t_ (by
  refine XS.iloadN X0.here hx rfl (hb hby d17_0) rfl ?_
  exact k_)
 obtain ⟨T102, X102, e102, st102⟩ := getS2 X0 hx hZ hown (host := "") (Or.inl (own_w hw 80 rfl)) Via.refl e0 (AS.ext O1.2) (g := (mkF m 1 #[.val (.int p1)] [(.int p1)])) rfl (hb hby d17_1)
 obtain ⟨cl103, Ar103, -, S103, Ng103, -, -⟩ := id (AV.ext O1.2)
 have p104 : Go p.tables e below _ (T102.setTop (mkF m 5 #[.val (.int p1)] [(.int (128 : Int32)), (.int p1)])) := fun t_ k_ => (gc p101 st102) t_ (by
  refine X102.arraylength hx (by rw [e102]; exact Ar103.1) (State.isArrayOf_alike hZ.alike Ar103.2.1) (g := (mkF m 4 #[.val (.int p1)] [(.ref ab), (.int p1)])) rfl rfl (hb hby d17_4) _ ?_
  rw [len_of S103 Ng103]
  show Steps p.tables e below (T102.setTop (mkF m 5 #[.val (.int p1)] [(.int (128 : Int32)), (.int p1)])) _
  exact k_)
 by_cases c105 : p1 < (128 : Int32)
 ·have p106 : Go p.tables e below _ (T102.setTop (mkF m 8 #[.val (.int p1)] [])) := fun t_ k_ => p104 t_ (by
   refine XS.icmpNo X102.here hx rfl (hb hby d17_5) rfl (tlt c105).2.1 ?_
   exact k_)
  obtain ⟨T107, X107, e107, st107⟩ := getS2 X102 hx hZ hown (host := "") (Or.inl (own_w hw 80 rfl)) Via.refl e102 (AS.ext O1.2) (g := (mkF m 8 #[.val (.int p1)] [])) rfl (hb hby d17_8)
  have p108 : Go p.tables e below _ (T107.setTop (mkF m 12 #[.val (.int p1)] [(.int p1), (.ref ab)])) := fun t_ k_ => (gc p106 st107) t_ (by
   refine XS.iloadN X107.here hx rfl (hb hby d17_11) rfl ?_
   exact k_)
  obtain ⟨cl109, Ar109, q109, S109, Ng109, H109, G109⟩ := id (AV.ext O1.2)
  have hin109 := inb_of S109 (j := p1) ⟨ra, c105⟩
  have hat109 := H109.at (v := (.int (own_bl p1))) hin109 (own_bla HT ra c105)
  have p110 : Go p.tables e below _ (T107.setTop (mkF m 13 #[.val (.int p1)] [(.int (own_bl p1))])) := fun t_ k_ => p108 t_ (by
   refine X107.baloadBooleans hx (j := p1) (v := (.int (own_bl p1))) (by rw [e107]; exact Ar109.1) (State.isArrayOf_alike hZ.alike Ar109.2.1) Ar109.2.2 hin109 hat109 (g := (mkF m 12 #[.val (.int p1)] [(.int p1), (.ref ab)])) rfl rfl (hb hby d17_12) _ ?_
   exact k_)
  by_cases c111 : (own_bl p1) = (0 : Int32)
  ·have p112 : Go p.tables e below _ (T107.setTop (mkF m 20 #[.val (.int p1)] [])) := fun t_ k_ => p110 t_ (by
    refine XS.ifYes X107.here hx rfl (pc0 := 13) (pc' := 20) rfl (hb hby d17_13) rfl ((if0 _ _).trans (teq c111).1) (by decide) (by decide) ?_
    exact k_)
   have p113 : Go p.tables e below _ (T107.setTop (mkF m 21 #[.val (.int p1)] [(.int (0 : Int32))])) := fun t_ k_ => p112 t_ (by
    refine XS.iconst X107.here hx rfl (hb hby d17_20) ?_
    exact k_)
   obtain ⟨fs, hr, hrun, hended, hW, hsame⟩ := X107.leave (v := some (.int (0 : Int32))) (fun h => by rw [Bd.returns] at h; cases h)
   refine ⟨_, _, p113 _ (retN X107 hx (t := .boolean) Bd.returns (by simp) (hb hby d17_21) hr), hrun, hended, _, _, rfl, ?_, ⟨_, rfl⟩, hW, hsame.mono (by decide) (by decide)⟩
   show Q17 Z p1 ab kab vsb cs1 fm h0 n0 _ T107.heap _
   rw [e107]
   exact ⟨congrArg (fun q => some (Value.int q)) (c111).symm, N0, rfl⟩
  ·have p114 : Go p.tables e below _ (T107.setTop (mkF m 16 #[.val (.int p1)] [])) := fun t_ k_ => p110 t_ (by
    refine XS.ifNo X107.here hx rfl (hb hby d17_13) rfl ((if0 _ _).trans (feq c111).1) ?_
    exact k_)
   have p115 : Go p.tables e below _ (T107.setTop (mkF m 21 #[.val (.int p1)] [(.int (1 : Int32))])) := fun t_ k_ => p114 t_ (by
    refine XS.iconst X107.here hx rfl (hb hby d17_16) ?_
    refine XS.goto X107.here hx rfl (pc0 := 17) (pc' := 21) rfl (hb hby d17_17) (by decide) (by decide) ?_
    exact k_)
   obtain ⟨fs, hr, hrun, hended, hW, hsame⟩ := X107.leave (v := some (.int (1 : Int32))) (fun h => by rw [Bd.returns] at h; cases h)
   refine ⟨_, _, p115 _ (retN X107 hx (t := .boolean) Bd.returns (by simp) (hb hby d17_21) hr), hrun, hended, _, _, rfl, ?_, ⟨_, rfl⟩, hW, hsame.mono (by decide) (by decide)⟩
   show Q17 Z p1 ab kab vsb cs1 fm h0 n0 _ T107.heap _
   rw [e107]
   exact ⟨congrArg (fun q => some (Value.int q)) ((own_bl01 p1).resolve_left c111).symm, N0, rfl⟩
 ·have p116 : Go p.tables e below _ (T102.setTop (mkF m 20 #[.val (.int p1)] [])) := fun t_ k_ => p104 t_ (by
   refine XS.icmpYes X102.here hx rfl (pc0 := 5) (pc' := 20) rfl (hb hby d17_5) rfl (flt c105).2.1 (by decide) (by decide) ?_
   exact k_)
  have p117 : Go p.tables e below _ (T102.setTop (mkF m 21 #[.val (.int p1)] [(.int (0 : Int32))])) := fun t_ k_ => p116 t_ (by
   refine XS.iconst X102.here hx rfl (hb hby d17_20) ?_
   exact k_)
  obtain ⟨fs, hr, hrun, hended, hW, hsame⟩ := X102.leave (v := some (.int (0 : Int32))) (fun h => by rw [Bd.returns] at h; cases h)
  refine ⟨_, _, p117 _ (retN X102 hx (t := .boolean) Bd.returns (by simp) (hb hby d17_21) hr), hrun, hended, _, _, rfl, ?_, ⟨_, rfl⟩, hW, hsame.mono (by decide) (by decide)⟩
  show Q17 Z p1 ab kab vsb cs1 fm h0 n0 _ T102.heap _
  rw [e102]
  exact ⟨congrArg (fun q => some (Value.int q)) (own_blbig c105).symm, N0, rfl⟩
theorem d5_4 : decode prog_51_method_5_code 4 = .ok (.iload_n 1, 1) := by decide +kernel
theorem d5_5 : decode prog_51_method_5_code 5 = .ok (.ifCond .eq 26, 3) := by decide +kernel
theorem d5_8 : decode prog_51_method_5_code 8 = .ok (.iload_n 2, 1) := by decide +kernel
theorem d5_9 : decode prog_51_method_5_code 9 = .ok (.aload_n 0, 1) := by decide +kernel
theorem d5_10 : decode prog_51_method_5_code 10 = .ok (.invokevirtual 51, 3) := by decide +kernel
theorem d5_13 : decode prog_51_method_5_code 13 = .ok (.if_icmp .ge 18, 3) := by decide +kernel
theorem pd14 : parseMethodDescriptor "()I" = some ⟨[], some .int⟩ := by decide +kernel
theorem d5_16 : decode prog_51_method_5_code 16 = .ok (.aload_n 0, 1) := by decide +kernel
theorem d5_17 : decode prog_51_method_5_code 17 = .ok (.iload_n 2, 1) := by decide +kernel
theorem d5_18 : decode prog_51_method_5_code 18 = .ok (.invokevirtual 45, 3) := by decide +kernel
theorem d5_21 : decode prog_51_method_5_code 21 = .ok (.invokestatic 55, 3) := by decide +kernel
theorem d5_24 : decode prog_51_method_5_code 24 = .ok (.istore_n 1, 1) := by decide +kernel
theorem d5_25 : decode prog_51_method_5_code 25 = .ok (.iinc 2 1, 3) := by decide +kernel
theorem d5_28 : decode prog_51_method_5_code 28 = .ok (.goto (-24), 3) := by decide +kernel
theorem pd15 : parseMethodDescriptor "(I)C" = some ⟨[.int], some .char⟩ := by decide +kernel
theorem pd16 : parseMethodDescriptor "(C)Z" = some ⟨[.char], some .boolean⟩ := by decide +kernel
set_option maxRecDepth 65536 in
set_option maxHeartbeats 40000000 in
theorem lpI0 {p : Program} {l : Launch} {e : Env} {s : State} {m : MethodId} {args : Array Value} {below : List Frame} {meth : Method} {c : Code} (Z : State) (a0 : Array Value) (hx : p.tables.exec = Jvm.exec) (hZ : Z.Warmed39 s.vm) (hw : ∀ d ∈ tables_1, d.before a0 Z = true) (hby : c.code = prog_51_method_5_code) (hml : c.maxLocals = 3) (hown : s.vm.findClass "com/example/kuusi/kuusi/core/LineScanner" = some m.cls) (a1 : Addr) (bv : Addr) (kv : ClassId) (z : Int32) (vs : List Value) (cs : List Int32) (n : Nat) (ab : Addr) (kab : ClassId) (vsb : List Value) (cs1 : Int32) (fm : Value) (h0 : Heap) (n0 : Nat) (Z0 : n0 ≤ h0.size) (O1 : Old Z n0 h0) (G : own_G Z cs1 fm) (AS : Sta Z Z.heap "com/example/kuusi/kuusi/core/LineScanner" "ASCII_BLANKS" "[Z" (.ref ab)) (AV : Arv Z Z.heap ab kab .boolean (128 : Int32) vsb (.int (0 : Int32))) (HT : ∀ j, j < 128 → vsb.getD j (.int (0 : Int32)) = .int (own_bt j)) (E1 : Exa Z h0 a1 "java/lang/String") (F1 : Fld Z h0 a1 "java/lang/String" "coder" "B" (.int (0 : Int32))) (F2 : Fld Z h0 a1 "java/lang/String" "value" "[B" (.ref bv)) (V1 : Arv Z h0 bv kv .byte z vs (.int (0 : Int32))) (hz : (z >>> (0 : Int32)) = (Int32.ofNat n)) (hn : n ≤ 8) (RA : ∀ i, i < n → ¬ (own_at cs i < (0 : Int32))) (HB : ∀ i, i < n → ∃ b : Int32, vs.getD ((Int32.ofNat i)).toNatClampNeg (.int (0 : Int32)) = .int b ∧ own_c8 b = own_at cs i) (hz0 : z = Int32.ofNat n) : ∀ (k i : Nat) (T : State) (locs : List Loc), i + k = n → Stand p l e ({ frames := 5, cells := 0, slots := 0, locals := 66 } : Room) s m args below meth c T locs 0 0 → T.heap = h0 → Fr n0 locs → ∃ (T' : State) (L' : List Loc) (j : Int32), Stand p l e ({ frames := 5, cells := 0, slots := 0, locals := 66 } : Room) s m args below meth c T' L' 0 0 ∧ T'.heap = h0 ∧ Fr n0 L' ∧ Go p.tables e below (T.setTop (mkF m 4 #[.val (.ref a1), .val (.int (own_ac cs i)), .val (.int (Int32.ofNat i))] [])) (T'.setTop (mkF m 31 #[.val (.ref a1), .val (.int (own_ac cs n)), .val (.int j)] [])) := by
 intro k
 induction k with
 | zero =>
  intro i T locs hk X0 e0 N0
  have hin : i = n := by omega
  have p0 : Go p.tables e below (T.setTop (mkF m 4 #[.val (.ref a1), .val (.int (own_ac cs i)), .val (.int (Int32.ofNat i))] [])) (T.setTop (mkF m 4 #[.val (.ref a1), .val (.int (own_ac cs i)), .val (.int (Int32.ofNat i))] [])) := fun t_ k_ => k_
  have p101 : Go p.tables e below _ (T.setTop (mkF m 5 #[.val (.ref a1), .val (.int (own_ac cs i)), .val (.int (Int32.ofNat i))] [(.int (own_ac cs i))])) := fun t_ k_ => p0 t_ (by
   refine XS.iloadN X0.here hx rfl (hb hby d5_4) rfl ?_
   exact k_)
  by_cases c102 : (own_ac cs i) = (0 : Int32)
  ·have p103 : Go p.tables e below _ (T.setTop (mkF m 31 #[.val (.ref a1), .val (.int (own_ac cs i)), .val (.int (Int32.ofNat i))] [])) := fun t_ k_ => p101 t_ (by
    refine XS.ifYes X0.here hx rfl (pc0 := 5) (pc' := 31) rfl (hb hby d5_5) rfl ((if0 _ _).trans (teq c102).1) (by decide) (by decide) ?_
    exact k_)
   exact ⟨_, _, _, X0, e0, N0, by have z := p103; rw [hin] at z ⊢; exact z⟩
  ·have p104 : Go p.tables e below _ (T.setTop (mkF m 8 #[.val (.ref a1), .val (.int (own_ac cs i)), .val (.int (Int32.ofNat i))] [])) := fun t_ k_ => p101 t_ (by
    refine XS.ifNo X0.here hx rfl (hb hby d5_5) rfl ((if0 _ _).trans (feq c102).1) ?_
    exact k_)
   have p105 : Go p.tables e below _ (T.setTop (mkF m 10 #[.val (.ref a1), .val (.int (own_ac cs i)), .val (.int (Int32.ofNat i))] [(.ref a1), (.int (Int32.ofNat i))])) := fun t_ k_ => p104 t_ (by
    refine XS.iloadN X0.here hx rfl (hb hby d5_8) rfl ?_
    refine XS.aloadN X0.here hx rfl (hb hby d5_9) rfl rfl ?_
    exact k_)
   obtain ⟨cq106, kq106, q106a, q106b, q106c⟩ := isOf hZ e0 E1
   obtain ⟨_, _, ⟨T106, L106, k106, n106⟩, -, X106, ⟨Lc106, hQ106, l106, y106, z106⟩, st106⟩ := X0.virtualBack hx (y := (⟨"java/lang/String", "length", "()I"⟩ : MethodName)) (z := (⟨"java/lang/String", "length", "()I"⟩ : MethodName)) hown (mvT hZ (own_w hw 31 rfl)) (mvT hZ (own_w hw 32 rfl)) (notFace_of_selects (args := #[]) (mvT hZ (own_w hw 34 rfl))) (mvT hZ (own_w hw 34 rfl)) (mvT hZ (own_w hw 33 rfl)) (by decide) (backOf (W := 1) (rm6_0 l Z a0 hw [] a1 (Int32.ofNat n) bv kv z vs cs1 fm h0 n0 (Nat.le_trans Z0 (Keep.refl h0 []).1) O1 G E1 F1 F2 V1 hz) hZ (own_w hw 35 rfl) (own_w hw 8 rfl) (by decide) (by decide)) q106a q106c (g := (mkF m 10 #[.val (.ref a1), .val (.int (own_ac cs i)), .val (.int (Int32.ofNat i))] [(.ref a1), (.int (Int32.ofNat i))])) rfl (by rw [hml]; rfl) (Steps.refl _) (argsL := []) (rest := [(.int (Int32.ofNat i))]) (lenOf pd14 rfl) rfl (by show 2 * 0 + _ ≤ _; exact Nat.le_of_eq rfl) (hb hby d5_10) (fun _ _ => ⟨rfl, e0, (by decide : 0 + 0 ≤ _), (by decide : 0 + 0 ≤ _)⟩)
   dsimp only [Pt.U, Pt.locs, Pt.cells, Pt.slots] at X106 l106 y106 z106 st106 hQ106
   subst l106 y106 z106
   obtain ⟨rfl, N106q, q106_hh⟩ := hQ106
   have N106 := Fr.app N0 N106q
   have c107 : ¬ ((Int32.ofNat i) < (Int32.ofNat n)) := (fun q => by rw [own_lt32 (by omega) (by omega)] at q; omega)
   have p108 : Go p.tables e below _ (T106.setTop (mkF m 31 #[.val (.ref a1), .val (.int (own_ac cs i)), .val (.int (Int32.ofNat i))] [])) := fun t_ k_ => (gcT p105 st106) t_ (by
    refine XS.icmpYes X106.here hx rfl (pc0 := 13) (pc' := 31) rfl (hb hby d5_13) rfl (flt c107).2.1 (by decide) (by decide) ?_
    exact k_)
   exact ⟨_, _, _, X106, q106_hh, N106, by have z := p108; rw [hin] at z ⊢; exact z⟩
 | succ k ih =>
  intro i T locs hk X0 e0 N0
  have hi : i < n := by omega
  have p0 : Go p.tables e below (T.setTop (mkF m 4 #[.val (.ref a1), .val (.int (own_ac cs i)), .val (.int (Int32.ofNat i))] [])) (T.setTop (mkF m 4 #[.val (.ref a1), .val (.int (own_ac cs i)), .val (.int (Int32.ofNat i))] [])) := fun t_ k_ => k_
  have p101 : Go p.tables e below _ (T.setTop (mkF m 5 #[.val (.ref a1), .val (.int (own_ac cs i)), .val (.int (Int32.ofNat i))] [(.int (own_ac cs i))])) := fun t_ k_ => p0 t_ (by
   refine XS.iloadN X0.here hx rfl (hb hby d5_4) rfl ?_
   exact k_)
  by_cases c102 : (own_ac cs i) = (0 : Int32)
  ·have p103 : Go p.tables e below _ (T.setTop (mkF m 31 #[.val (.ref a1), .val (.int (own_ac cs i)), .val (.int (Int32.ofNat i))] [])) := fun t_ k_ => p101 t_ (by
    refine XS.ifYes X0.here hx rfl (pc0 := 5) (pc' := 31) rfl (hb hby d5_5) rfl ((if0 _ _).trans (teq c102).1) (by decide) (by decide) ?_
    exact k_)
   exact ⟨_, _, _, X0, e0, N0, by rw [own_ac0 cs i n (by omega) c102, ← c102]; exact p103⟩
  ·have p104 : Go p.tables e below _ (T.setTop (mkF m 8 #[.val (.ref a1), .val (.int (own_ac cs i)), .val (.int (Int32.ofNat i))] [])) := fun t_ k_ => p101 t_ (by
    refine XS.ifNo X0.here hx rfl (hb hby d5_5) rfl ((if0 _ _).trans (feq c102).1) ?_
    exact k_)
   have p105 : Go p.tables e below _ (T.setTop (mkF m 10 #[.val (.ref a1), .val (.int (own_ac cs i)), .val (.int (Int32.ofNat i))] [(.ref a1), (.int (Int32.ofNat i))])) := fun t_ k_ => p104 t_ (by
    refine XS.iloadN X0.here hx rfl (hb hby d5_8) rfl ?_
    refine XS.aloadN X0.here hx rfl (hb hby d5_9) rfl rfl ?_
    exact k_)
   obtain ⟨cq106, kq106, q106a, q106b, q106c⟩ := isOf hZ e0 E1
   obtain ⟨_, _, ⟨T106, L106, k106, n106⟩, -, X106, ⟨Lc106, hQ106, l106, y106, z106⟩, st106⟩ := X0.virtualBack hx (y := (⟨"java/lang/String", "length", "()I"⟩ : MethodName)) (z := (⟨"java/lang/String", "length", "()I"⟩ : MethodName)) hown (mvT hZ (own_w hw 31 rfl)) (mvT hZ (own_w hw 32 rfl)) (notFace_of_selects (args := #[]) (mvT hZ (own_w hw 34 rfl))) (mvT hZ (own_w hw 34 rfl)) (mvT hZ (own_w hw 33 rfl)) (by decide) (backOf (W := 1) (rm6_0 l Z a0 hw [] a1 (Int32.ofNat n) bv kv z vs cs1 fm h0 n0 (Nat.le_trans Z0 (Keep.refl h0 []).1) O1 G E1 F1 F2 V1 hz) hZ (own_w hw 35 rfl) (own_w hw 8 rfl) (by decide) (by decide)) q106a q106c (g := (mkF m 10 #[.val (.ref a1), .val (.int (own_ac cs i)), .val (.int (Int32.ofNat i))] [(.ref a1), (.int (Int32.ofNat i))])) rfl (by rw [hml]; rfl) (Steps.refl _) (argsL := []) (rest := [(.int (Int32.ofNat i))]) (lenOf pd14 rfl) rfl (by show 2 * 0 + _ ≤ _; exact Nat.le_of_eq rfl) (hb hby d5_10) (fun _ _ => ⟨rfl, e0, (by decide : 0 + 0 ≤ _), (by decide : 0 + 0 ≤ _)⟩)
   dsimp only [Pt.U, Pt.locs, Pt.cells, Pt.slots] at X106 l106 y106 z106 st106 hQ106
   subst l106 y106 z106
   obtain ⟨rfl, N106q, q106_hh⟩ := hQ106
   have N106 := Fr.app N0 N106q
   have c107 : ((Int32.ofNat i) < (Int32.ofNat n)) := (own_lt32 (by omega) (by omega)).mpr hi
   have p108 : Go p.tables e below _ (T106.setTop (mkF m 18 #[.val (.ref a1), .val (.int (own_ac cs i)), .val (.int (Int32.ofNat i))] [(.int (Int32.ofNat i)), (.ref a1)])) := fun t_ k_ => (gcT p105 st106) t_ (by
    refine XS.icmpNo X106.here hx rfl (hb hby d5_13) rfl (tlt c107).2.1 ?_
    refine XS.aloadN X106.here hx rfl (hb hby d5_16) rfl rfl ?_
    refine XS.iloadN X106.here hx rfl (hb hby d5_17) rfl ?_
    exact k_)
   obtain ⟨b, hg, hc⟩ := HB i hi
   obtain ⟨cq109, kq109, q109a, q109b, q109c⟩ := isOf hZ q106_hh E1
   obtain ⟨_, _, ⟨T109, L109, k109, n109⟩, -, X109, ⟨Lc109, hQ109, l109, y109, z109⟩, st109⟩ := X106.virtualBack hx (y := (⟨"java/lang/String", "charAt", "(I)C"⟩ : MethodName)) (z := (⟨"java/lang/String", "charAt", "(I)C"⟩ : MethodName)) hown (mvT hZ (own_w hw 55 rfl)) (mvT hZ (own_w hw 56 rfl)) (notFace_of_selects (args := #[]) (mvT hZ (own_w hw 58 rfl))) (mvT hZ (own_w hw 58 rfl)) (mvT hZ (own_w hw 57 rfl)) (by decide) (backOf (W := 0) (rm12_0 l Z a0 hw [] a1 (Int32.ofNat i) bv kv z vs b (own_at cs i) cs1 fm h0 n0 (Nat.le_trans Z0 (Keep.refl h0 []).1) O1 G E1 F1 F2 V1 (own_nn32 (by omega)) (by rw [hz0]; exact (own_lt32 (by omega) (by omega)).mpr hi) hg hc) hZ (own_w hw 59 rfl) (own_w hw 8 rfl) (by decide) (by decide)) q109a q109c (g := (mkF m 18 #[.val (.ref a1), .val (.int (own_ac cs i)), .val (.int (Int32.ofNat i))] [(.int (Int32.ofNat i)), (.ref a1)])) rfl (by rw [hml]; rfl) (Steps.refl _) (argsL := [(.int (Int32.ofNat i))]) (rest := []) (lenOf pd15 rfl) rfl (by show 2 * 0 + _ ≤ _; exact Nat.le_of_eq rfl) (hb hby d5_18) (fun _ _ => ⟨rfl, q106_hh, (by decide : 0 + 0 ≤ _), (by decide : 0 + 0 ≤ _)⟩)
   dsimp only [Pt.U, Pt.locs, Pt.cells, Pt.slots] at X109 l109 y109 z109 st109 hQ109
   subst l109 y109 z109
   obtain ⟨rfl, N109q, q109_hh⟩ := hQ109
   have N109 := Fr.app N106 N109q
   obtain ⟨_, _, ⟨T110, L110, k110, n110⟩, -, X110, ⟨Lc110, hQ110, l110, y110, z110⟩, st110⟩ := Jvm.LawKit.callS X109 hx (y := (⟨"com/example/kuusi/kuusi/core/LineScanner", "isBlank", "(C)Z"⟩ : MethodName)) hown (mvT hZ (own_w hw 77 rfl)) (mvT hZ (own_w hw 78 rfl)) (mvT hZ (own_w hw 29 rfl)) (mvT hZ (own_w hw 79 rfl)) (by decide) (backOf (W := 0) (rm17 l Z a0 hw [] (own_at cs i) ab kab vsb cs1 fm h0 n0 (Nat.le_trans Z0 (Keep.refl h0 []).1) O1 G AS AV HT (RA i hi)) hZ (own_w hw 79 rfl) (own_w hw 29 rfl) (by decide) (by decide)) (g := (mkF m 21 #[.val (.ref a1), .val (.int (own_ac cs i)), .val (.int (Int32.ofNat i))] [(.int (own_at cs i))])) rfl (by rw [hml]; rfl) (argsL := [(.int (own_at cs i))]) (rest := []) (lenOf pd16 rfl) rfl (by show 2 * 0 + _ ≤ _; exact Nat.le_of_eq rfl) (hb hby d5_21) (fun _ _ => ⟨rfl, q109_hh, (by decide : 0 + 0 ≤ _), (by decide : 0 + 0 ≤ _)⟩)
   dsimp only [Pt.U, Pt.locs, Pt.cells, Pt.slots] at X110 l110 y110 z110 st110 hQ110
   subst l110 y110 z110
   obtain ⟨rfl, N110q, q110_hh⟩ := hQ110
   have N110 := Fr.app N109 N110q
   have p111 : Go p.tables e below _ (T110.setTop (mkF m 4 #[.val (.ref a1), .val (.int (own_bl (own_at cs i))), .val (.int ((Int32.ofNat i) + (1 : Int32)))] [])) := fun t_ k_ => (gc (gcT p108 st109) st110) t_ (by
    refine XS.istoreN X110.here hx rfl (hb hby d5_24) rfl (l' := #[.val (.ref a1), .val (.int (own_bl (own_at cs i))), .val (.int (Int32.ofNat i))]) rfl ?_
    refine XS.iinc X110.here hx rfl (hb hby d5_25) rfl (l' := #[.val (.ref a1), .val (.int (own_bl (own_at cs i))), .val (.int ((Int32.ofNat i) + (1 : Int32)))]) rfl ?_
    refine XS.goto X110.here hx rfl (pc0 := 28) (pc' := 4) rfl (hb hby d5_28) (by decide) (by decide) ?_
    exact k_)
   obtain ⟨T', L', j, X', e', N', g'⟩ := ih (i + 1) T110 _ (by omega) X110 q110_hh N110
   refine ⟨T', L', j, X', e', N', fun t_ k_ => p111 t_ ?_⟩
   have z := g' t_ k_
   rw [own_ac_s, if_neg c102, own_up1 i] at z
   exact z
theorem d5_0 : decode prog_51_method_5_code 0 = .ok (.iconst 1, 1) := by decide +kernel
theorem d5_1 : decode prog_51_method_5_code 1 = .ok (.istore_n 1, 1) := by decide +kernel
theorem d5_2 : decode prog_51_method_5_code 2 = .ok (.iconst 0, 1) := by decide +kernel
theorem d5_3 : decode prog_51_method_5_code 3 = .ok (.istore_n 2, 1) := by decide +kernel
theorem d5_31 : decode prog_51_method_5_code 31 = .ok (.iload_n 1, 1) := by decide +kernel
theorem d5_32 : decode prog_51_method_5_code 32 = .ok (.ireturn, 1) := by decide +kernel
theorem pn5 : plainFor (⟨"com/example/kuusi/kuusi/core/LineScanner", "isBlank", "(Ljava/lang/String;)Z"⟩ : MethodName) = true := plainFor_of_name (by first | (simp [plainName, overriddenIn]; done) | decide +kernel)
theorem ef_rm5_0 (m : MethodId) (a1 : Addr) (bv : Addr) (kv : ClassId) (z : Int32) (vs : List Value) (cs : List Int32) (n : Nat) (ab : Addr) (kab : ClassId) (vsb : List Value) (cs1 : Int32) (fm : Value) : entryFrame m #[(.ref a1)] 3 = mkF m 0 #[.val (.ref a1), .unset, .unset] [] := by first | (simp [entryFrame, mkF, argsToLocals, Value.category]; done) | rfl
def Q5_0 (Z : State) (a1 : Addr) (bv : Addr) (kv : ClassId) (z : Int32) (vs : List Value) (cs : List Int32) (n : Nat) (ab : Addr) (kab : ClassId) (vsb : List Value) (cs1 : Int32) (fm : Value) (h0 : Heap) (n0 : Nat) (v : Option Value) (h : Heap) (L : List Loc) : Prop := v = some (.int (own_ac cs n)) ∧ Fr n0 L ∧ (h = h0)
set_option maxRecDepth 65536 in
set_option maxHeartbeats 40000000 in
theorem rm5_0 (l : Launch) (Z : State) (a0 : Array Value) (hw : ∀ d ∈ tables_1, d.before a0 Z = true) (ws : List Jvm.Cond) (a1 : Addr) (bv : Addr) (kv : ClassId) (z : Int32) (vs : List Value) (cs : List Int32) (n : Nat) (ab : Addr) (kab : ClassId) (vsb : List Value) (cs1 : Int32) (fm : Value) (h0 : Heap) (n0 : Nat) (Z0 : n0 ≤ h0.size) (O1 : Old Z n0 h0) (G : own_G Z cs1 fm) (AS : Sta Z Z.heap "com/example/kuusi/kuusi/core/LineScanner" "ASCII_BLANKS" "[Z" (.ref ab)) (AV : Arv Z Z.heap ab kab .boolean (128 : Int32) vsb (.int (0 : Int32))) (HT : ∀ j, j < 128 → vsb.getD j (.int (0 : Int32)) = .int (own_bt j)) (E1 : Exa Z h0 a1 "java/lang/String") (F1 : Fld Z h0 a1 "java/lang/String" "coder" "B" (.int (0 : Int32))) (F2 : Fld Z h0 a1 "java/lang/String" "value" "[B" (.ref bv)) (V1 : Arv Z h0 bv kv .byte z vs (.int (0 : Int32))) (hz : (z >>> (0 : Int32)) = (Int32.ofNat n)) (hn : n ≤ 8) (RA : ∀ i, i < n → ¬ (own_at cs i < (0 : Int32))) (HB : ∀ i, i < n → ∃ b : Int32, vs.getD ((Int32.ofNat i)).toNatClampNeg (.int (0 : Int32)) = .int b ∧ own_c8 b = own_at cs i) (hz0 : z = Int32.ofNat n) :
  MetFree l (⟨"com/example/kuusi/kuusi/core/LineScanner", "isBlank", "(Ljava/lang/String;)Z"⟩ : MethodName) (head1 (Jvm.Cond.code (⟨"com/example/kuusi/kuusi/core/LineScanner", "isBlank", "(Ljava/lang/String;)Z"⟩ : MethodName) prog_51_method_5_code 3 (some .boolean) :: ws) ({ frames := 5, cells := 0, slots := 0, locals := 66 } : Room)) (fun a U => a = #[(.ref a1)] ∧ Z.Warmed39 U.vm ∧ U.heap = h0) (fun _ _ _ _ _ => True) (fun _ U o U' => ∃ v L, o = .returned v ∧ Q5_0 Z a1 bv kv z vs cs n ab kab vsb cs1 fm h0 n0 v U'.heap L ∧ FrameEnd U o U' L ({ frames := 5, cells := 0, slots := 0, locals := 66 } : Room).cells ({ frames := 5, cells := 0, slots := 0, locals := 66 } : Room).slots) := by
 refine MetFree.of_bodySF pn5 hisR ?_
 intro p e s m args below meth c s₁ Bd hml0 hP hK
 obtain ⟨rfl, hZ, hh⟩ := hP
 have hx := Bd.exec
 have hby := Bd.bytes
 have hml : c.maxLocals = 3 := hml0
 have hown : s.vm.findClass "com/example/kuusi/kuusi/core/LineScanner" = some m.cls := findClass_of_methodNamed Bd.named
 have hnm := (name_of_methodNamed Bd.named Bd.method).1
 have X0 : Stand p l e ({ frames := 5, cells := 0, slots := 0, locals := 66 } : Room) s m #[(.ref a1)] below meth c s₁ [] 0 0 := Stand.of_body Bd
 have e0 : s₁.heap = h0 := by rw [← hh, Bd.state]; rfl
 have N0 := Fr.nil n0
 have p0 : Go p.tables e below (s₁.setTop (entryFrame m #[(.ref a1)] 3)) (s₁.setTop (mkF m 0 #[.val (.ref a1), .unset, .unset] [])) := fun t_ k_ => castTop (ef_rm5_0 m a1 bv kv z vs cs n ab kab vsb cs1 fm) k_
 have p101 : Go p.tables e below _ (s₁.setTop (mkF m 4 #[.val (.ref a1), .val (.int (1 : Int32)), .val (.int (0 : Int32))] [])) := fun t_ k_ => p0 t_ (by
  refine XS.iconst X0.here hx rfl (hb hby d5_0) ?_
  refine XS.istoreN X0.here hx rfl (hb hby d5_1) rfl (l' := #[.val (.ref a1), .val (.int (1 : Int32)), .unset]) rfl ?_
  refine XS.iconst X0.here hx rfl (hb hby d5_2) ?_
  refine XS.istoreN X0.here hx rfl (hb hby d5_3) rfl (l' := #[.val (.ref a1), .val (.int (1 : Int32)), .val (.int (0 : Int32))]) rfl ?_
  exact k_)
 have p103 : Go p.tables e below _ (s₁.setTop (mkF m 4 #[.val (.ref a1), .val (.int (own_ac cs 0)), .val (.int (Int32.ofNat 0))] [])) := p101
 obtain ⟨T102, L102, j102, X102, e102, N102, g102⟩ := lpI0 Z a0 hx hZ hw hby hml hown a1 bv kv z vs cs n ab kab vsb cs1 fm h0 n0 Z0 O1 G AS AV HT E1 F1 F2 V1 hz hn RA HB hz0 n 0 s₁ _ (by omega) X0 e0 N0
 have p104 : Go p.tables e below _ (T102.setTop (mkF m 31 #[.val (.ref a1), .val (.int (own_ac cs n)), .val (.int j102)] [])) := fun t_ k_ => p103 t_ (g102 t_ k_)
 have p105 : Go p.tables e below _ (T102.setTop (mkF m 32 #[.val (.ref a1), .val (.int (own_ac cs n)), .val (.int j102)] [(.int (own_ac cs n))])) := fun t_ k_ => p104 t_ (by
  refine XS.iloadN X102.here hx rfl (hb hby d5_31) rfl ?_
  exact k_)
 obtain ⟨fs, hr, hrun, hended, hW, hsame⟩ := X102.leave (v := some (.int (nar .boolean (own_ac cs n)))) (fun h => by rw [Bd.returns] at h; cases h)
 refine ⟨_, _, p105 _ (retN X102 hx (t := .boolean) Bd.returns (by simp) (hb hby d5_32) hr), hrun, hended, _, _, rfl, ?_, ⟨_, rfl⟩, hW, hsame.mono (by decide) (by decide)⟩
 show Q5_0 Z a1 bv kv z vs cs n ab kab vsb cs1 fm h0 n0 _ T102.heap _
 rw [e102]
 exact ⟨congrArg (fun q => some (Value.int q)) (own_nac cs n), N102, rfl⟩
set_option maxRecDepth 65536 in
set_option maxHeartbeats 40000000 in
theorem lpI1 {p : Program} {l : Launch} {e : Env} {s : State} {m : MethodId} {args : Array Value} {below : List Frame} {meth : Method} {c : Code} (Z : State) (a0 : Array Value) (hx : p.tables.exec = Jvm.exec) (hZ : Z.Warmed39 s.vm) (hw : ∀ d ∈ tables_1, d.before a0 Z = true) (hby : c.code = prog_51_method_5_code) (hml : c.maxLocals = 3) (hown : s.vm.findClass "com/example/kuusi/kuusi/core/LineScanner" = some m.cls) (a1 : Addr) (bv : Addr) (kv : ClassId) (z : Int32) (vs : List Value) (cs : List Int32) (n : Nat) (ab : Addr) (kab : ClassId) (vsb : List Value) (cs1 : Int32) (fm : Value) (h0 : Heap) (n0 : Nat) (Z0 : n0 ≤ h0.size) (O1 : Old Z n0 h0) (G : own_G Z cs1 fm) (AS : Sta Z Z.heap "com/example/kuusi/kuusi/core/LineScanner" "ASCII_BLANKS" "[Z" (.ref ab)) (AV : Arv Z Z.heap ab kab .boolean (128 : Int32) vsb (.int (0 : Int32))) (HT : ∀ j, j < 128 → vsb.getD j (.int (0 : Int32)) = .int (own_bt j)) (E1 : Exa Z h0 a1 "java/lang/String") (F1 : Fld Z h0 a1 "java/lang/String" "coder" "B" (.int (1 : Int32))) (F2 : Fld Z h0 a1 "java/lang/String" "value" "[B" (.ref bv)) (V1 : Arv Z h0 bv kv .byte z vs (.int (0 : Int32))) (hz : (z >>> (1 : Int32)) = (Int32.ofNat n)) (hn : n ≤ 8) (RA : ∀ i, i < n → ¬ (own_at cs i < (0 : Int32))) (HB : ∀ i, i < n → ∃ b0 b1 : Int32, (¬ ((Int32.ofNat i) <<< (1 : Int32)) < 0 ∧ ((Int32.ofNat i) <<< (1 : Int32)) < z) ∧ (¬ (((Int32.ofNat i) <<< (1 : Int32)) + (1 : Int32)) < 0 ∧ (((Int32.ofNat i) <<< (1 : Int32)) + (1 : Int32)) < z) ∧ vs.getD (((Int32.ofNat i) <<< (1 : Int32))).toNatClampNeg (.int (0 : Int32)) = .int b0 ∧ vs.getD ((((Int32.ofNat i) <<< (1 : Int32)) + (1 : Int32))).toNatClampNeg (.int (0 : Int32)) = .int b1 ∧ own_c16 b0 b1 = own_at cs i) : ∀ (k i : Nat) (T : State) (locs : List Loc), i + k = n → Stand p l e ({ frames := 5, cells := 0, slots := 0, locals := 66 } : Room) s m args below meth c T locs 0 0 → T.heap = h0 → Fr n0 locs → ∃ (T' : State) (L' : List Loc) (j : Int32), Stand p l e ({ frames := 5, cells := 0, slots := 0, locals := 66 } : Room) s m args below meth c T' L' 0 0 ∧ T'.heap = h0 ∧ Fr n0 L' ∧ Go p.tables e below (T.setTop (mkF m 4 #[.val (.ref a1), .val (.int (own_ac cs i)), .val (.int (Int32.ofNat i))] [])) (T'.setTop (mkF m 31 #[.val (.ref a1), .val (.int (own_ac cs n)), .val (.int j)] [])) := by
 intro k
 induction k with
 | zero =>
  intro i T locs hk X0 e0 N0
  have hin : i = n := by omega
  have p0 : Go p.tables e below (T.setTop (mkF m 4 #[.val (.ref a1), .val (.int (own_ac cs i)), .val (.int (Int32.ofNat i))] [])) (T.setTop (mkF m 4 #[.val (.ref a1), .val (.int (own_ac cs i)), .val (.int (Int32.ofNat i))] [])) := fun t_ k_ => k_
  have p101 : Go p.tables e below _ (T.setTop (mkF m 5 #[.val (.ref a1), .val (.int (own_ac cs i)), .val (.int (Int32.ofNat i))] [(.int (own_ac cs i))])) := fun t_ k_ => p0 t_ (by
   refine XS.iloadN X0.here hx rfl (hb hby d5_4) rfl ?_
   exact k_)
  by_cases c102 : (own_ac cs i) = (0 : Int32)
  ·have p103 : Go p.tables e below _ (T.setTop (mkF m 31 #[.val (.ref a1), .val (.int (own_ac cs i)), .val (.int (Int32.ofNat i))] [])) := fun t_ k_ => p101 t_ (by
    refine XS.ifYes X0.here hx rfl (pc0 := 5) (pc' := 31) rfl (hb hby d5_5) rfl ((if0 _ _).trans (teq c102).1) (by decide) (by decide) ?_
    exact k_)
   exact ⟨_, _, _, X0, e0, N0, by have z := p103; rw [hin] at z ⊢; exact z⟩
  ·have p104 : Go p.tables e below _ (T.setTop (mkF m 8 #[.val (.ref a1), .val (.int (own_ac cs i)), .val (.int (Int32.ofNat i))] [])) := fun t_ k_ => p101 t_ (by
    refine XS.ifNo X0.here hx rfl (hb hby d5_5) rfl ((if0 _ _).trans (feq c102).1) ?_
    exact k_)
   have p105 : Go p.tables e below _ (T.setTop (mkF m 10 #[.val (.ref a1), .val (.int (own_ac cs i)), .val (.int (Int32.ofNat i))] [(.ref a1), (.int (Int32.ofNat i))])) := fun t_ k_ => p104 t_ (by
    refine XS.iloadN X0.here hx rfl (hb hby d5_8) rfl ?_
    refine XS.aloadN X0.here hx rfl (hb hby d5_9) rfl rfl ?_
    exact k_)
   obtain ⟨cq106, kq106, q106a, q106b, q106c⟩ := isOf hZ e0 E1
   obtain ⟨_, _, ⟨T106, L106, k106, n106⟩, -, X106, ⟨Lc106, hQ106, l106, y106, z106⟩, st106⟩ := X0.virtualBack hx (y := (⟨"java/lang/String", "length", "()I"⟩ : MethodName)) (z := (⟨"java/lang/String", "length", "()I"⟩ : MethodName)) hown (mvT hZ (own_w hw 31 rfl)) (mvT hZ (own_w hw 32 rfl)) (notFace_of_selects (args := #[]) (mvT hZ (own_w hw 34 rfl))) (mvT hZ (own_w hw 34 rfl)) (mvT hZ (own_w hw 33 rfl)) (by decide) (backOf (W := 1) (rm6_1 l Z a0 hw [] a1 (Int32.ofNat n) bv kv z vs cs1 fm h0 n0 (Nat.le_trans Z0 (Keep.refl h0 []).1) O1 G E1 F1 F2 V1 hz) hZ (own_w hw 35 rfl) (own_w hw 8 rfl) (by decide) (by decide)) q106a q106c (g := (mkF m 10 #[.val (.ref a1), .val (.int (own_ac cs i)), .val (.int (Int32.ofNat i))] [(.ref a1), (.int (Int32.ofNat i))])) rfl (by rw [hml]; rfl) (Steps.refl _) (argsL := []) (rest := [(.int (Int32.ofNat i))]) (lenOf pd14 rfl) rfl (by show 2 * 0 + _ ≤ _; exact Nat.le_of_eq rfl) (hb hby d5_10) (fun _ _ => ⟨rfl, e0, (by decide : 0 + 0 ≤ _), (by decide : 0 + 0 ≤ _)⟩)
   dsimp only [Pt.U, Pt.locs, Pt.cells, Pt.slots] at X106 l106 y106 z106 st106 hQ106
   subst l106 y106 z106
   obtain ⟨rfl, N106q, q106_hh⟩ := hQ106
   have N106 := Fr.app N0 N106q
   have c107 : ¬ ((Int32.ofNat i) < (Int32.ofNat n)) := (fun q => by rw [own_lt32 (by omega) (by omega)] at q; omega)
   have p108 : Go p.tables e below _ (T106.setTop (mkF m 31 #[.val (.ref a1), .val (.int (own_ac cs i)), .val (.int (Int32.ofNat i))] [])) := fun t_ k_ => (gcT p105 st106) t_ (by
    refine XS.icmpYes X106.here hx rfl (pc0 := 13) (pc' := 31) rfl (hb hby d5_13) rfl (flt c107).2.1 (by decide) (by decide) ?_
    exact k_)
   exact ⟨_, _, _, X106, q106_hh, N106, by have z := p108; rw [hin] at z ⊢; exact z⟩
 | succ k ih =>
  intro i T locs hk X0 e0 N0
  have hi : i < n := by omega
  have p0 : Go p.tables e below (T.setTop (mkF m 4 #[.val (.ref a1), .val (.int (own_ac cs i)), .val (.int (Int32.ofNat i))] [])) (T.setTop (mkF m 4 #[.val (.ref a1), .val (.int (own_ac cs i)), .val (.int (Int32.ofNat i))] [])) := fun t_ k_ => k_
  have p101 : Go p.tables e below _ (T.setTop (mkF m 5 #[.val (.ref a1), .val (.int (own_ac cs i)), .val (.int (Int32.ofNat i))] [(.int (own_ac cs i))])) := fun t_ k_ => p0 t_ (by
   refine XS.iloadN X0.here hx rfl (hb hby d5_4) rfl ?_
   exact k_)
  by_cases c102 : (own_ac cs i) = (0 : Int32)
  ·have p103 : Go p.tables e below _ (T.setTop (mkF m 31 #[.val (.ref a1), .val (.int (own_ac cs i)), .val (.int (Int32.ofNat i))] [])) := fun t_ k_ => p101 t_ (by
    refine XS.ifYes X0.here hx rfl (pc0 := 5) (pc' := 31) rfl (hb hby d5_5) rfl ((if0 _ _).trans (teq c102).1) (by decide) (by decide) ?_
    exact k_)
   exact ⟨_, _, _, X0, e0, N0, by rw [own_ac0 cs i n (by omega) c102, ← c102]; exact p103⟩
  ·have p104 : Go p.tables e below _ (T.setTop (mkF m 8 #[.val (.ref a1), .val (.int (own_ac cs i)), .val (.int (Int32.ofNat i))] [])) := fun t_ k_ => p101 t_ (by
    refine XS.ifNo X0.here hx rfl (hb hby d5_5) rfl ((if0 _ _).trans (feq c102).1) ?_
    exact k_)
   have p105 : Go p.tables e below _ (T.setTop (mkF m 10 #[.val (.ref a1), .val (.int (own_ac cs i)), .val (.int (Int32.ofNat i))] [(.ref a1), (.int (Int32.ofNat i))])) := fun t_ k_ => p104 t_ (by
    refine XS.iloadN X0.here hx rfl (hb hby d5_8) rfl ?_
    refine XS.aloadN X0.here hx rfl (hb hby d5_9) rfl rfl ?_
    exact k_)
   obtain ⟨cq106, kq106, q106a, q106b, q106c⟩ := isOf hZ e0 E1
   obtain ⟨_, _, ⟨T106, L106, k106, n106⟩, -, X106, ⟨Lc106, hQ106, l106, y106, z106⟩, st106⟩ := X0.virtualBack hx (y := (⟨"java/lang/String", "length", "()I"⟩ : MethodName)) (z := (⟨"java/lang/String", "length", "()I"⟩ : MethodName)) hown (mvT hZ (own_w hw 31 rfl)) (mvT hZ (own_w hw 32 rfl)) (notFace_of_selects (args := #[]) (mvT hZ (own_w hw 34 rfl))) (mvT hZ (own_w hw 34 rfl)) (mvT hZ (own_w hw 33 rfl)) (by decide) (backOf (W := 1) (rm6_1 l Z a0 hw [] a1 (Int32.ofNat n) bv kv z vs cs1 fm h0 n0 (Nat.le_trans Z0 (Keep.refl h0 []).1) O1 G E1 F1 F2 V1 hz) hZ (own_w hw 35 rfl) (own_w hw 8 rfl) (by decide) (by decide)) q106a q106c (g := (mkF m 10 #[.val (.ref a1), .val (.int (own_ac cs i)), .val (.int (Int32.ofNat i))] [(.ref a1), (.int (Int32.ofNat i))])) rfl (by rw [hml]; rfl) (Steps.refl _) (argsL := []) (rest := [(.int (Int32.ofNat i))]) (lenOf pd14 rfl) rfl (by show 2 * 0 + _ ≤ _; exact Nat.le_of_eq rfl) (hb hby d5_10) (fun _ _ => ⟨rfl, e0, (by decide : 0 + 0 ≤ _), (by decide : 0 + 0 ≤ _)⟩)
   dsimp only [Pt.U, Pt.locs, Pt.cells, Pt.slots] at X106 l106 y106 z106 st106 hQ106
   subst l106 y106 z106
   obtain ⟨rfl, N106q, q106_hh⟩ := hQ106
   have N106 := Fr.app N0 N106q
   have c107 : ((Int32.ofNat i) < (Int32.ofNat n)) := (own_lt32 (by omega) (by omega)).mpr hi
   have p108 : Go p.tables e below _ (T106.setTop (mkF m 18 #[.val (.ref a1), .val (.int (own_ac cs i)), .val (.int (Int32.ofNat i))] [(.int (Int32.ofNat i)), (.ref a1)])) := fun t_ k_ => (gcT p105 st106) t_ (by
    refine XS.icmpNo X106.here hx rfl (hb hby d5_13) rfl (tlt c107).2.1 ?_
    refine XS.aloadN X106.here hx rfl (hb hby d5_16) rfl rfl ?_
    refine XS.iloadN X106.here hx rfl (hb hby d5_17) rfl ?_
    exact k_)
   obtain ⟨b0, b1, i0, i1, g0, g1, hc⟩ := HB i hi
   obtain ⟨cq109, kq109, q109a, q109b, q109c⟩ := isOf hZ q106_hh E1
   obtain ⟨_, _, ⟨T109, L109, k109, n109⟩, -, X109, ⟨Lc109, hQ109, l109, y109, z109⟩, st109⟩ := X106.virtualBack hx (y := (⟨"java/lang/String", "charAt", "(I)C"⟩ : MethodName)) (z := (⟨"java/lang/String", "charAt", "(I)C"⟩ : MethodName)) hown (mvT hZ (own_w hw 55 rfl)) (mvT hZ (own_w hw 56 rfl)) (notFace_of_selects (args := #[]) (mvT hZ (own_w hw 58 rfl))) (mvT hZ (own_w hw 58 rfl)) (mvT hZ (own_w hw 57 rfl)) (by decide) (backOf (W := 0) (rm12_1 l Z a0 hw [] a1 (Int32.ofNat i) bv kv z vs b0 b1 (own_at cs i) cs1 fm h0 n0 (Nat.le_trans Z0 (Keep.refl h0 []).1) O1 G E1 F1 F2 V1 (own_nn32 (by omega)) (by rw [hz]; exact (own_lt32 (by omega) (by omega)).mpr hi) i0 i1 g0 g1 hc) hZ (own_w hw 59 rfl) (own_w hw 8 rfl) (by decide) (by decide)) q109a q109c (g := (mkF m 18 #[.val (.ref a1), .val (.int (own_ac cs i)), .val (.int (Int32.ofNat i))] [(.int (Int32.ofNat i)), (.ref a1)])) rfl (by rw [hml]; rfl) (Steps.refl _) (argsL := [(.int (Int32.ofNat i))]) (rest := []) (lenOf pd15 rfl) rfl (by show 2 * 0 + _ ≤ _; exact Nat.le_of_eq rfl) (hb hby d5_18) (fun _ _ => ⟨rfl, q106_hh, (by decide : 0 + 0 ≤ _), (by decide : 0 + 0 ≤ _)⟩)
   dsimp only [Pt.U, Pt.locs, Pt.cells, Pt.slots] at X109 l109 y109 z109 st109 hQ109
   subst l109 y109 z109
   obtain ⟨rfl, N109q, q109_hh⟩ := hQ109
   have N109 := Fr.app N106 N109q
   obtain ⟨_, _, ⟨T110, L110, k110, n110⟩, -, X110, ⟨Lc110, hQ110, l110, y110, z110⟩, st110⟩ := Jvm.LawKit.callS X109 hx (y := (⟨"com/example/kuusi/kuusi/core/LineScanner", "isBlank", "(C)Z"⟩ : MethodName)) hown (mvT hZ (own_w hw 77 rfl)) (mvT hZ (own_w hw 78 rfl)) (mvT hZ (own_w hw 29 rfl)) (mvT hZ (own_w hw 79 rfl)) (by decide) (backOf (W := 0) (rm17 l Z a0 hw [] (own_at cs i) ab kab vsb cs1 fm h0 n0 (Nat.le_trans Z0 (Keep.refl h0 []).1) O1 G AS AV HT (RA i hi)) hZ (own_w hw 79 rfl) (own_w hw 29 rfl) (by decide) (by decide)) (g := (mkF m 21 #[.val (.ref a1), .val (.int (own_ac cs i)), .val (.int (Int32.ofNat i))] [(.int (own_at cs i))])) rfl (by rw [hml]; rfl) (argsL := [(.int (own_at cs i))]) (rest := []) (lenOf pd16 rfl) rfl (by show 2 * 0 + _ ≤ _; exact Nat.le_of_eq rfl) (hb hby d5_21) (fun _ _ => ⟨rfl, q109_hh, (by decide : 0 + 0 ≤ _), (by decide : 0 + 0 ≤ _)⟩)
   dsimp only [Pt.U, Pt.locs, Pt.cells, Pt.slots] at X110 l110 y110 z110 st110 hQ110
   subst l110 y110 z110
   obtain ⟨rfl, N110q, q110_hh⟩ := hQ110
   have N110 := Fr.app N109 N110q
   have p111 : Go p.tables e below _ (T110.setTop (mkF m 4 #[.val (.ref a1), .val (.int (own_bl (own_at cs i))), .val (.int ((Int32.ofNat i) + (1 : Int32)))] [])) := fun t_ k_ => (gc (gcT p108 st109) st110) t_ (by
    refine XS.istoreN X110.here hx rfl (hb hby d5_24) rfl (l' := #[.val (.ref a1), .val (.int (own_bl (own_at cs i))), .val (.int (Int32.ofNat i))]) rfl ?_
    refine XS.iinc X110.here hx rfl (hb hby d5_25) rfl (l' := #[.val (.ref a1), .val (.int (own_bl (own_at cs i))), .val (.int ((Int32.ofNat i) + (1 : Int32)))]) rfl ?_
    refine XS.goto X110.here hx rfl (pc0 := 28) (pc' := 4) rfl (hb hby d5_28) (by decide) (by decide) ?_
    exact k_)
   obtain ⟨T', L', j, X', e', N', g'⟩ := ih (i + 1) T110 _ (by omega) X110 q110_hh N110
   refine ⟨T', L', j, X', e', N', fun t_ k_ => p111 t_ ?_⟩
   have z := g' t_ k_
   rw [own_ac_s, if_neg c102, own_up1 i] at z
   exact z
theorem ef_rm5_1 (m : MethodId) (a1 : Addr) (bv : Addr) (kv : ClassId) (z : Int32) (vs : List Value) (cs : List Int32) (n : Nat) (ab : Addr) (kab : ClassId) (vsb : List Value) (cs1 : Int32) (fm : Value) : entryFrame m #[(.ref a1)] 3 = mkF m 0 #[.val (.ref a1), .unset, .unset] [] := by first | (simp [entryFrame, mkF, argsToLocals, Value.category]; done) | rfl
def Q5_1 (Z : State) (a1 : Addr) (bv : Addr) (kv : ClassId) (z : Int32) (vs : List Value) (cs : List Int32) (n : Nat) (ab : Addr) (kab : ClassId) (vsb : List Value) (cs1 : Int32) (fm : Value) (h0 : Heap) (n0 : Nat) (v : Option Value) (h : Heap) (L : List Loc) : Prop := v = some (.int (own_ac cs n)) ∧ Fr n0 L ∧ (h = h0)
set_option maxRecDepth 65536 in
set_option maxHeartbeats 40000000 in
theorem rm5_1 (l : Launch) (Z : State) (a0 : Array Value) (hw : ∀ d ∈ tables_1, d.before a0 Z = true) (ws : List Jvm.Cond) (a1 : Addr) (bv : Addr) (kv : ClassId) (z : Int32) (vs : List Value) (cs : List Int32) (n : Nat) (ab : Addr) (kab : ClassId) (vsb : List Value) (cs1 : Int32) (fm : Value) (h0 : Heap) (n0 : Nat) (Z0 : n0 ≤ h0.size) (O1 : Old Z n0 h0) (G : own_G Z cs1 fm) (AS : Sta Z Z.heap "com/example/kuusi/kuusi/core/LineScanner" "ASCII_BLANKS" "[Z" (.ref ab)) (AV : Arv Z Z.heap ab kab .boolean (128 : Int32) vsb (.int (0 : Int32))) (HT : ∀ j, j < 128 → vsb.getD j (.int (0 : Int32)) = .int (own_bt j)) (E1 : Exa Z h0 a1 "java/lang/String") (F1 : Fld Z h0 a1 "java/lang/String" "coder" "B" (.int (1 : Int32))) (F2 : Fld Z h0 a1 "java/lang/String" "value" "[B" (.ref bv)) (V1 : Arv Z h0 bv kv .byte z vs (.int (0 : Int32))) (hz : (z >>> (1 : Int32)) = (Int32.ofNat n)) (hn : n ≤ 8) (RA : ∀ i, i < n → ¬ (own_at cs i < (0 : Int32))) (HB : ∀ i, i < n → ∃ b0 b1 : Int32, (¬ ((Int32.ofNat i) <<< (1 : Int32)) < 0 ∧ ((Int32.ofNat i) <<< (1 : Int32)) < z) ∧ (¬ (((Int32.ofNat i) <<< (1 : Int32)) + (1 : Int32)) < 0 ∧ (((Int32.ofNat i) <<< (1 : Int32)) + (1 : Int32)) < z) ∧ vs.getD (((Int32.ofNat i) <<< (1 : Int32))).toNatClampNeg (.int (0 : Int32)) = .int b0 ∧ vs.getD ((((Int32.ofNat i) <<< (1 : Int32)) + (1 : Int32))).toNatClampNeg (.int (0 : Int32)) = .int b1 ∧ own_c16 b0 b1 = own_at cs i) :
  MetFree l (⟨"com/example/kuusi/kuusi/core/LineScanner", "isBlank", "(Ljava/lang/String;)Z"⟩ : MethodName) (head1 (Jvm.Cond.code (⟨"com/example/kuusi/kuusi/core/LineScanner", "isBlank", "(Ljava/lang/String;)Z"⟩ : MethodName) prog_51_method_5_code 3 (some .boolean) :: ws) ({ frames := 5, cells := 0, slots := 0, locals := 66 } : Room)) (fun a U => a = #[(.ref a1)] ∧ Z.Warmed39 U.vm ∧ U.heap = h0) (fun _ _ _ _ _ => True) (fun _ U o U' => ∃ v L, o = .returned v ∧ Q5_1 Z a1 bv kv z vs cs n ab kab vsb cs1 fm h0 n0 v U'.heap L ∧ FrameEnd U o U' L ({ frames := 5, cells := 0, slots := 0, locals := 66 } : Room).cells ({ frames := 5, cells := 0, slots := 0, locals := 66 } : Room).slots) := by
 refine MetFree.of_bodySF pn5 hisR ?_
 intro p e s m args below meth c s₁ Bd hml0 hP hK
 obtain ⟨rfl, hZ, hh⟩ := hP
 have hx := Bd.exec
 have hby := Bd.bytes
 have hml : c.maxLocals = 3 := hml0
 have hown : s.vm.findClass "com/example/kuusi/kuusi/core/LineScanner" = some m.cls := findClass_of_methodNamed Bd.named
 have hnm := (name_of_methodNamed Bd.named Bd.method).1
 have X0 : Stand p l e ({ frames := 5, cells := 0, slots := 0, locals := 66 } : Room) s m #[(.ref a1)] below meth c s₁ [] 0 0 := Stand.of_body Bd
 have e0 : s₁.heap = h0 := by rw [← hh, Bd.state]; rfl
 have N0 := Fr.nil n0
 have p0 : Go p.tables e below (s₁.setTop (entryFrame m #[(.ref a1)] 3)) (s₁.setTop (mkF m 0 #[.val (.ref a1), .unset, .unset] [])) := fun t_ k_ => castTop (ef_rm5_1 m a1 bv kv z vs cs n ab kab vsb cs1 fm) k_
 have p101 : Go p.tables e below _ (s₁.setTop (mkF m 4 #[.val (.ref a1), .val (.int (1 : Int32)), .val (.int (0 : Int32))] [])) := fun t_ k_ => p0 t_ (by
  refine XS.iconst X0.here hx rfl (hb hby d5_0) ?_
  refine XS.istoreN X0.here hx rfl (hb hby d5_1) rfl (l' := #[.val (.ref a1), .val (.int (1 : Int32)), .unset]) rfl ?_
  refine XS.iconst X0.here hx rfl (hb hby d5_2) ?_
  refine XS.istoreN X0.here hx rfl (hb hby d5_3) rfl (l' := #[.val (.ref a1), .val (.int (1 : Int32)), .val (.int (0 : Int32))]) rfl ?_
  exact k_)
 have p103 : Go p.tables e below _ (s₁.setTop (mkF m 4 #[.val (.ref a1), .val (.int (own_ac cs 0)), .val (.int (Int32.ofNat 0))] [])) := p101
 obtain ⟨T102, L102, j102, X102, e102, N102, g102⟩ := lpI1 Z a0 hx hZ hw hby hml hown a1 bv kv z vs cs n ab kab vsb cs1 fm h0 n0 Z0 O1 G AS AV HT E1 F1 F2 V1 hz hn RA HB n 0 s₁ _ (by omega) X0 e0 N0
 have p104 : Go p.tables e below _ (T102.setTop (mkF m 31 #[.val (.ref a1), .val (.int (own_ac cs n)), .val (.int j102)] [])) := fun t_ k_ => p103 t_ (g102 t_ k_)
 have p105 : Go p.tables e below _ (T102.setTop (mkF m 32 #[.val (.ref a1), .val (.int (own_ac cs n)), .val (.int j102)] [(.int (own_ac cs n))])) := fun t_ k_ => p104 t_ (by
  refine XS.iloadN X102.here hx rfl (hb hby d5_31) rfl ?_
  exact k_)
 obtain ⟨fs, hr, hrun, hended, hW, hsame⟩ := X102.leave (v := some (.int (nar .boolean (own_ac cs n)))) (fun h => by rw [Bd.returns] at h; cases h)
 refine ⟨_, _, p105 _ (retN X102 hx (t := .boolean) Bd.returns (by simp) (hb hby d5_32) hr), hrun, hended, _, _, rfl, ?_, ⟨_, rfl⟩, hW, hsame.mono (by decide) (by decide)⟩
 show Q5_1 Z a1 bv kv z vs cs n ab kab vsb cs1 fm h0 n0 _ T102.heap _
 rw [e102]
 exact ⟨congrArg (fun q => some (Value.int q)) (own_nac cs n), N102, rfl⟩
theorem pd17 : parseMethodDescriptor "([C)V" = some ⟨[(.array .char)], none⟩ := by decide +kernel
theorem pd18 : parseMethodDescriptor "(Ljava/lang/String;)Z" = some ⟨[(.object "java/lang/String")], some .boolean⟩ := by decide +kernel
theorem pn0 : plainFor (⟨"com/example/kuusi/kuusi/core/LineScannerIsBlankPinLaw", "law", "(IIIII)Z"⟩ : MethodName) = true := plainFor_of_name (by first | (simp [plainName, overriddenIn]; done) | decide +kernel)
theorem ef_rm0 (m : MethodId) (p1 : Int32) (p2 : Int32) (p3 : Int32) (p4 : Int32) (p5 : Int32) (ab : Addr) (kab : ClassId) (vsb : List Value) (cs1 : Int32) (fm : Value) : entryFrame m #[(.int p1), (.int p2), (.int p3), (.int p4), (.int p5)] maxLocals = mkF m 0 #[.val (.int p1), .val (.int p2), .val (.int p3), .val (.int p4), .val (.int p5), .unset, .unset, .unset, .unset, .unset, .unset, .unset, .unset] [] := by first | (simp [entryFrame, mkF, argsToLocals, Value.category, maxLocals]; done) | rfl
def Q0 (Z : State) (p1 : Int32) (p2 : Int32) (p3 : Int32) (p4 : Int32) (p5 : Int32) (ab : Addr) (kab : ClassId) (vsb : List Value) (cs1 : Int32) (fm : Value) (h0 : Heap) (n0 : Nat) (v : Option Value) (h : Heap) (L : List Loc) : Prop := v = some (.int (1 : Int32)) ∧ Fr n0 L
set_option maxRecDepth 65536 in
set_option maxHeartbeats 40000000 in
theorem rm0 (l : Launch) (Z : State) (a0 : Array Value) (hw : ∀ d ∈ tables_1, d.before a0 Z = true) (ws : List Jvm.Cond) (p1 : Int32) (p2 : Int32) (p3 : Int32) (p4 : Int32) (p5 : Int32) (ab : Addr) (kab : ClassId) (vsb : List Value) (cs1 : Int32) (fm : Value) (h0 : Heap) (n0 : Nat) (Z0 : n0 ≤ h0.size) (O1 : Old Z n0 h0) (G : own_G Z cs1 fm) (hcw : Jvm.Lit.compactW.before a0 Z = true) (hheld : Jvm.Lit.constHeld Z "java/lang/String" 7) (AS : Sta Z Z.heap "com/example/kuusi/kuusi/core/LineScanner" "ASCII_BLANKS" "[Z" (.ref ab)) (AV : Arv Z Z.heap ab kab .boolean (128 : Int32) vsb (.int (0 : Int32))) (HT : ∀ j, j < 128 → vsb.getD j (.int (0 : Int32)) = .int (own_bt j)) :
  MetFree l x (head1 (Jvm.Cond.code x code maxLocals ret :: ws) room_1) (fun a U => a = #[(.int p1), (.int p2), (.int p3), (.int p4), (.int p5)] ∧ Z.Warmed39 U.vm ∧ U.heap = h0 ∧ IB Z U.vm []) (fun _ _ _ _ _ => True) (fun _ U o U' => ∃ v L, o = .returned v ∧ Q0 Z p1 p2 p3 p4 p5 ab kab vsb cs1 fm h0 n0 v U'.heap L ∧ ReturnedEndW U o U' L room_1.cells room_1.slots) := by
 refine MetFree.of_bodySF pn0 hisR ?_
 intro p e s m args below meth c s₁ Bd hml0 hP hK
 obtain ⟨rfl, hZ, hh, I0⟩ := hP
 have hx := Bd.exec
 have hby := Bd.bytes
 have hml : c.maxLocals = 13 := hml0
 have hown : s.vm.findClass "com/example/kuusi/kuusi/core/LineScannerIsBlankPinLaw" = some m.cls := findClass_of_methodNamed Bd.named
 have hnm := (name_of_methodNamed Bd.named Bd.method).1
 have X0 : Stand p l e room_1 s m #[(.int p1), (.int p2), (.int p3), (.int p4), (.int p5)] below meth c s₁ [] 0 0 := Stand.of_body Bd
 have e0 : s₁.heap = h0 := by rw [← hh, Bd.state]; rfl
 have N0 := Fr.nil n0
 have p0 : Go p.tables e below (s₁.setTop (entryFrame m #[(.int p1), (.int p2), (.int p3), (.int p4), (.int p5)] maxLocals)) (s₁.setTop (mkF m 0 #[.val (.int p1), .val (.int p2), .val (.int p3), .val (.int p4), .val (.int p5), .unset, .unset, .unset, .unset, .unset, .unset, .unset, .unset] [])) := fun t_ k_ => castTop (ef_rm0 m p1 p2 p3 p4 p5 ab kab vsb cs1 fm) k_
 have hkp : ∀ (b : Addr) (cl : Cell), Z.heap[b]? = some cl → s.heap[b]? = some cl := fun b cl q => by rw [hh]; exact O1.2.2 b cl q
 have p101 : Go p.tables e below _ (s₁.setTop (mkF m 9 #[.val (.int p1), .val (.int p2), .val (.int p3), .val (.int p4), .val (.int p5), .val (.int ((p1 &&& (2147483647 : Int32)) % (5 : Int32))), .unset, .unset, .unset, .unset, .unset, .unset, .unset] [(.int p2)])) := fun t_ k_ => p0 t_ (by
  refine XS.iloadN X0.here hx rfl (hb hby at_0) rfl ?_
  refine X0.ldcInt hx hown (mvT hZ (own_w hw 0 rfl)) (g := (mkF m 1 #[.val (.int p1), .val (.int p2), .val (.int p3), .val (.int p4), .val (.int p5), .unset, .unset, .unset, .unset, .unset, .unset, .unset, .unset] [(.int p1)])) rfl (hb hby at_1) _ ?_
  refine XS.iand X0.here hx rfl (hb hby at_3) rfl ?_
  refine XS.iconst X0.here hx rfl (hb hby at_4) ?_
  refine Jvm.RoadKit.iremM X0 hx rfl (hb hby at_5) rfl (by decide) ?_
  refine XS.istore X0.here hx rfl (hb hby at_6) rfl (l' := #[.val (.int p1), .val (.int p2), .val (.int p3), .val (.int p4), .val (.int p5), .val (.int ((p1 &&& (2147483647 : Int32)) % (5 : Int32))), .unset, .unset, .unset, .unset, .unset, .unset, .unset]) rfl ?_
  refine XS.iloadN X0.here hx rfl (hb hby at_8) rfl ?_
  exact k_)
 obtain ⟨_, _, ⟨T102, L102, k102, n102⟩, -, X102, ⟨Lc102, hQ102, l102, y102, z102⟩, st102⟩ := Jvm.LawKit.callS X0 hx (y := (⟨"com/example/kuusi/kuusi/core/LineScannerIsBlankPinLaw", "ch", "(I)C"⟩ : MethodName)) hown (mvT hZ (own_w hw 1 rfl)) (mvT hZ (own_w hw 2 rfl)) (mvT hZ (own_w hw 3 rfl)) (mvT hZ (own_w hw 4 rfl)) (by decide) (backOf (W := 0) (rm1 l Z a0 hw [] p2 h0 n0 (Nat.le_trans Z0 (Keep.refl h0 []).1) ) hZ (own_w hw 4 rfl) (own_w hw 3 rfl) (by decide) (by decide)) (g := (mkF m 9 #[.val (.int p1), .val (.int p2), .val (.int p3), .val (.int p4), .val (.int p5), .val (.int ((p1 &&& (2147483647 : Int32)) % (5 : Int32))), .unset, .unset, .unset, .unset, .unset, .unset, .unset] [(.int p2)])) rfl (by rw [hml]; rfl) (argsL := [(.int p2)]) (rest := []) (lenOf pd15 rfl) rfl (by show 2 * 0 + _ ≤ _; exact Nat.le_of_eq rfl) (hb hby at_9) (fun _ _ => ⟨rfl, e0, (by decide : 0 + 0 ≤ _), (by decide : 0 + 0 ≤ _)⟩)
 dsimp only [Pt.U, Pt.locs, Pt.cells, Pt.slots] at X102 l102 y102 z102 st102 hQ102
 subst l102 y102 z102
 obtain ⟨x103, rfl, N102q, q102_hh, q102_ra, q102_rb⟩ := hQ102
 have N102 := Fr.app N0 N102q
 have p104 : Go p.tables e below _ (T102.setTop (mkF m 14 #[.val (.int p1), .val (.int p2), .val (.int p3), .val (.int p4), .val (.int p5), .val (.int ((p1 &&& (2147483647 : Int32)) % (5 : Int32))), .val (.int x103), .unset, .unset, .unset, .unset, .unset, .unset] [])) := fun t_ k_ => (gc p101 st102) t_ (by
  refine XS.istore X102.here hx rfl (hb hby at_12) rfl (l' := #[.val (.int p1), .val (.int p2), .val (.int p3), .val (.int p4), .val (.int p5), .val (.int ((p1 &&& (2147483647 : Int32)) % (5 : Int32))), .val (.int x103), .unset, .unset, .unset, .unset, .unset, .unset]) rfl ?_
  exact k_)
 have ra0 := q102_ra
 have rb0 := q102_rb
 have p105 : Go p.tables e below _ (T102.setTop (mkF m 15 #[.val (.int p1), .val (.int p2), .val (.int p3), .val (.int p4), .val (.int p5), .val (.int ((p1 &&& (2147483647 : Int32)) % (5 : Int32))), .val (.int x103), .unset, .unset, .unset, .unset, .unset, .unset] [(.int p3)])) := fun t_ k_ => p104 t_ (by
  refine XS.iloadN X102.here hx rfl (hb hby at_14) rfl ?_
  exact k_)
 obtain ⟨_, _, ⟨T106, L106, k106, n106⟩, -, X106, ⟨Lc106, hQ106, l106, y106, z106⟩, st106⟩ := Jvm.LawKit.callS X102 hx (y := (⟨"com/example/kuusi/kuusi/core/LineScannerIsBlankPinLaw", "ch", "(I)C"⟩ : MethodName)) hown (mvT hZ (own_w hw 1 rfl)) (mvT hZ (own_w hw 2 rfl)) (mvT hZ (own_w hw 3 rfl)) (mvT hZ (own_w hw 4 rfl)) (by decide) (backOf (W := 0) (rm1 l Z a0 hw [] p3 h0 n0 (Nat.le_trans Z0 (Keep.refl h0 []).1) ) hZ (own_w hw 4 rfl) (own_w hw 3 rfl) (by decide) (by decide)) (g := (mkF m 15 #[.val (.int p1), .val (.int p2), .val (.int p3), .val (.int p4), .val (.int p5), .val (.int ((p1 &&& (2147483647 : Int32)) % (5 : Int32))), .val (.int x103), .unset, .unset, .unset, .unset, .unset, .unset] [(.int p3)])) rfl (by rw [hml]; rfl) (argsL := [(.int p3)]) (rest := []) (lenOf pd15 rfl) rfl (by show 2 * 0 + _ ≤ _; exact Nat.le_of_eq rfl) (hb hby at_15) (fun _ _ => ⟨rfl, q102_hh, (by decide : 0 + 0 ≤ _), (by decide : 0 + 0 ≤ _)⟩)
 dsimp only [Pt.U, Pt.locs, Pt.cells, Pt.slots] at X106 l106 y106 z106 st106 hQ106
 subst l106 y106 z106
 obtain ⟨x107, rfl, N106q, q106_hh, q106_ra, q106_rb⟩ := hQ106
 have N106 := Fr.app N102 N106q
 have p108 : Go p.tables e below _ (T106.setTop (mkF m 20 #[.val (.int p1), .val (.int p2), .val (.int p3), .val (.int p4), .val (.int p5), .val (.int ((p1 &&& (2147483647 : Int32)) % (5 : Int32))), .val (.int x103), .val (.int x107), .unset, .unset, .unset, .unset, .unset] [])) := fun t_ k_ => (gc p105 st106) t_ (by
  refine XS.istore X106.here hx rfl (hb hby at_18) rfl (l' := #[.val (.int p1), .val (.int p2), .val (.int p3), .val (.int p4), .val (.int p5), .val (.int ((p1 &&& (2147483647 : Int32)) % (5 : Int32))), .val (.int x103), .val (.int x107), .unset, .unset, .unset, .unset, .unset]) rfl ?_
  exact k_)
 have ra1 := q106_ra
 have rb1 := q106_rb
 have p109 : Go p.tables e below _ (T106.setTop (mkF m 21 #[.val (.int p1), .val (.int p2), .val (.int p3), .val (.int p4), .val (.int p5), .val (.int ((p1 &&& (2147483647 : Int32)) % (5 : Int32))), .val (.int x103), .val (.int x107), .unset, .unset, .unset, .unset, .unset] [(.int p4)])) := fun t_ k_ => p108 t_ (by
  refine XS.iloadN X106.here hx rfl (hb hby at_20) rfl ?_
  exact k_)
 obtain ⟨_, _, ⟨T110, L110, k110, n110⟩, -, X110, ⟨Lc110, hQ110, l110, y110, z110⟩, st110⟩ := Jvm.LawKit.callS X106 hx (y := (⟨"com/example/kuusi/kuusi/core/LineScannerIsBlankPinLaw", "ch", "(I)C"⟩ : MethodName)) hown (mvT hZ (own_w hw 1 rfl)) (mvT hZ (own_w hw 2 rfl)) (mvT hZ (own_w hw 3 rfl)) (mvT hZ (own_w hw 4 rfl)) (by decide) (backOf (W := 0) (rm1 l Z a0 hw [] p4 h0 n0 (Nat.le_trans Z0 (Keep.refl h0 []).1) ) hZ (own_w hw 4 rfl) (own_w hw 3 rfl) (by decide) (by decide)) (g := (mkF m 21 #[.val (.int p1), .val (.int p2), .val (.int p3), .val (.int p4), .val (.int p5), .val (.int ((p1 &&& (2147483647 : Int32)) % (5 : Int32))), .val (.int x103), .val (.int x107), .unset, .unset, .unset, .unset, .unset] [(.int p4)])) rfl (by rw [hml]; rfl) (argsL := [(.int p4)]) (rest := []) (lenOf pd15 rfl) rfl (by show 2 * 0 + _ ≤ _; exact Nat.le_of_eq rfl) (hb hby at_21) (fun _ _ => ⟨rfl, q106_hh, (by decide : 0 + 0 ≤ _), (by decide : 0 + 0 ≤ _)⟩)
 dsimp only [Pt.U, Pt.locs, Pt.cells, Pt.slots] at X110 l110 y110 z110 st110 hQ110
 subst l110 y110 z110
 obtain ⟨x111, rfl, N110q, q110_hh, q110_ra, q110_rb⟩ := hQ110
 have N110 := Fr.app N106 N110q
 have p112 : Go p.tables e below _ (T110.setTop (mkF m 26 #[.val (.int p1), .val (.int p2), .val (.int p3), .val (.int p4), .val (.int p5), .val (.int ((p1 &&& (2147483647 : Int32)) % (5 : Int32))), .val (.int x103), .val (.int x107), .val (.int x111), .unset, .unset, .unset, .unset] [])) := fun t_ k_ => (gc p109 st110) t_ (by
  refine XS.istore X110.here hx rfl (hb hby at_24) rfl (l' := #[.val (.int p1), .val (.int p2), .val (.int p3), .val (.int p4), .val (.int p5), .val (.int ((p1 &&& (2147483647 : Int32)) % (5 : Int32))), .val (.int x103), .val (.int x107), .val (.int x111), .unset, .unset, .unset, .unset]) rfl ?_
  exact k_)
 have ra2 := q110_ra
 have rb2 := q110_rb
 have p113 : Go p.tables e below _ (T110.setTop (mkF m 28 #[.val (.int p1), .val (.int p2), .val (.int p3), .val (.int p4), .val (.int p5), .val (.int ((p1 &&& (2147483647 : Int32)) % (5 : Int32))), .val (.int x103), .val (.int x107), .val (.int x111), .unset, .unset, .unset, .unset] [(.int p5)])) := fun t_ k_ => p112 t_ (by
  refine XS.iload X110.here hx rfl (hb hby at_26) rfl ?_
  exact k_)
 obtain ⟨_, _, ⟨T114, L114, k114, n114⟩, -, X114, ⟨Lc114, hQ114, l114, y114, z114⟩, st114⟩ := Jvm.LawKit.callS X110 hx (y := (⟨"com/example/kuusi/kuusi/core/LineScannerIsBlankPinLaw", "ch", "(I)C"⟩ : MethodName)) hown (mvT hZ (own_w hw 1 rfl)) (mvT hZ (own_w hw 2 rfl)) (mvT hZ (own_w hw 3 rfl)) (mvT hZ (own_w hw 4 rfl)) (by decide) (backOf (W := 0) (rm1 l Z a0 hw [] p5 h0 n0 (Nat.le_trans Z0 (Keep.refl h0 []).1) ) hZ (own_w hw 4 rfl) (own_w hw 3 rfl) (by decide) (by decide)) (g := (mkF m 28 #[.val (.int p1), .val (.int p2), .val (.int p3), .val (.int p4), .val (.int p5), .val (.int ((p1 &&& (2147483647 : Int32)) % (5 : Int32))), .val (.int x103), .val (.int x107), .val (.int x111), .unset, .unset, .unset, .unset] [(.int p5)])) rfl (by rw [hml]; rfl) (argsL := [(.int p5)]) (rest := []) (lenOf pd15 rfl) rfl (by show 2 * 0 + _ ≤ _; exact Nat.le_of_eq rfl) (hb hby at_28) (fun _ _ => ⟨rfl, q110_hh, (by decide : 0 + 0 ≤ _), (by decide : 0 + 0 ≤ _)⟩)
 dsimp only [Pt.U, Pt.locs, Pt.cells, Pt.slots] at X114 l114 y114 z114 st114 hQ114
 subst l114 y114 z114
 obtain ⟨x115, rfl, N114q, q114_hh, q114_ra, q114_rb⟩ := hQ114
 have N114 := Fr.app N110 N114q
 have p116 : Go p.tables e below _ (T114.setTop (mkF m 33 #[.val (.int p1), .val (.int p2), .val (.int p3), .val (.int p4), .val (.int p5), .val (.int ((p1 &&& (2147483647 : Int32)) % (5 : Int32))), .val (.int x103), .val (.int x107), .val (.int x111), .val (.int x115), .unset, .unset, .unset] [])) := fun t_ k_ => (gc p113 st114) t_ (by
  refine XS.istore X114.here hx rfl (hb hby at_31) rfl (l' := #[.val (.int p1), .val (.int p2), .val (.int p3), .val (.int p4), .val (.int p5), .val (.int ((p1 &&& (2147483647 : Int32)) % (5 : Int32))), .val (.int x103), .val (.int x107), .val (.int x111), .val (.int x115), .unset, .unset, .unset]) rfl ?_
  exact k_)
 have ra3 := q114_ra
 have rb3 := q114_rb
 obtain ⟨nn, hnn⟩ : ∃ z, z = ((p1 &&& (2147483647 : Int32)) % (5 : Int32)) := ⟨_, rfl⟩
 have p117 : Go p.tables e below (s₁.setTop (entryFrame m #[(.int p1), (.int p2), (.int p3), (.int p4), (.int p5)] maxLocals)) (T114.setTop (mkF m 33 #[.val (.int p1), .val (.int p2), .val (.int p3), .val (.int p4), .val (.int p5), .val (.int nn), .val (.int x103), .val (.int x107), .val (.int x111), .val (.int x115), .unset, .unset, .unset] [])) := by rw [hnn]; exact p116
 rcases (hnn ▸ own_rem5 p1 : nn = 0 ∨ nn = 1 ∨ nn = 2 ∨ nn = 3 ∨ nn = 4) with ro | ro | ro | ro | ro
 ·have p118 : Go p.tables e below (s₁.setTop (entryFrame m #[(.int p1), (.int p2), (.int p3), (.int p4), (.int p5)] maxLocals)) (T114.setTop (mkF m 33 #[.val (.int p1), .val (.int p2), .val (.int p3), .val (.int p4), .val (.int p5), .val (.int (0 : Int32)), .val (.int x103), .val (.int x107), .val (.int x111), .val (.int x115), .unset, .unset, .unset] [])) := by have z := p117; rw [ro] at z; exact z
  have p119 : Go p.tables e below _ (T114.setTop (mkF m 39 #[.val (.int p1), .val (.int p2), .val (.int p3), .val (.int p4), .val (.int p5), .val (.int (0 : Int32)), .val (.int x103), .val (.int x107), .val (.int x111), .val (.int x115), .unset, .unset, .unset] [(.int (0 : Int32))])) := fun t_ k_ => p118 t_ (by
   refine XS.iload X114.here hx rfl (hb hby at_33) rfl ?_
   refine XS.ifNo X114.here hx rfl (hb hby at_35) rfl ((if0 _ _).trans (teq (by decide : ((0 : Int32) = (0 : Int32)))).2) ?_
   refine XS.iconst X114.here hx rfl (hb hby at_38) ?_
   exact k_)
  obtain ⟨T120, h120, k120, X120, e120, E120, A120, st120⟩ := newP X114 hx hZ (own_w hw 5 rfl) q114_hh (g := (mkF m 39 #[.val (.int p1), .val (.int p2), .val (.int p3), .val (.int p4), .val (.int p5), .val (.int (0 : Int32)), .val (.int x103), .val (.int x107), .val (.int x111), .val (.int x115), .unset, .unset, .unset] [(.int (0 : Int32))])) rfl (hb hby at_39) rfl (by decide) (cap := 0) (by decide) (by decide) (by decide) (by decide)
  obtain ⟨b120, g120⟩ : ∃ z, z = h0.size := ⟨_, rfl⟩
  rw [← g120] at A120 st120
  have ge_b120 : n0 ≤ b120 := Nat.le_trans (Nat.le_trans Z0 (Keep.refl h0 []).1) (Nat.le_of_eq g120.symm)
  have sz_b120 : h0.size ≤ b120 := Nat.le_trans (Keep.refl h0 []).1 (Nat.le_of_eq g120.symm)
  have K121 : Keep h0 h120 [] := (Keep.refl h0 []).ext E120
  have V120 : Arv Z h120 b120 k120 .char (0 : Int32) [] (.int (0 : Int32)) := Arv.new A120 (by decide)
  have p122 : Go p.tables e below _ (T120.setTop (mkF m 143 #[.val (.int p1), .val (.int p2), .val (.int p3), .val (.int p4), .val (.int p5), .val (.int (0 : Int32)), .val (.int x103), .val (.int x107), .val (.int x111), .val (.int x115), .val (.ref b120), .unset, .unset] [])) := fun t_ k_ => (gc p119 st120) t_ (by
   refine XS.astore X120.here hx rfl (hb hby at_41) rfl rfl (l' := #[.val (.int p1), .val (.int p2), .val (.int p3), .val (.int p4), .val (.int p5), .val (.int (0 : Int32)), .val (.int x103), .val (.int x107), .val (.int x111), .val (.int x115), .val (.ref b120), .unset, .unset]) rfl ?_
   refine XS.goto X120.here hx rfl (pc0 := 43) (pc' := 143) rfl (hb hby at_43) (by decide) (by decide) ?_
   exact k_)
  obtain ⟨T123, h123, X123, e123, E123, A123, D123, -, st123⟩ := newO X120 hx hZ hown (own_w hw 6 rfl) (own_w hw 7 rfl) (own_w hw 8 rfl) e120 (g := (mkF m 143 #[.val (.int p1), .val (.int p2), .val (.int p3), .val (.int p4), .val (.int p5), .val (.int (0 : Int32)), .val (.int x103), .val (.int x107), .val (.int x111), .val (.int x115), .val (.ref b120), .unset, .unset] [])) rfl (hb hby at_143) (by decide) (by decide)
  obtain ⟨b123, g123⟩ : ∃ z, z = h120.size := ⟨_, rfl⟩
  rw [← g123] at A123 D123 st123
  have ne_b120_b123 : b120 ≠ b123 := Nat.ne_of_lt (Nat.lt_of_lt_of_le V120.lt (Nat.le_of_eq g123.symm))
  have ge_b123 : n0 ≤ b123 := Nat.le_trans (Nat.le_trans Z0 K121.1) (Nat.le_of_eq g123.symm)
  have sz_b123 : h0.size ≤ b123 := Nat.le_trans K121.1 (Nat.le_of_eq g123.symm)
  have K124 : Keep h0 h123 [] := K121.ext E123
  have F123_value : Fld Z h123 b123 "java/lang/String" "value" "[B" .null := D123 (Or.inr (own_w hw 21 rfl)) (ty := (.array .byte)) (by decide)
  have F123_coder : Fld Z h123 b123 "java/lang/String" "coder" "B" (.int (0 : Int32)) := D123 (Or.inr (own_w hw 22 rfl)) (ty := .byte) (by decide)
  have p125 : Go p.tables e below _ (T123.setTop (mkF m 149 #[.val (.int p1), .val (.int p2), .val (.int p3), .val (.int p4), .val (.int p5), .val (.int (0 : Int32)), .val (.int x103), .val (.int x107), .val (.int x111), .val (.int x115), .val (.ref b120), .unset, .unset] [(.ref b120), (.ref b123), (.ref b123)])) := fun t_ k_ => (gc p122 st123) t_ (by
   refine XS.dup X123.here hx rfl (hb hby at_146) rfl rfl ?_
   refine XS.aload X123.here hx rfl (hb hby at_147) rfl rfl ?_
   exact k_)
  have f126 := ((O1.ext E120).ext E123)
  have f127 := (V120.ext E123)
  obtain ⟨_, _, ⟨T128, L128, k128, n128⟩, -, X128, S128, -, ⟨Lc128, hQ128, l128, y128, z128⟩, st128⟩ := X123.specialBackS hx (y := (⟨"java/lang/String", "<init>", "([C)V"⟩ : MethodName)) rfl hown (mvT hZ (own_w hw 9 rfl)) (mvT hZ (own_w hw 10 rfl)) (mvT hZ (own_w hw 11 rfl)) (by decide) (backOfI (W := 1) (rm2_E l Z a0 hw [] b123 b120 k120 cs1 fm h123 n0 (Nat.le_trans Z0 K124.1) f126 G hcw hheld F123_coder F123_value A123 ge_b123 f127) hZ I0 (own_w hw 11 rfl) (own_w hw 8 rfl) (by decide) (by decide)) (g := (mkF m 149 #[.val (.int p1), .val (.int p2), .val (.int p3), .val (.int p4), .val (.int p5), .val (.int (0 : Int32)), .val (.int x103), .val (.int x107), .val (.int x111), .val (.int x115), .val (.ref b120), .unset, .unset] [(.ref b120), (.ref b123), (.ref b123)])) rfl (by rw [hml]; rfl) (Steps.refl _) (a := b123) (argsL := [(.ref b120)]) (rest := [(.ref b123)]) (lenOf pd17 rfl) rfl (by show 2 * 0 + _ ≤ _; exact Nat.le_of_eq rfl) (hb hby at_149) (fun _ _ => ⟨rfl, e123, (by decide : 2 + 2 ≤ _), (by decide : 4 + 4 ≤ _)⟩)
  dsimp only [Pt.U, Pt.locs, Pt.cells, Pt.slots] at X128 l128 y128 z128 st128 hQ128 S128
  subst l128 y128 z128
  have hZ128 : Z.Warmed39 (s.setVm T128.vm).vm := State.Warmed39.trans (t := s) hZ S128.1
  have hown128 : (s.setVm T128.vm).vm.findClass "com/example/kuusi/kuusi/core/LineScannerIsBlankPinLaw" = some m.cls := by rw [show (s.setVm T128.vm).vm = T128.vm from rfl, S128.1.alike.findClass]; exact hown
  have kb128 := Nat.le_refl T128.heap.size
  obtain ⟨x129, x130, rfl, N128q, q128_K, q128_E, q128_c, q128_v, q128_V⟩ := hQ128
  have N128 := Fr.app N114 N128q
  have K131 : Keep h0 T128.heap [] := K124.trans q128_K (allS (Or.inr sz_b123) all0)
  have p132 : Go p.tables e below _ (T128.setTop (mkF m 219 #[.val (.int p1), .val (.int p2), .val (.int p3), .val (.int p4), .val (.int p5), .val (.int (0 : Int32)), .val (.int x103), .val (.int x107), .val (.int x111), .val (.int x115), .val (.ref b120), .val (.ref b123), .val (.int (1 : Int32))] [(.ref b123)])) := fun t_ k_ => (gcT p125 st128) t_ (by
   refine XS.astore X128.here hx rfl (hb hby at_152) rfl rfl (l' := #[.val (.int p1), .val (.int p2), .val (.int p3), .val (.int p4), .val (.int p5), .val (.int (0 : Int32)), .val (.int x103), .val (.int x107), .val (.int x111), .val (.int x115), .val (.ref b120), .val (.ref b123), .unset]) rfl ?_
   refine XS.iload X128.here hx rfl (hb hby at_154) rfl ?_
   refine XS.iconst X128.here hx rfl (hb hby at_156) ?_
   refine XS.icmpYes X128.here hx rfl (pc0 := 157) (pc' := 168) rfl (hb hby at_157) rfl (tlt (by decide : ((0 : Int32) < (1 : Int32)))).1 (by decide) (by decide) ?_
   refine XS.iload X128.here hx rfl (hb hby at_168) rfl ?_
   refine XS.iconst X128.here hx rfl (hb hby at_170) ?_
   refine XS.icmpYes X128.here hx rfl (pc0 := 171) (pc' := 182) rfl (hb hby at_171) rfl (tlt (by decide : ((0 : Int32) < (2 : Int32)))).1 (by decide) (by decide) ?_
   refine XS.iload X128.here hx rfl (hb hby at_182) rfl ?_
   refine XS.iconst X128.here hx rfl (hb hby at_184) ?_
   refine XS.icmpYes X128.here hx rfl (pc0 := 185) (pc' := 196) rfl (hb hby at_185) rfl (tlt (by decide : ((0 : Int32) < (3 : Int32)))).1 (by decide) (by decide) ?_
   refine XS.iload X128.here hx rfl (hb hby at_196) rfl ?_
   refine XS.iconst X128.here hx rfl (hb hby at_198) ?_
   refine XS.icmpYes X128.here hx rfl (pc0 := 199) (pc' := 210) rfl (hb hby at_199) rfl (tlt (by decide : ((0 : Int32) < (4 : Int32)))).1 (by decide) (by decide) ?_
   refine XS.iconst X128.here hx rfl (hb hby at_210) ?_
   refine XS.goto X128.here hx rfl (pc0 := 211) (pc' := 215) rfl (hb hby at_211) (by decide) (by decide) ?_
   refine XS.istore X128.here hx rfl (hb hby at_215) rfl (l' := #[.val (.int p1), .val (.int p2), .val (.int p3), .val (.int p4), .val (.int p5), .val (.int (0 : Int32)), .val (.int x103), .val (.int x107), .val (.int x111), .val (.int x115), .val (.ref b120), .val (.ref b123), .val (.int (1 : Int32))]) rfl ?_
   refine XS.aload X128.here hx rfl (hb hby at_217) rfl rfl ?_
   exact k_)
  have RAp : ∀ i, i < 0 → ¬ (own_at [] i < (0 : Int32)) := by
   intro i hi
   omega
  have HBp : ∀ i, i < 0 → ∃ b : Int32, ([] : List Value).getD ((Int32.ofNat i)).toNatClampNeg (.int (0 : Int32)) = .int b ∧ own_c8 b = own_at [] i := by
   intro i hi
   omega
  have f133 := (f126.keep q128_K (allS ge_b123 all0))
  obtain ⟨_, _, ⟨T134, L134, k134, n134⟩, -, X134, ⟨Lc134, hQ134, l134, y134, z134⟩, st134⟩ := Jvm.LawKit.callS X128 hx (y := (⟨"com/example/kuusi/kuusi/core/LineScanner", "isBlank", "(Ljava/lang/String;)Z"⟩ : MethodName)) hown128 (mvT hZ128 (own_w hw 27 rfl)) (mvT hZ128 (own_w hw 28 rfl)) (mvT hZ128 (own_w hw 29 rfl)) (mvT hZ128 (own_w hw 30 rfl)) (by decide) (backOf (W := 0) (rm5_0 l Z a0 hw [] b123 x129 x130 (0 : Int32) [] [] 0 ab kab vsb cs1 fm T128.heap n0 (Nat.le_trans Z0 K131.1) f133 G AS AV HT q128_E q128_c q128_v q128_V (by decide) (by decide) RAp HBp rfl) hZ128 (own_w hw 30 rfl) (own_w hw 29 rfl) (by decide) (by decide)) (g := (mkF m 219 #[.val (.int p1), .val (.int p2), .val (.int p3), .val (.int p4), .val (.int p5), .val (.int (0 : Int32)), .val (.int x103), .val (.int x107), .val (.int x111), .val (.int x115), .val (.ref b120), .val (.ref b123), .val (.int (1 : Int32))] [(.ref b123)])) rfl (by rw [hml]; rfl) (argsL := [(.ref b123)]) (rest := []) (lenOf pd18 rfl) rfl (by show 2 * 0 + _ ≤ _; exact Nat.le_of_eq rfl) (hb hby at_219) (fun _ _ => ⟨rfl, rfl, (by decide : 4 + 0 ≤ _), (by decide : 8 + 0 ≤ _)⟩)
  dsimp only [Pt.U, Pt.locs, Pt.cells, Pt.slots] at X134 l134 y134 z134 st134 hQ134
  subst l134 y134 z134
  obtain ⟨rfl, N134q, q134_hh⟩ := hQ134
  have N134 := Fr.app N128 N134q
  have p135 : Go p.tables e below _ (T134.setTop (mkF m 224 #[.val (.int p1), .val (.int p2), .val (.int p3), .val (.int p4), .val (.int p5), .val (.int (0 : Int32)), .val (.int x103), .val (.int x107), .val (.int x111), .val (.int x115), .val (.ref b120), .val (.ref b123), .val (.int (1 : Int32))] [(.int (1 : Int32)), (.int (own_ac [] 0))])) := fun t_ k_ => (gc p132 st134) t_ (by
   refine XS.iload X134.here hx rfl (hb hby at_222) rfl ?_
   exact k_)
  have c136 : ((own_ac [] 0) = (1 : Int32)) := rfl
  have p137 : Go p.tables e below _ (T134.setTop (mkF m 232 #[.val (.int p1), .val (.int p2), .val (.int p3), .val (.int p4), .val (.int p5), .val (.int (0 : Int32)), .val (.int x103), .val (.int x107), .val (.int x111), .val (.int x115), .val (.ref b120), .val (.ref b123), .val (.int (1 : Int32))] [(.int (1 : Int32))])) := fun t_ k_ => p135 t_ (by
   refine XS.icmpNo X134.here hx rfl (hb hby at_224) rfl (teq c136).2 ?_
   refine XS.iconst X134.here hx rfl (hb hby at_227) ?_
   refine XS.goto X134.here hx rfl (pc0 := 228) (pc' := 232) rfl (hb hby at_228) (by decide) (by decide) ?_
   exact k_)
  obtain ⟨fs, hr, hrun, hended, hRW⟩ := X134.leaveW (s := s) S128 (by rw [q134_hh]; exact kb128) (v := some (.int (1 : Int32))) (fun h => by rw [Bd.returns] at h; cases h)
  refine ⟨_, _, p137 _ (retN X134 hx (t := .boolean) Bd.returns (by simp) (hb hby at_232) hr), hrun, hended, _, _, rfl, ?_, hRW.1, hRW.2.1, hRW.2.2.1, hRW.2.2.2.mono (by decide) (by decide)⟩
  show Q0 Z p1 p2 p3 p4 p5 ab kab vsb cs1 fm h0 n0 _ T134.heap _
  rw [q134_hh]
  exact ⟨rfl, N134⟩
 ·have p138 : Go p.tables e below (s₁.setTop (entryFrame m #[(.int p1), (.int p2), (.int p3), (.int p4), (.int p5)] maxLocals)) (T114.setTop (mkF m 33 #[.val (.int p1), .val (.int p2), .val (.int p3), .val (.int p4), .val (.int p5), .val (.int (1 : Int32)), .val (.int x103), .val (.int x107), .val (.int x111), .val (.int x115), .unset, .unset, .unset] [])) := by have z := p117; rw [ro] at z; exact z
  have p139 : Go p.tables e below _ (T114.setTop (mkF m 53 #[.val (.int p1), .val (.int p2), .val (.int p3), .val (.int p4), .val (.int p5), .val (.int (1 : Int32)), .val (.int x103), .val (.int x107), .val (.int x111), .val (.int x115), .unset, .unset, .unset] [(.int (1 : Int32))])) := fun t_ k_ => p138 t_ (by
   refine XS.iload X114.here hx rfl (hb hby at_33) rfl ?_
   refine XS.ifYes X114.here hx rfl (pc0 := 35) (pc' := 46) rfl (hb hby at_35) rfl ((if0 _ _).trans (feq (by decide : ¬ ((1 : Int32) = (0 : Int32)))).2) (by decide) (by decide) ?_
   refine XS.iload X114.here hx rfl (hb hby at_46) rfl ?_
   refine XS.iconst X114.here hx rfl (hb hby at_48) ?_
   refine XS.icmpNo X114.here hx rfl (hb hby at_49) rfl (teq (by decide : ((1 : Int32) = (1 : Int32)))).2 ?_
   refine XS.iconst X114.here hx rfl (hb hby at_52) ?_
   exact k_)
  obtain ⟨T140, h140, k140, X140, e140, E140, A140, st140⟩ := newP X114 hx hZ (own_w hw 5 rfl) q114_hh (g := (mkF m 53 #[.val (.int p1), .val (.int p2), .val (.int p3), .val (.int p4), .val (.int p5), .val (.int (1 : Int32)), .val (.int x103), .val (.int x107), .val (.int x111), .val (.int x115), .unset, .unset, .unset] [(.int (1 : Int32))])) rfl (hb hby at_53) rfl (by decide) (cap := 1) (by decide) (by decide) (by decide) (by decide)
  obtain ⟨b140, g140⟩ : ∃ z, z = h0.size := ⟨_, rfl⟩
  rw [← g140] at A140 st140
  have ge_b140 : n0 ≤ b140 := Nat.le_trans (Nat.le_trans Z0 (Keep.refl h0 []).1) (Nat.le_of_eq g140.symm)
  have sz_b140 : h0.size ≤ b140 := Nat.le_trans (Keep.refl h0 []).1 (Nat.le_of_eq g140.symm)
  have K141 : Keep h0 h140 [] := (Keep.refl h0 []).ext E140
  have V140 : Arv Z h140 b140 k140 .char (1 : Int32) [(.int (0 : Int32))] (.int (0 : Int32)) := (Arv.new A140 (by decide)).pad (pad_rep [] (.int (0 : Int32)) 1)
  have p142 : Go p.tables e below _ (T140.setTop (mkF m 59 #[.val (.int p1), .val (.int p2), .val (.int p3), .val (.int p4), .val (.int p5), .val (.int (1 : Int32)), .val (.int x103), .val (.int x107), .val (.int x111), .val (.int x115), .unset, .unset, .unset] [(.int x103), (.int (0 : Int32)), (.ref b140), (.ref b140)])) := fun t_ k_ => (gc p139 st140) t_ (by
   refine XS.dup X140.here hx rfl (hb hby at_55) rfl rfl ?_
   refine XS.iconst X140.here hx rfl (hb hby at_56) ?_
   refine XS.iload X140.here hx rfl (hb hby at_57) rfl ?_
   exact k_)
  obtain ⟨cl143, Ar143, q143, S143, Ng143, H143, G143⟩ := id V140
  have hin143 := inb_of S143 (j := (0 : Int32)) ⟨by decide, by decide⟩
  obtain ⟨T143, h143, X143, e143, W143, st143⟩ := stC X140 hx hZ e140 Ar143 (j := (0 : Int32)) hin143 (g := (mkF m 59 #[.val (.int p1), .val (.int p2), .val (.int p3), .val (.int p4), .val (.int p5), .val (.int (1 : Int32)), .val (.int x103), .val (.int x107), .val (.int x111), .val (.int x115), .unset, .unset, .unset] [(.int x103), (.int (0 : Int32)), (.ref b140), (.ref b140)])) rfl rfl (hb hby at_59)
  have K144 : Keep h0 h143 [] := K141.wr W143 (Or.inr sz_b140)
  have N143 := Fr.snoc X143 N114 ge_b140
  have V143 : Arv Z h143 b140 k140 .char (1 : Int32) [(.int (nar .char x103))] (.int (0 : Int32)) := Arv.set Ar143 q143 S143 Ng143 H143 G143 (fits_nar_char _) W143 0 rfl (Nat.le_of_ble_eq_true rfl)
  have p145 : Go p.tables e below _ (T143.setTop (mkF m 143 #[.val (.int p1), .val (.int p2), .val (.int p3), .val (.int p4), .val (.int p5), .val (.int (1 : Int32)), .val (.int x103), .val (.int x107), .val (.int x111), .val (.int x115), .val (.ref b140), .unset, .unset] [])) := fun t_ k_ => (gc p142 st143) t_ (by
   refine XS.astore X143.here hx rfl (hb hby at_60) rfl rfl (l' := #[.val (.int p1), .val (.int p2), .val (.int p3), .val (.int p4), .val (.int p5), .val (.int (1 : Int32)), .val (.int x103), .val (.int x107), .val (.int x111), .val (.int x115), .val (.ref b140), .unset, .unset]) rfl ?_
   refine XS.goto X143.here hx rfl (pc0 := 62) (pc' := 143) rfl (hb hby at_62) (by decide) (by decide) ?_
   exact k_)
  obtain ⟨T146, h146, X146, e146, E146, A146, D146, -, st146⟩ := newO X143 hx hZ hown (own_w hw 6 rfl) (own_w hw 7 rfl) (own_w hw 8 rfl) e143 (g := (mkF m 143 #[.val (.int p1), .val (.int p2), .val (.int p3), .val (.int p4), .val (.int p5), .val (.int (1 : Int32)), .val (.int x103), .val (.int x107), .val (.int x111), .val (.int x115), .val (.ref b140), .unset, .unset] [])) rfl (hb hby at_143) (by decide) (by decide)
  obtain ⟨b146, g146⟩ : ∃ z, z = h143.size := ⟨_, rfl⟩
  rw [← g146] at A146 D146 st146
  have ne_b140_b146 : b140 ≠ b146 := Nat.ne_of_lt (Nat.lt_of_lt_of_le V143.lt (Nat.le_of_eq g146.symm))
  have ge_b146 : n0 ≤ b146 := Nat.le_trans (Nat.le_trans Z0 K144.1) (Nat.le_of_eq g146.symm)
  have sz_b146 : h0.size ≤ b146 := Nat.le_trans K144.1 (Nat.le_of_eq g146.symm)
  have K147 : Keep h0 h146 [] := K144.ext E146
  have F146_value : Fld Z h146 b146 "java/lang/String" "value" "[B" .null := D146 (Or.inr (own_w hw 21 rfl)) (ty := (.array .byte)) (by decide)
  have F146_coder : Fld Z h146 b146 "java/lang/String" "coder" "B" (.int (0 : Int32)) := D146 (Or.inr (own_w hw 22 rfl)) (ty := .byte) (by decide)
  have p148 : Go p.tables e below _ (T146.setTop (mkF m 149 #[.val (.int p1), .val (.int p2), .val (.int p3), .val (.int p4), .val (.int p5), .val (.int (1 : Int32)), .val (.int x103), .val (.int x107), .val (.int x111), .val (.int x115), .val (.ref b140), .unset, .unset] [(.ref b140), (.ref b146), (.ref b146)])) := fun t_ k_ => (gc p145 st146) t_ (by
   refine XS.dup X146.here hx rfl (hb hby at_146) rfl rfl ?_
   refine XS.aload X146.here hx rfl (hb hby at_147) rfl rfl ?_
   exact k_)
  have f149 := (V143.ext E146)
  have f150 : Arv Z h146 b140 k140 .char (1 : Int32) [(.int x103)] (.int (0 : Int32)) := by have z := f149; rw [own_narc _ ra0 rb0] at z; exact z
  by_cases hL : ¬ ((255 : Int32) < x103)
  ·have hl := hL
   have f151 := (((O1.ext E140).wr W143 ge_b140).ext E146)
   obtain ⟨_, _, ⟨T152, L152, k152, n152⟩, -, X152, ⟨Lc152, hQ152, l152, y152, z152⟩, st152⟩ := X146.specialBack hx (y := (⟨"java/lang/String", "<init>", "([C)V"⟩ : MethodName)) rfl hown (mvT hZ (own_w hw 9 rfl)) (mvT hZ (own_w hw 10 rfl)) (mvT hZ (own_w hw 11 rfl)) (by decide) (backOf (W := 1) (rm2_L1 l Z a0 hw [] b146 b140 k140 x103 cs1 fm h146 n0 (Nat.le_trans Z0 K147.1) f151 G F146_coder F146_value A146 f150 (Ne.symm ne_b140_b146) ge_b146 hL) hZ (own_w hw 11 rfl) (own_w hw 8 rfl) (by decide) (by decide)) (g := (mkF m 149 #[.val (.int p1), .val (.int p2), .val (.int p3), .val (.int p4), .val (.int p5), .val (.int (1 : Int32)), .val (.int x103), .val (.int x107), .val (.int x111), .val (.int x115), .val (.ref b140), .unset, .unset] [(.ref b140), (.ref b146), (.ref b146)])) rfl (by rw [hml]; rfl) (Steps.refl _) (a := b146) (argsL := [(.ref b140)]) (rest := [(.ref b146)]) (lenOf pd17 rfl) rfl (by show 2 * 0 + _ ≤ _; exact Nat.le_of_eq rfl) (hb hby at_149) (fun _ _ => ⟨rfl, e146, (by decide : 2 + 1 ≤ _), (by decide : 5 + 1 ≤ _)⟩)
   dsimp only [Pt.U, Pt.locs, Pt.cells, Pt.slots] at X152 l152 y152 z152 st152 hQ152
   subst l152 y152 z152
   obtain ⟨x153, x154, rfl, N152q, q152_K, q152_E, q152_c, q152_v, q152_g, q152_z, q152_V, q152_n⟩ := hQ152
   have N152 := Fr.app N143 N152q
   have K155 : Keep h0 T152.heap [] := K147.trans q152_K (allS (Or.inr sz_b146) all0)
   have ne_b140_x153 : b140 ≠ x153 := Nat.ne_of_lt (Nat.lt_of_lt_of_le f150.lt q152_z)
   have ne_b146_x153 : b146 ≠ x153 := Nat.ne_of_lt (Nat.lt_of_lt_of_le A146.lt q152_z)
   have p156 : Go p.tables e below _ (T152.setTop (mkF m 162 #[.val (.int p1), .val (.int p2), .val (.int p3), .val (.int p4), .val (.int p5), .val (.int (1 : Int32)), .val (.int x103), .val (.int x107), .val (.int x111), .val (.int x115), .val (.ref b140), .val (.ref b146), .unset] [(.int x103)])) := fun t_ k_ => (gcT p148 st152) t_ (by
    refine XS.astore X152.here hx rfl (hb hby at_152) rfl rfl (l' := #[.val (.int p1), .val (.int p2), .val (.int p3), .val (.int p4), .val (.int p5), .val (.int (1 : Int32)), .val (.int x103), .val (.int x107), .val (.int x111), .val (.int x115), .val (.ref b140), .val (.ref b146), .unset]) rfl ?_
    refine XS.iload X152.here hx rfl (hb hby at_154) rfl ?_
    refine XS.iconst X152.here hx rfl (hb hby at_156) ?_
    refine XS.icmpNo X152.here hx rfl (hb hby at_157) rfl (flt (by decide : ¬ ((1 : Int32) < (1 : Int32)))).1 ?_
    refine XS.iload X152.here hx rfl (hb hby at_160) rfl ?_
    exact k_)
   obtain ⟨_, _, ⟨T157, L157, k157, n157⟩, -, X157, ⟨Lc157, hQ157, l157, y157, z157⟩, st157⟩ := Jvm.LawKit.callS X152 hx (y := (⟨"com/example/kuusi/kuusi/core/LineScannerIsBlankPinLaw", "bl", "(C)Z"⟩ : MethodName)) hown (mvT hZ (own_w hw 52 rfl)) (mvT hZ (own_w hw 53 rfl)) (mvT hZ (own_w hw 3 rfl)) (mvT hZ (own_w hw 54 rfl)) (by decide) (backOf (W := 0) (rm11 l Z a0 hw [] x103 T152.heap n0 (Nat.le_trans Z0 K155.1) ) hZ (own_w hw 54 rfl) (own_w hw 3 rfl) (by decide) (by decide)) (g := (mkF m 162 #[.val (.int p1), .val (.int p2), .val (.int p3), .val (.int p4), .val (.int p5), .val (.int (1 : Int32)), .val (.int x103), .val (.int x107), .val (.int x111), .val (.int x115), .val (.ref b140), .val (.ref b146), .unset] [(.int x103)])) rfl (by rw [hml]; rfl) (argsL := [(.int x103)]) (rest := []) (lenOf pd16 rfl) rfl (by show 2 * 0 + _ ≤ _; exact Nat.le_of_eq rfl) (hb hby at_162) (fun _ _ => ⟨rfl, rfl, (by decide : 3 + 0 ≤ _), (by decide : 6 + 0 ≤ _)⟩)
   dsimp only [Pt.U, Pt.locs, Pt.cells, Pt.slots] at X157 l157 y157 z157 st157 hQ157
   subst l157 y157 z157
   obtain ⟨rfl, N157q, q157_hh⟩ := hQ157
   have N157 := Fr.app N152 N157q
   obtain ⟨T163, L163, X163, e163, N163, p163⟩ : ∃ (T' : State) (L' : List Loc), Stand p l e room_1 s m #[(.int p1), (.int p2), (.int p3), (.int p4), (.int p5)] below meth c T' L' 3 6 ∧ T'.heap = T152.heap ∧ Fr n0 L' ∧ Go p.tables e below (s₁.setTop (entryFrame m #[(.int p1), (.int p2), (.int p3), (.int p4), (.int p5)] maxLocals)) (T'.setTop (mkF m 215 #[.val (.int p1), .val (.int p2), .val (.int p3), .val (.int p4), .val (.int p5), .val (.int (1 : Int32)), .val (.int x103), .val (.int x107), .val (.int x111), .val (.int x115), .val (.ref b140), .val (.ref b146), .unset] [(.int (if (own_bl x103) = (0 : Int32) then (0 : Int32) else (1 : Int32)))])) := by
    by_cases c158 : (own_bl x103) = (0 : Int32)
    ·have p159 : Go p.tables e below _ (T157.setTop (mkF m 214 #[.val (.int p1), .val (.int p2), .val (.int p3), .val (.int p4), .val (.int p5), .val (.int (1 : Int32)), .val (.int x103), .val (.int x107), .val (.int x111), .val (.int x115), .val (.ref b140), .val (.ref b146), .unset] [])) := fun t_ k_ => (gc p156 st157) t_ (by
      refine XS.ifYes X157.here hx rfl (pc0 := 165) (pc' := 214) rfl (hb hby at_165) rfl ((if0 _ _).trans (teq c158).1) (by decide) (by decide) ?_
      exact k_)
     have p160 : Go p.tables e below _ (T157.setTop (mkF m 215 #[.val (.int p1), .val (.int p2), .val (.int p3), .val (.int p4), .val (.int p5), .val (.int (1 : Int32)), .val (.int x103), .val (.int x107), .val (.int x111), .val (.int x115), .val (.ref b140), .val (.ref b146), .unset] [(.int (0 : Int32))])) := fun t_ k_ => p159 t_ (by
      refine XS.iconst X157.here hx rfl (hb hby at_214) ?_
      exact k_)
     exact ⟨_, _, X157, q157_hh, N157, by simp only [if_pos c158]; exact p160⟩
    ·have p161 : Go p.tables e below _ (T157.setTop (mkF m 168 #[.val (.int p1), .val (.int p2), .val (.int p3), .val (.int p4), .val (.int p5), .val (.int (1 : Int32)), .val (.int x103), .val (.int x107), .val (.int x111), .val (.int x115), .val (.ref b140), .val (.ref b146), .unset] [])) := fun t_ k_ => (gc p156 st157) t_ (by
      refine XS.ifNo X157.here hx rfl (hb hby at_165) rfl ((if0 _ _).trans (feq c158).1) ?_
      exact k_)
     have p162 : Go p.tables e below _ (T157.setTop (mkF m 215 #[.val (.int p1), .val (.int p2), .val (.int p3), .val (.int p4), .val (.int p5), .val (.int (1 : Int32)), .val (.int x103), .val (.int x107), .val (.int x111), .val (.int x115), .val (.ref b140), .val (.ref b146), .unset] [(.int (1 : Int32))])) := fun t_ k_ => p161 t_ (by
      refine XS.iload X157.here hx rfl (hb hby at_168) rfl ?_
      refine XS.iconst X157.here hx rfl (hb hby at_170) ?_
      refine XS.icmpYes X157.here hx rfl (pc0 := 171) (pc' := 182) rfl (hb hby at_171) rfl (tlt (by decide : ((1 : Int32) < (2 : Int32)))).1 (by decide) (by decide) ?_
      refine XS.iload X157.here hx rfl (hb hby at_182) rfl ?_
      refine XS.iconst X157.here hx rfl (hb hby at_184) ?_
      refine XS.icmpYes X157.here hx rfl (pc0 := 185) (pc' := 196) rfl (hb hby at_185) rfl (tlt (by decide : ((1 : Int32) < (3 : Int32)))).1 (by decide) (by decide) ?_
      refine XS.iload X157.here hx rfl (hb hby at_196) rfl ?_
      refine XS.iconst X157.here hx rfl (hb hby at_198) ?_
      refine XS.icmpYes X157.here hx rfl (pc0 := 199) (pc' := 210) rfl (hb hby at_199) rfl (tlt (by decide : ((1 : Int32) < (4 : Int32)))).1 (by decide) (by decide) ?_
      refine XS.iconst X157.here hx rfl (hb hby at_210) ?_
      refine XS.goto X157.here hx rfl (pc0 := 211) (pc' := 215) rfl (hb hby at_211) (by decide) (by decide) ?_
      exact k_)
     exact ⟨_, _, X157, q157_hh, N157, by simp only [if_neg c158]; exact p162⟩
   obtain ⟨ex, hex⟩ : ∃ z, z = (if (own_bl x103) = (0 : Int32) then (0 : Int32) else (1 : Int32)) := ⟨_, rfl⟩
   have p164 : Go p.tables e below (s₁.setTop (entryFrame m #[(.int p1), (.int p2), (.int p3), (.int p4), (.int p5)] maxLocals)) (T163.setTop (mkF m 215 #[.val (.int p1), .val (.int p2), .val (.int p3), .val (.int p4), .val (.int p5), .val (.int (1 : Int32)), .val (.int x103), .val (.int x107), .val (.int x111), .val (.int x115), .val (.ref b140), .val (.ref b146), .unset] [(.int ex)])) := by rw [hex]; exact p163
   have p165 : Go p.tables e below _ (T163.setTop (mkF m 219 #[.val (.int p1), .val (.int p2), .val (.int p3), .val (.int p4), .val (.int p5), .val (.int (1 : Int32)), .val (.int x103), .val (.int x107), .val (.int x111), .val (.int x115), .val (.ref b140), .val (.ref b146), .val (.int ex)] [(.ref b146)])) := fun t_ k_ => p164 t_ (by
    refine XS.istore X163.here hx rfl (hb hby at_215) rfl (l' := #[.val (.int p1), .val (.int p2), .val (.int p3), .val (.int p4), .val (.int p5), .val (.int (1 : Int32)), .val (.int x103), .val (.int x107), .val (.int x111), .val (.int x115), .val (.ref b140), .val (.ref b146), .val (.int ex)]) rfl ?_
    refine XS.aload X163.here hx rfl (hb hby at_217) rfl rfl ?_
    exact k_)
   have RAp : ∀ i, i < 1 → ¬ (own_at [x103] i < (0 : Int32)) := by
    intro i hi
    rcases (by omega : i = 0) with rfl
    ·exact ra0
   have HBp : ∀ i, i < 1 → ∃ b : Int32, ([(.int (own_xl x103))] : List Value).getD ((Int32.ofNat i)).toNatClampNeg (.int (0 : Int32)) = .int b ∧ own_c8 b = own_at [x103] i := by
    intro i hi
    rcases (by omega : i = 0) with rfl
    ·exact ⟨_, rfl, own_l8 _ ra0 hL⟩
   have f166 := (f151.keep q152_K (allS ge_b146 all0))
   obtain ⟨_, _, ⟨T167, L167, k167, n167⟩, -, X167, ⟨Lc167, hQ167, l167, y167, z167⟩, st167⟩ := Jvm.LawKit.callS X163 hx (y := (⟨"com/example/kuusi/kuusi/core/LineScanner", "isBlank", "(Ljava/lang/String;)Z"⟩ : MethodName)) hown (mvT hZ (own_w hw 27 rfl)) (mvT hZ (own_w hw 28 rfl)) (mvT hZ (own_w hw 29 rfl)) (mvT hZ (own_w hw 30 rfl)) (by decide) (backOf (W := 0) (rm5_0 l Z a0 hw [] b146 x153 x154 (1 : Int32) [(.int (own_xl x103))] [x103] 1 ab kab vsb cs1 fm T152.heap n0 (Nat.le_trans Z0 K155.1) f166 G AS AV HT q152_E q152_c q152_v q152_V (by decide) (by decide) RAp HBp rfl) hZ (own_w hw 30 rfl) (own_w hw 29 rfl) (by decide) (by decide)) (g := (mkF m 219 #[.val (.int p1), .val (.int p2), .val (.int p3), .val (.int p4), .val (.int p5), .val (.int (1 : Int32)), .val (.int x103), .val (.int x107), .val (.int x111), .val (.int x115), .val (.ref b140), .val (.ref b146), .val (.int ex)] [(.ref b146)])) rfl (by rw [hml]; rfl) (argsL := [(.ref b146)]) (rest := []) (lenOf pd18 rfl) rfl (by show 2 * 0 + _ ≤ _; exact Nat.le_of_eq rfl) (hb hby at_219) (fun _ _ => ⟨rfl, e163, (by decide : 3 + 0 ≤ _), (by decide : 6 + 0 ≤ _)⟩)
   dsimp only [Pt.U, Pt.locs, Pt.cells, Pt.slots] at X167 l167 y167 z167 st167 hQ167
   subst l167 y167 z167
   obtain ⟨rfl, N167q, q167_hh⟩ := hQ167
   have N167 := Fr.app N163 N167q
   have p168 : Go p.tables e below _ (T167.setTop (mkF m 224 #[.val (.int p1), .val (.int p2), .val (.int p3), .val (.int p4), .val (.int p5), .val (.int (1 : Int32)), .val (.int x103), .val (.int x107), .val (.int x111), .val (.int x115), .val (.ref b140), .val (.ref b146), .val (.int ex)] [(.int ex), (.int (own_ac [x103] 1))])) := fun t_ k_ => (gc p165 st167) t_ (by
    refine XS.iload X167.here hx rfl (hb hby at_222) rfl ?_
    exact k_)
   have c169 : ((own_ac [x103] 1) = ex) := by rw [hex]; exact own_ac1 x103
   have p170 : Go p.tables e below _ (T167.setTop (mkF m 232 #[.val (.int p1), .val (.int p2), .val (.int p3), .val (.int p4), .val (.int p5), .val (.int (1 : Int32)), .val (.int x103), .val (.int x107), .val (.int x111), .val (.int x115), .val (.ref b140), .val (.ref b146), .val (.int ex)] [(.int (1 : Int32))])) := fun t_ k_ => p168 t_ (by
    refine XS.icmpNo X167.here hx rfl (hb hby at_224) rfl (teq c169).2 ?_
    refine XS.iconst X167.here hx rfl (hb hby at_227) ?_
    refine XS.goto X167.here hx rfl (pc0 := 228) (pc' := 232) rfl (hb hby at_228) (by decide) (by decide) ?_
    exact k_)
   obtain ⟨fs, hr, hrun, hended, hW, hsame⟩ := X167.leave (v := some (.int (1 : Int32))) (fun h => by rw [Bd.returns] at h; cases h)
   refine ⟨_, _, p170 _ (retN X167 hx (t := .boolean) Bd.returns (by simp) (hb hby at_232) hr), hrun, hended, _, _, rfl, ?_, ReturnedEndW.of_narrow ⟨_, rfl⟩ hW (hsame.mono (by decide) (by decide))⟩
   show Q0 Z p1 p2 p3 p4 p5 ab kab vsb cs1 fm h0 n0 _ T167.heap _
   rw [q167_hh]
   exact ⟨rfl, N167⟩
  ·have big : ((255 : Int32) < x103) := by
    refine Classical.byContradiction fun q => hL q
   have f171 := (((O1.ext E140).wr W143 ge_b140).ext E146)
   obtain ⟨_, _, ⟨T172, L172, k172, n172⟩, -, X172, ⟨Lc172, hQ172, l172, y172, z172⟩, st172⟩ := X146.specialBack hx (y := (⟨"java/lang/String", "<init>", "([C)V"⟩ : MethodName)) rfl hown (mvT hZ (own_w hw 9 rfl)) (mvT hZ (own_w hw 10 rfl)) (mvT hZ (own_w hw 11 rfl)) (by decide) (backOf (W := 1) (rm2_U1 l Z a0 hw [] b146 b140 k140 x103 cs1 fm h146 n0 (Nat.le_trans Z0 K147.1) f171 G F146_coder F146_value A146 f150 (Ne.symm ne_b140_b146) ge_b146 ra0 rb0 big) hZ (own_w hw 11 rfl) (own_w hw 8 rfl) (by decide) (by decide)) (g := (mkF m 149 #[.val (.int p1), .val (.int p2), .val (.int p3), .val (.int p4), .val (.int p5), .val (.int (1 : Int32)), .val (.int x103), .val (.int x107), .val (.int x111), .val (.int x115), .val (.ref b140), .unset, .unset] [(.ref b140), (.ref b146), (.ref b146)])) rfl (by rw [hml]; rfl) (Steps.refl _) (a := b146) (argsL := [(.ref b140)]) (rest := [(.ref b146)]) (lenOf pd17 rfl) rfl (by show 2 * 0 + _ ≤ _; exact Nat.le_of_eq rfl) (hb hby at_149) (fun _ _ => ⟨rfl, e146, (by decide : 2 + 2 ≤ _), (by decide : 5 + 3 ≤ _)⟩)
   dsimp only [Pt.U, Pt.locs, Pt.cells, Pt.slots] at X172 l172 y172 z172 st172 hQ172
   subst l172 y172 z172
   obtain ⟨x173, x174, rfl, N172q, q172_K, q172_E, q172_c, q172_v, q172_g, q172_z, q172_V, q172_n⟩ := hQ172
   have N172 := Fr.app N143 N172q
   have K175 : Keep h0 T172.heap [] := K147.trans q172_K (allS (Or.inr sz_b146) all0)
   have ne_b140_x173 : b140 ≠ x173 := Nat.ne_of_lt (Nat.lt_of_lt_of_le f150.lt q172_z)
   have ne_b146_x173 : b146 ≠ x173 := Nat.ne_of_lt (Nat.lt_of_lt_of_le A146.lt q172_z)
   have p176 : Go p.tables e below _ (T172.setTop (mkF m 162 #[.val (.int p1), .val (.int p2), .val (.int p3), .val (.int p4), .val (.int p5), .val (.int (1 : Int32)), .val (.int x103), .val (.int x107), .val (.int x111), .val (.int x115), .val (.ref b140), .val (.ref b146), .unset] [(.int x103)])) := fun t_ k_ => (gcT p148 st172) t_ (by
    refine XS.astore X172.here hx rfl (hb hby at_152) rfl rfl (l' := #[.val (.int p1), .val (.int p2), .val (.int p3), .val (.int p4), .val (.int p5), .val (.int (1 : Int32)), .val (.int x103), .val (.int x107), .val (.int x111), .val (.int x115), .val (.ref b140), .val (.ref b146), .unset]) rfl ?_
    refine XS.iload X172.here hx rfl (hb hby at_154) rfl ?_
    refine XS.iconst X172.here hx rfl (hb hby at_156) ?_
    refine XS.icmpNo X172.here hx rfl (hb hby at_157) rfl (flt (by decide : ¬ ((1 : Int32) < (1 : Int32)))).1 ?_
    refine XS.iload X172.here hx rfl (hb hby at_160) rfl ?_
    exact k_)
   obtain ⟨_, _, ⟨T177, L177, k177, n177⟩, -, X177, ⟨Lc177, hQ177, l177, y177, z177⟩, st177⟩ := Jvm.LawKit.callS X172 hx (y := (⟨"com/example/kuusi/kuusi/core/LineScannerIsBlankPinLaw", "bl", "(C)Z"⟩ : MethodName)) hown (mvT hZ (own_w hw 52 rfl)) (mvT hZ (own_w hw 53 rfl)) (mvT hZ (own_w hw 3 rfl)) (mvT hZ (own_w hw 54 rfl)) (by decide) (backOf (W := 0) (rm11 l Z a0 hw [] x103 T172.heap n0 (Nat.le_trans Z0 K175.1) ) hZ (own_w hw 54 rfl) (own_w hw 3 rfl) (by decide) (by decide)) (g := (mkF m 162 #[.val (.int p1), .val (.int p2), .val (.int p3), .val (.int p4), .val (.int p5), .val (.int (1 : Int32)), .val (.int x103), .val (.int x107), .val (.int x111), .val (.int x115), .val (.ref b140), .val (.ref b146), .unset] [(.int x103)])) rfl (by rw [hml]; rfl) (argsL := [(.int x103)]) (rest := []) (lenOf pd16 rfl) rfl (by show 2 * 0 + _ ≤ _; exact Nat.le_of_eq rfl) (hb hby at_162) (fun _ _ => ⟨rfl, rfl, (by decide : 4 + 0 ≤ _), (by decide : 8 + 0 ≤ _)⟩)
   dsimp only [Pt.U, Pt.locs, Pt.cells, Pt.slots] at X177 l177 y177 z177 st177 hQ177
   subst l177 y177 z177
   obtain ⟨rfl, N177q, q177_hh⟩ := hQ177
   have N177 := Fr.app N172 N177q
   obtain ⟨T183, L183, X183, e183, N183, p183⟩ : ∃ (T' : State) (L' : List Loc), Stand p l e room_1 s m #[(.int p1), (.int p2), (.int p3), (.int p4), (.int p5)] below meth c T' L' 4 8 ∧ T'.heap = T172.heap ∧ Fr n0 L' ∧ Go p.tables e below (s₁.setTop (entryFrame m #[(.int p1), (.int p2), (.int p3), (.int p4), (.int p5)] maxLocals)) (T'.setTop (mkF m 215 #[.val (.int p1), .val (.int p2), .val (.int p3), .val (.int p4), .val (.int p5), .val (.int (1 : Int32)), .val (.int x103), .val (.int x107), .val (.int x111), .val (.int x115), .val (.ref b140), .val (.ref b146), .unset] [(.int (if (own_bl x103) = (0 : Int32) then (0 : Int32) else (1 : Int32)))])) := by
    by_cases c178 : (own_bl x103) = (0 : Int32)
    ·have p179 : Go p.tables e below _ (T177.setTop (mkF m 214 #[.val (.int p1), .val (.int p2), .val (.int p3), .val (.int p4), .val (.int p5), .val (.int (1 : Int32)), .val (.int x103), .val (.int x107), .val (.int x111), .val (.int x115), .val (.ref b140), .val (.ref b146), .unset] [])) := fun t_ k_ => (gc p176 st177) t_ (by
      refine XS.ifYes X177.here hx rfl (pc0 := 165) (pc' := 214) rfl (hb hby at_165) rfl ((if0 _ _).trans (teq c178).1) (by decide) (by decide) ?_
      exact k_)
     have p180 : Go p.tables e below _ (T177.setTop (mkF m 215 #[.val (.int p1), .val (.int p2), .val (.int p3), .val (.int p4), .val (.int p5), .val (.int (1 : Int32)), .val (.int x103), .val (.int x107), .val (.int x111), .val (.int x115), .val (.ref b140), .val (.ref b146), .unset] [(.int (0 : Int32))])) := fun t_ k_ => p179 t_ (by
      refine XS.iconst X177.here hx rfl (hb hby at_214) ?_
      exact k_)
     exact ⟨_, _, X177, q177_hh, N177, by simp only [if_pos c178]; exact p180⟩
    ·have p181 : Go p.tables e below _ (T177.setTop (mkF m 168 #[.val (.int p1), .val (.int p2), .val (.int p3), .val (.int p4), .val (.int p5), .val (.int (1 : Int32)), .val (.int x103), .val (.int x107), .val (.int x111), .val (.int x115), .val (.ref b140), .val (.ref b146), .unset] [])) := fun t_ k_ => (gc p176 st177) t_ (by
      refine XS.ifNo X177.here hx rfl (hb hby at_165) rfl ((if0 _ _).trans (feq c178).1) ?_
      exact k_)
     have p182 : Go p.tables e below _ (T177.setTop (mkF m 215 #[.val (.int p1), .val (.int p2), .val (.int p3), .val (.int p4), .val (.int p5), .val (.int (1 : Int32)), .val (.int x103), .val (.int x107), .val (.int x111), .val (.int x115), .val (.ref b140), .val (.ref b146), .unset] [(.int (1 : Int32))])) := fun t_ k_ => p181 t_ (by
      refine XS.iload X177.here hx rfl (hb hby at_168) rfl ?_
      refine XS.iconst X177.here hx rfl (hb hby at_170) ?_
      refine XS.icmpYes X177.here hx rfl (pc0 := 171) (pc' := 182) rfl (hb hby at_171) rfl (tlt (by decide : ((1 : Int32) < (2 : Int32)))).1 (by decide) (by decide) ?_
      refine XS.iload X177.here hx rfl (hb hby at_182) rfl ?_
      refine XS.iconst X177.here hx rfl (hb hby at_184) ?_
      refine XS.icmpYes X177.here hx rfl (pc0 := 185) (pc' := 196) rfl (hb hby at_185) rfl (tlt (by decide : ((1 : Int32) < (3 : Int32)))).1 (by decide) (by decide) ?_
      refine XS.iload X177.here hx rfl (hb hby at_196) rfl ?_
      refine XS.iconst X177.here hx rfl (hb hby at_198) ?_
      refine XS.icmpYes X177.here hx rfl (pc0 := 199) (pc' := 210) rfl (hb hby at_199) rfl (tlt (by decide : ((1 : Int32) < (4 : Int32)))).1 (by decide) (by decide) ?_
      refine XS.iconst X177.here hx rfl (hb hby at_210) ?_
      refine XS.goto X177.here hx rfl (pc0 := 211) (pc' := 215) rfl (hb hby at_211) (by decide) (by decide) ?_
      exact k_)
     exact ⟨_, _, X177, q177_hh, N177, by simp only [if_neg c178]; exact p182⟩
   obtain ⟨ex, hex⟩ : ∃ z, z = (if (own_bl x103) = (0 : Int32) then (0 : Int32) else (1 : Int32)) := ⟨_, rfl⟩
   have p184 : Go p.tables e below (s₁.setTop (entryFrame m #[(.int p1), (.int p2), (.int p3), (.int p4), (.int p5)] maxLocals)) (T183.setTop (mkF m 215 #[.val (.int p1), .val (.int p2), .val (.int p3), .val (.int p4), .val (.int p5), .val (.int (1 : Int32)), .val (.int x103), .val (.int x107), .val (.int x111), .val (.int x115), .val (.ref b140), .val (.ref b146), .unset] [(.int ex)])) := by rw [hex]; exact p183
   have p185 : Go p.tables e below _ (T183.setTop (mkF m 219 #[.val (.int p1), .val (.int p2), .val (.int p3), .val (.int p4), .val (.int p5), .val (.int (1 : Int32)), .val (.int x103), .val (.int x107), .val (.int x111), .val (.int x115), .val (.ref b140), .val (.ref b146), .val (.int ex)] [(.ref b146)])) := fun t_ k_ => p184 t_ (by
    refine XS.istore X183.here hx rfl (hb hby at_215) rfl (l' := #[.val (.int p1), .val (.int p2), .val (.int p3), .val (.int p4), .val (.int p5), .val (.int (1 : Int32)), .val (.int x103), .val (.int x107), .val (.int x111), .val (.int x115), .val (.ref b140), .val (.ref b146), .val (.int ex)]) rfl ?_
    refine XS.aload X183.here hx rfl (hb hby at_217) rfl rfl ?_
    exact k_)
   have RAp : ∀ i, i < 1 → ¬ (own_at [x103] i < (0 : Int32)) := by
    intro i hi
    rcases (by omega : i = 0) with rfl
    ·exact ra0
   have HBp : ∀ i, i < 1 → ∃ b0 b1 : Int32, (¬ ((Int32.ofNat i) <<< (1 : Int32)) < 0 ∧ ((Int32.ofNat i) <<< (1 : Int32)) < (2 : Int32)) ∧ (¬ (((Int32.ofNat i) <<< (1 : Int32)) + (1 : Int32)) < 0 ∧ (((Int32.ofNat i) <<< (1 : Int32)) + (1 : Int32)) < (2 : Int32)) ∧ ([(.int (own_x0 x103)), (.int (own_x8 x103))] : List Value).getD (((Int32.ofNat i) <<< (1 : Int32))).toNatClampNeg (.int (0 : Int32)) = .int b0 ∧ ([(.int (own_x0 x103)), (.int (own_x8 x103))] : List Value).getD ((((Int32.ofNat i) <<< (1 : Int32)) + (1 : Int32))).toNatClampNeg (.int (0 : Int32)) = .int b1 ∧ own_c16 b0 b1 = own_at [x103] i := by
    intro i hi
    rcases (by omega : i = 0) with rfl
    ·exact ⟨_, _, by decide, by decide, rfl, rfl, own_l16 _ ra0 rb0⟩
   have f186 := (f171.keep q172_K (allS ge_b146 all0))
   obtain ⟨_, _, ⟨T187, L187, k187, n187⟩, -, X187, ⟨Lc187, hQ187, l187, y187, z187⟩, st187⟩ := Jvm.LawKit.callS X183 hx (y := (⟨"com/example/kuusi/kuusi/core/LineScanner", "isBlank", "(Ljava/lang/String;)Z"⟩ : MethodName)) hown (mvT hZ (own_w hw 27 rfl)) (mvT hZ (own_w hw 28 rfl)) (mvT hZ (own_w hw 29 rfl)) (mvT hZ (own_w hw 30 rfl)) (by decide) (backOf (W := 0) (rm5_1 l Z a0 hw [] b146 x173 x174 (2 : Int32) [(.int (own_x0 x103)), (.int (own_x8 x103))] [x103] 1 ab kab vsb cs1 fm T172.heap n0 (Nat.le_trans Z0 K175.1) f186 G AS AV HT q172_E q172_c q172_v q172_V (by decide) (by decide) RAp HBp) hZ (own_w hw 30 rfl) (own_w hw 29 rfl) (by decide) (by decide)) (g := (mkF m 219 #[.val (.int p1), .val (.int p2), .val (.int p3), .val (.int p4), .val (.int p5), .val (.int (1 : Int32)), .val (.int x103), .val (.int x107), .val (.int x111), .val (.int x115), .val (.ref b140), .val (.ref b146), .val (.int ex)] [(.ref b146)])) rfl (by rw [hml]; rfl) (argsL := [(.ref b146)]) (rest := []) (lenOf pd18 rfl) rfl (by show 2 * 0 + _ ≤ _; exact Nat.le_of_eq rfl) (hb hby at_219) (fun _ _ => ⟨rfl, e183, (by decide : 4 + 0 ≤ _), (by decide : 8 + 0 ≤ _)⟩)
   dsimp only [Pt.U, Pt.locs, Pt.cells, Pt.slots] at X187 l187 y187 z187 st187 hQ187
   subst l187 y187 z187
   obtain ⟨rfl, N187q, q187_hh⟩ := hQ187
   have N187 := Fr.app N183 N187q
   have p188 : Go p.tables e below _ (T187.setTop (mkF m 224 #[.val (.int p1), .val (.int p2), .val (.int p3), .val (.int p4), .val (.int p5), .val (.int (1 : Int32)), .val (.int x103), .val (.int x107), .val (.int x111), .val (.int x115), .val (.ref b140), .val (.ref b146), .val (.int ex)] [(.int ex), (.int (own_ac [x103] 1))])) := fun t_ k_ => (gc p185 st187) t_ (by
    refine XS.iload X187.here hx rfl (hb hby at_222) rfl ?_
    exact k_)
   have c189 : ((own_ac [x103] 1) = ex) := by rw [hex]; exact own_ac1 x103
   have p190 : Go p.tables e below _ (T187.setTop (mkF m 232 #[.val (.int p1), .val (.int p2), .val (.int p3), .val (.int p4), .val (.int p5), .val (.int (1 : Int32)), .val (.int x103), .val (.int x107), .val (.int x111), .val (.int x115), .val (.ref b140), .val (.ref b146), .val (.int ex)] [(.int (1 : Int32))])) := fun t_ k_ => p188 t_ (by
    refine XS.icmpNo X187.here hx rfl (hb hby at_224) rfl (teq c189).2 ?_
    refine XS.iconst X187.here hx rfl (hb hby at_227) ?_
    refine XS.goto X187.here hx rfl (pc0 := 228) (pc' := 232) rfl (hb hby at_228) (by decide) (by decide) ?_
    exact k_)
   obtain ⟨fs, hr, hrun, hended, hW, hsame⟩ := X187.leave (v := some (.int (1 : Int32))) (fun h => by rw [Bd.returns] at h; cases h)
   refine ⟨_, _, p190 _ (retN X187 hx (t := .boolean) Bd.returns (by simp) (hb hby at_232) hr), hrun, hended, _, _, rfl, ?_, ReturnedEndW.of_narrow ⟨_, rfl⟩ hW (hsame.mono (by decide) (by decide))⟩
   show Q0 Z p1 p2 p3 p4 p5 ab kab vsb cs1 fm h0 n0 _ T187.heap _
   rw [q187_hh]
   exact ⟨rfl, N187⟩
 ·have p191 : Go p.tables e below (s₁.setTop (entryFrame m #[(.int p1), (.int p2), (.int p3), (.int p4), (.int p5)] maxLocals)) (T114.setTop (mkF m 33 #[.val (.int p1), .val (.int p2), .val (.int p3), .val (.int p4), .val (.int p5), .val (.int (2 : Int32)), .val (.int x103), .val (.int x107), .val (.int x111), .val (.int x115), .unset, .unset, .unset] [])) := by have z := p117; rw [ro] at z; exact z
  have p192 : Go p.tables e below _ (T114.setTop (mkF m 72 #[.val (.int p1), .val (.int p2), .val (.int p3), .val (.int p4), .val (.int p5), .val (.int (2 : Int32)), .val (.int x103), .val (.int x107), .val (.int x111), .val (.int x115), .unset, .unset, .unset] [(.int (2 : Int32))])) := fun t_ k_ => p191 t_ (by
   refine XS.iload X114.here hx rfl (hb hby at_33) rfl ?_
   refine XS.ifYes X114.here hx rfl (pc0 := 35) (pc' := 46) rfl (hb hby at_35) rfl ((if0 _ _).trans (feq (by decide : ¬ ((2 : Int32) = (0 : Int32)))).2) (by decide) (by decide) ?_
   refine XS.iload X114.here hx rfl (hb hby at_46) rfl ?_
   refine XS.iconst X114.here hx rfl (hb hby at_48) ?_
   refine XS.icmpYes X114.here hx rfl (pc0 := 49) (pc' := 65) rfl (hb hby at_49) rfl (feq (by decide : ¬ ((2 : Int32) = (1 : Int32)))).2 (by decide) (by decide) ?_
   refine XS.iload X114.here hx rfl (hb hby at_65) rfl ?_
   refine XS.iconst X114.here hx rfl (hb hby at_67) ?_
   refine XS.icmpNo X114.here hx rfl (hb hby at_68) rfl (teq (by decide : ((2 : Int32) = (2 : Int32)))).2 ?_
   refine XS.iconst X114.here hx rfl (hb hby at_71) ?_
   exact k_)
  obtain ⟨T193, h193, k193, X193, e193, E193, A193, st193⟩ := newP X114 hx hZ (own_w hw 5 rfl) q114_hh (g := (mkF m 72 #[.val (.int p1), .val (.int p2), .val (.int p3), .val (.int p4), .val (.int p5), .val (.int (2 : Int32)), .val (.int x103), .val (.int x107), .val (.int x111), .val (.int x115), .unset, .unset, .unset] [(.int (2 : Int32))])) rfl (hb hby at_72) rfl (by decide) (cap := 2) (by decide) (by decide) (by decide) (by decide)
  obtain ⟨b193, g193⟩ : ∃ z, z = h0.size := ⟨_, rfl⟩
  rw [← g193] at A193 st193
  have ge_b193 : n0 ≤ b193 := Nat.le_trans (Nat.le_trans Z0 (Keep.refl h0 []).1) (Nat.le_of_eq g193.symm)
  have sz_b193 : h0.size ≤ b193 := Nat.le_trans (Keep.refl h0 []).1 (Nat.le_of_eq g193.symm)
  have K194 : Keep h0 h193 [] := (Keep.refl h0 []).ext E193
  have V193 : Arv Z h193 b193 k193 .char (2 : Int32) [(.int (0 : Int32)), (.int (0 : Int32))] (.int (0 : Int32)) := (Arv.new A193 (by decide)).pad (pad_rep [] (.int (0 : Int32)) 2)
  have p195 : Go p.tables e below _ (T193.setTop (mkF m 78 #[.val (.int p1), .val (.int p2), .val (.int p3), .val (.int p4), .val (.int p5), .val (.int (2 : Int32)), .val (.int x103), .val (.int x107), .val (.int x111), .val (.int x115), .unset, .unset, .unset] [(.int x103), (.int (0 : Int32)), (.ref b193), (.ref b193)])) := fun t_ k_ => (gc p192 st193) t_ (by
   refine XS.dup X193.here hx rfl (hb hby at_74) rfl rfl ?_
   refine XS.iconst X193.here hx rfl (hb hby at_75) ?_
   refine XS.iload X193.here hx rfl (hb hby at_76) rfl ?_
   exact k_)
  obtain ⟨cl196, Ar196, q196, S196, Ng196, H196, G196⟩ := id V193
  have hin196 := inb_of S196 (j := (0 : Int32)) ⟨by decide, by decide⟩
  obtain ⟨T196, h196, X196, e196, W196, st196⟩ := stC X193 hx hZ e193 Ar196 (j := (0 : Int32)) hin196 (g := (mkF m 78 #[.val (.int p1), .val (.int p2), .val (.int p3), .val (.int p4), .val (.int p5), .val (.int (2 : Int32)), .val (.int x103), .val (.int x107), .val (.int x111), .val (.int x115), .unset, .unset, .unset] [(.int x103), (.int (0 : Int32)), (.ref b193), (.ref b193)])) rfl rfl (hb hby at_78)
  have K197 : Keep h0 h196 [] := K194.wr W196 (Or.inr sz_b193)
  have N196 := Fr.snoc X196 N114 ge_b193
  have V196 : Arv Z h196 b193 k193 .char (2 : Int32) [(.int (nar .char x103)), (.int (0 : Int32))] (.int (0 : Int32)) := Arv.set Ar196 q196 S196 Ng196 H196 G196 (fits_nar_char _) W196 0 rfl (Nat.le_of_ble_eq_true rfl)
  have p198 : Go p.tables e below _ (T196.setTop (mkF m 83 #[.val (.int p1), .val (.int p2), .val (.int p3), .val (.int p4), .val (.int p5), .val (.int (2 : Int32)), .val (.int x103), .val (.int x107), .val (.int x111), .val (.int x115), .unset, .unset, .unset] [(.int x107), (.int (1 : Int32)), (.ref b193), (.ref b193)])) := fun t_ k_ => (gc p195 st196) t_ (by
   refine XS.dup X196.here hx rfl (hb hby at_79) rfl rfl ?_
   refine XS.iconst X196.here hx rfl (hb hby at_80) ?_
   refine XS.iload X196.here hx rfl (hb hby at_81) rfl ?_
   exact k_)
  obtain ⟨cl199, Ar199, q199, S199, Ng199, H199, G199⟩ := id V196
  have hin199 := inb_of S199 (j := (1 : Int32)) ⟨by decide, by decide⟩
  obtain ⟨T199, h199, X199, e199, W199, st199⟩ := stC X196 hx hZ e196 Ar199 (j := (1 : Int32)) hin199 (g := (mkF m 83 #[.val (.int p1), .val (.int p2), .val (.int p3), .val (.int p4), .val (.int p5), .val (.int (2 : Int32)), .val (.int x103), .val (.int x107), .val (.int x111), .val (.int x115), .unset, .unset, .unset] [(.int x107), (.int (1 : Int32)), (.ref b193), (.ref b193)])) rfl rfl (hb hby at_83)
  have K200 : Keep h0 h199 [] := K197.wr W199 (Or.inr sz_b193)
  have N199 := Fr.snoc X199 N196 ge_b193
  have V199 : Arv Z h199 b193 k193 .char (2 : Int32) [(.int (nar .char x103)), (.int (nar .char x107))] (.int (0 : Int32)) := Arv.set Ar199 q199 S199 Ng199 H199 G199 (fits_nar_char _) W199 1 rfl (Nat.le_of_ble_eq_true rfl)
  have p201 : Go p.tables e below _ (T199.setTop (mkF m 143 #[.val (.int p1), .val (.int p2), .val (.int p3), .val (.int p4), .val (.int p5), .val (.int (2 : Int32)), .val (.int x103), .val (.int x107), .val (.int x111), .val (.int x115), .val (.ref b193), .unset, .unset] [])) := fun t_ k_ => (gc p198 st199) t_ (by
   refine XS.astore X199.here hx rfl (hb hby at_84) rfl rfl (l' := #[.val (.int p1), .val (.int p2), .val (.int p3), .val (.int p4), .val (.int p5), .val (.int (2 : Int32)), .val (.int x103), .val (.int x107), .val (.int x111), .val (.int x115), .val (.ref b193), .unset, .unset]) rfl ?_
   refine XS.goto X199.here hx rfl (pc0 := 86) (pc' := 143) rfl (hb hby at_86) (by decide) (by decide) ?_
   exact k_)
  obtain ⟨T202, h202, X202, e202, E202, A202, D202, -, st202⟩ := newO X199 hx hZ hown (own_w hw 6 rfl) (own_w hw 7 rfl) (own_w hw 8 rfl) e199 (g := (mkF m 143 #[.val (.int p1), .val (.int p2), .val (.int p3), .val (.int p4), .val (.int p5), .val (.int (2 : Int32)), .val (.int x103), .val (.int x107), .val (.int x111), .val (.int x115), .val (.ref b193), .unset, .unset] [])) rfl (hb hby at_143) (by decide) (by decide)
  obtain ⟨b202, g202⟩ : ∃ z, z = h199.size := ⟨_, rfl⟩
  rw [← g202] at A202 D202 st202
  have ne_b193_b202 : b193 ≠ b202 := Nat.ne_of_lt (Nat.lt_of_lt_of_le V199.lt (Nat.le_of_eq g202.symm))
  have ge_b202 : n0 ≤ b202 := Nat.le_trans (Nat.le_trans Z0 K200.1) (Nat.le_of_eq g202.symm)
  have sz_b202 : h0.size ≤ b202 := Nat.le_trans K200.1 (Nat.le_of_eq g202.symm)
  have K203 : Keep h0 h202 [] := K200.ext E202
  have F202_value : Fld Z h202 b202 "java/lang/String" "value" "[B" .null := D202 (Or.inr (own_w hw 21 rfl)) (ty := (.array .byte)) (by decide)
  have F202_coder : Fld Z h202 b202 "java/lang/String" "coder" "B" (.int (0 : Int32)) := D202 (Or.inr (own_w hw 22 rfl)) (ty := .byte) (by decide)
  have p204 : Go p.tables e below _ (T202.setTop (mkF m 149 #[.val (.int p1), .val (.int p2), .val (.int p3), .val (.int p4), .val (.int p5), .val (.int (2 : Int32)), .val (.int x103), .val (.int x107), .val (.int x111), .val (.int x115), .val (.ref b193), .unset, .unset] [(.ref b193), (.ref b202), (.ref b202)])) := fun t_ k_ => (gc p201 st202) t_ (by
   refine XS.dup X202.here hx rfl (hb hby at_146) rfl rfl ?_
   refine XS.aload X202.here hx rfl (hb hby at_147) rfl rfl ?_
   exact k_)
  have f205 := (V199.ext E202)
  have f206 : Arv Z h202 b193 k193 .char (2 : Int32) [(.int x103), (.int x107)] (.int (0 : Int32)) := by have z := f205; rw [own_narc _ ra0 rb0, own_narc _ ra1 rb1] at z; exact z
  by_cases hL : ¬ ((255 : Int32) < x103) ∧ ¬ ((255 : Int32) < x107)
  ·have hl := hL
   have f207 := ((((O1.ext E193).wr W196 ge_b193).wr W199 ge_b193).ext E202)
   obtain ⟨_, _, ⟨T208, L208, k208, n208⟩, -, X208, ⟨Lc208, hQ208, l208, y208, z208⟩, st208⟩ := X202.specialBack hx (y := (⟨"java/lang/String", "<init>", "([C)V"⟩ : MethodName)) rfl hown (mvT hZ (own_w hw 9 rfl)) (mvT hZ (own_w hw 10 rfl)) (mvT hZ (own_w hw 11 rfl)) (by decide) (backOf (W := 1) (rm2_L2 l Z a0 hw [] b202 b193 k193 x103 x107 cs1 fm h202 n0 (Nat.le_trans Z0 K203.1) f207 G F202_coder F202_value A202 f206 (Ne.symm ne_b193_b202) ge_b202 hL.1 hL.2) hZ (own_w hw 11 rfl) (own_w hw 8 rfl) (by decide) (by decide)) (g := (mkF m 149 #[.val (.int p1), .val (.int p2), .val (.int p3), .val (.int p4), .val (.int p5), .val (.int (2 : Int32)), .val (.int x103), .val (.int x107), .val (.int x111), .val (.int x115), .val (.ref b193), .unset, .unset] [(.ref b193), (.ref b202), (.ref b202)])) rfl (by rw [hml]; rfl) (Steps.refl _) (a := b202) (argsL := [(.ref b193)]) (rest := [(.ref b202)]) (lenOf pd17 rfl) rfl (by show 2 * 0 + _ ≤ _; exact Nat.le_of_eq rfl) (hb hby at_149) (fun _ _ => ⟨rfl, e202, (by decide : 2 + 1 ≤ _), (by decide : 6 + 2 ≤ _)⟩)
   dsimp only [Pt.U, Pt.locs, Pt.cells, Pt.slots] at X208 l208 y208 z208 st208 hQ208
   subst l208 y208 z208
   obtain ⟨x209, x210, rfl, N208q, q208_K, q208_E, q208_c, q208_v, q208_g, q208_z, q208_V, q208_n⟩ := hQ208
   have N208 := Fr.app N199 N208q
   have K211 : Keep h0 T208.heap [] := K203.trans q208_K (allS (Or.inr sz_b202) all0)
   have ne_b193_x209 : b193 ≠ x209 := Nat.ne_of_lt (Nat.lt_of_lt_of_le f206.lt q208_z)
   have ne_b202_x209 : b202 ≠ x209 := Nat.ne_of_lt (Nat.lt_of_lt_of_le A202.lt q208_z)
   have p212 : Go p.tables e below _ (T208.setTop (mkF m 162 #[.val (.int p1), .val (.int p2), .val (.int p3), .val (.int p4), .val (.int p5), .val (.int (2 : Int32)), .val (.int x103), .val (.int x107), .val (.int x111), .val (.int x115), .val (.ref b193), .val (.ref b202), .unset] [(.int x103)])) := fun t_ k_ => (gcT p204 st208) t_ (by
    refine XS.astore X208.here hx rfl (hb hby at_152) rfl rfl (l' := #[.val (.int p1), .val (.int p2), .val (.int p3), .val (.int p4), .val (.int p5), .val (.int (2 : Int32)), .val (.int x103), .val (.int x107), .val (.int x111), .val (.int x115), .val (.ref b193), .val (.ref b202), .unset]) rfl ?_
    refine XS.iload X208.here hx rfl (hb hby at_154) rfl ?_
    refine XS.iconst X208.here hx rfl (hb hby at_156) ?_
    refine XS.icmpNo X208.here hx rfl (hb hby at_157) rfl (flt (by decide : ¬ ((2 : Int32) < (1 : Int32)))).1 ?_
    refine XS.iload X208.here hx rfl (hb hby at_160) rfl ?_
    exact k_)
   obtain ⟨_, _, ⟨T213, L213, k213, n213⟩, -, X213, ⟨Lc213, hQ213, l213, y213, z213⟩, st213⟩ := Jvm.LawKit.callS X208 hx (y := (⟨"com/example/kuusi/kuusi/core/LineScannerIsBlankPinLaw", "bl", "(C)Z"⟩ : MethodName)) hown (mvT hZ (own_w hw 52 rfl)) (mvT hZ (own_w hw 53 rfl)) (mvT hZ (own_w hw 3 rfl)) (mvT hZ (own_w hw 54 rfl)) (by decide) (backOf (W := 0) (rm11 l Z a0 hw [] x103 T208.heap n0 (Nat.le_trans Z0 K211.1) ) hZ (own_w hw 54 rfl) (own_w hw 3 rfl) (by decide) (by decide)) (g := (mkF m 162 #[.val (.int p1), .val (.int p2), .val (.int p3), .val (.int p4), .val (.int p5), .val (.int (2 : Int32)), .val (.int x103), .val (.int x107), .val (.int x111), .val (.int x115), .val (.ref b193), .val (.ref b202), .unset] [(.int x103)])) rfl (by rw [hml]; rfl) (argsL := [(.int x103)]) (rest := []) (lenOf pd16 rfl) rfl (by show 2 * 0 + _ ≤ _; exact Nat.le_of_eq rfl) (hb hby at_162) (fun _ _ => ⟨rfl, rfl, (by decide : 3 + 0 ≤ _), (by decide : 8 + 0 ≤ _)⟩)
   dsimp only [Pt.U, Pt.locs, Pt.cells, Pt.slots] at X213 l213 y213 z213 st213 hQ213
   subst l213 y213 z213
   obtain ⟨rfl, N213q, q213_hh⟩ := hQ213
   have N213 := Fr.app N208 N213q
   obtain ⟨T225, L225, X225, e225, N225, p225⟩ : ∃ (T' : State) (L' : List Loc), Stand p l e room_1 s m #[(.int p1), (.int p2), (.int p3), (.int p4), (.int p5)] below meth c T' L' 3 8 ∧ T'.heap = T208.heap ∧ Fr n0 L' ∧ Go p.tables e below (s₁.setTop (entryFrame m #[(.int p1), (.int p2), (.int p3), (.int p4), (.int p5)] maxLocals)) (T'.setTop (mkF m 215 #[.val (.int p1), .val (.int p2), .val (.int p3), .val (.int p4), .val (.int p5), .val (.int (2 : Int32)), .val (.int x103), .val (.int x107), .val (.int x111), .val (.int x115), .val (.ref b193), .val (.ref b202), .unset] [(.int (if (own_bl x103) = (0 : Int32) then (0 : Int32) else (if (own_bl x107) = (0 : Int32) then (0 : Int32) else (1 : Int32))))])) := by
    by_cases c214 : (own_bl x103) = (0 : Int32)
    ·have p215 : Go p.tables e below _ (T213.setTop (mkF m 214 #[.val (.int p1), .val (.int p2), .val (.int p3), .val (.int p4), .val (.int p5), .val (.int (2 : Int32)), .val (.int x103), .val (.int x107), .val (.int x111), .val (.int x115), .val (.ref b193), .val (.ref b202), .unset] [])) := fun t_ k_ => (gc p212 st213) t_ (by
      refine XS.ifYes X213.here hx rfl (pc0 := 165) (pc' := 214) rfl (hb hby at_165) rfl ((if0 _ _).trans (teq c214).1) (by decide) (by decide) ?_
      exact k_)
     have p216 : Go p.tables e below _ (T213.setTop (mkF m 215 #[.val (.int p1), .val (.int p2), .val (.int p3), .val (.int p4), .val (.int p5), .val (.int (2 : Int32)), .val (.int x103), .val (.int x107), .val (.int x111), .val (.int x115), .val (.ref b193), .val (.ref b202), .unset] [(.int (0 : Int32))])) := fun t_ k_ => p215 t_ (by
      refine XS.iconst X213.here hx rfl (hb hby at_214) ?_
      exact k_)
     exact ⟨_, _, X213, q213_hh, N213, by simp only [if_pos c214]; exact p216⟩
    ·have p217 : Go p.tables e below _ (T213.setTop (mkF m 168 #[.val (.int p1), .val (.int p2), .val (.int p3), .val (.int p4), .val (.int p5), .val (.int (2 : Int32)), .val (.int x103), .val (.int x107), .val (.int x111), .val (.int x115), .val (.ref b193), .val (.ref b202), .unset] [])) := fun t_ k_ => (gc p212 st213) t_ (by
      refine XS.ifNo X213.here hx rfl (hb hby at_165) rfl ((if0 _ _).trans (feq c214).1) ?_
      exact k_)
     have p218 : Go p.tables e below _ (T213.setTop (mkF m 176 #[.val (.int p1), .val (.int p2), .val (.int p3), .val (.int p4), .val (.int p5), .val (.int (2 : Int32)), .val (.int x103), .val (.int x107), .val (.int x111), .val (.int x115), .val (.ref b193), .val (.ref b202), .unset] [(.int x107)])) := fun t_ k_ => p217 t_ (by
      refine XS.iload X213.here hx rfl (hb hby at_168) rfl ?_
      refine XS.iconst X213.here hx rfl (hb hby at_170) ?_
      refine XS.icmpNo X213.here hx rfl (hb hby at_171) rfl (flt (by decide : ¬ ((2 : Int32) < (2 : Int32)))).1 ?_
      refine XS.iload X213.here hx rfl (hb hby at_174) rfl ?_
      exact k_)
     obtain ⟨_, _, ⟨T219, L219, k219, n219⟩, -, X219, ⟨Lc219, hQ219, l219, y219, z219⟩, st219⟩ := Jvm.LawKit.callS X213 hx (y := (⟨"com/example/kuusi/kuusi/core/LineScannerIsBlankPinLaw", "bl", "(C)Z"⟩ : MethodName)) hown (mvT hZ (own_w hw 52 rfl)) (mvT hZ (own_w hw 53 rfl)) (mvT hZ (own_w hw 3 rfl)) (mvT hZ (own_w hw 54 rfl)) (by decide) (backOf (W := 0) (rm11 l Z a0 hw [] x107 T208.heap n0 (Nat.le_trans Z0 K211.1) ) hZ (own_w hw 54 rfl) (own_w hw 3 rfl) (by decide) (by decide)) (g := (mkF m 176 #[.val (.int p1), .val (.int p2), .val (.int p3), .val (.int p4), .val (.int p5), .val (.int (2 : Int32)), .val (.int x103), .val (.int x107), .val (.int x111), .val (.int x115), .val (.ref b193), .val (.ref b202), .unset] [(.int x107)])) rfl (by rw [hml]; rfl) (argsL := [(.int x107)]) (rest := []) (lenOf pd16 rfl) rfl (by show 2 * 0 + _ ≤ _; exact Nat.le_of_eq rfl) (hb hby at_176) (fun _ _ => ⟨rfl, q213_hh, (by decide : 3 + 0 ≤ _), (by decide : 8 + 0 ≤ _)⟩)
     dsimp only [Pt.U, Pt.locs, Pt.cells, Pt.slots] at X219 l219 y219 z219 st219 hQ219
     subst l219 y219 z219
     obtain ⟨rfl, N219q, q219_hh⟩ := hQ219
     have N219 := Fr.app N213 N219q
     by_cases c220 : (own_bl x107) = (0 : Int32)
     ·have p221 : Go p.tables e below _ (T219.setTop (mkF m 214 #[.val (.int p1), .val (.int p2), .val (.int p3), .val (.int p4), .val (.int p5), .val (.int (2 : Int32)), .val (.int x103), .val (.int x107), .val (.int x111), .val (.int x115), .val (.ref b193), .val (.ref b202), .unset] [])) := fun t_ k_ => (gc p218 st219) t_ (by
       refine XS.ifYes X219.here hx rfl (pc0 := 179) (pc' := 214) rfl (hb hby at_179) rfl ((if0 _ _).trans (teq c220).1) (by decide) (by decide) ?_
       exact k_)
      have p222 : Go p.tables e below _ (T219.setTop (mkF m 215 #[.val (.int p1), .val (.int p2), .val (.int p3), .val (.int p4), .val (.int p5), .val (.int (2 : Int32)), .val (.int x103), .val (.int x107), .val (.int x111), .val (.int x115), .val (.ref b193), .val (.ref b202), .unset] [(.int (0 : Int32))])) := fun t_ k_ => p221 t_ (by
       refine XS.iconst X219.here hx rfl (hb hby at_214) ?_
       exact k_)
      exact ⟨_, _, X219, q219_hh, N219, by simp only [if_neg c214, if_pos c220]; exact p222⟩
     ·have p223 : Go p.tables e below _ (T219.setTop (mkF m 182 #[.val (.int p1), .val (.int p2), .val (.int p3), .val (.int p4), .val (.int p5), .val (.int (2 : Int32)), .val (.int x103), .val (.int x107), .val (.int x111), .val (.int x115), .val (.ref b193), .val (.ref b202), .unset] [])) := fun t_ k_ => (gc p218 st219) t_ (by
       refine XS.ifNo X219.here hx rfl (hb hby at_179) rfl ((if0 _ _).trans (feq c220).1) ?_
       exact k_)
      have p224 : Go p.tables e below _ (T219.setTop (mkF m 215 #[.val (.int p1), .val (.int p2), .val (.int p3), .val (.int p4), .val (.int p5), .val (.int (2 : Int32)), .val (.int x103), .val (.int x107), .val (.int x111), .val (.int x115), .val (.ref b193), .val (.ref b202), .unset] [(.int (1 : Int32))])) := fun t_ k_ => p223 t_ (by
       refine XS.iload X219.here hx rfl (hb hby at_182) rfl ?_
       refine XS.iconst X219.here hx rfl (hb hby at_184) ?_
       refine XS.icmpYes X219.here hx rfl (pc0 := 185) (pc' := 196) rfl (hb hby at_185) rfl (tlt (by decide : ((2 : Int32) < (3 : Int32)))).1 (by decide) (by decide) ?_
       refine XS.iload X219.here hx rfl (hb hby at_196) rfl ?_
       refine XS.iconst X219.here hx rfl (hb hby at_198) ?_
       refine XS.icmpYes X219.here hx rfl (pc0 := 199) (pc' := 210) rfl (hb hby at_199) rfl (tlt (by decide : ((2 : Int32) < (4 : Int32)))).1 (by decide) (by decide) ?_
       refine XS.iconst X219.here hx rfl (hb hby at_210) ?_
       refine XS.goto X219.here hx rfl (pc0 := 211) (pc' := 215) rfl (hb hby at_211) (by decide) (by decide) ?_
       exact k_)
      exact ⟨_, _, X219, q219_hh, N219, by simp only [if_neg c214, if_neg c220]; exact p224⟩
   obtain ⟨ex, hex⟩ : ∃ z, z = (if (own_bl x103) = (0 : Int32) then (0 : Int32) else (if (own_bl x107) = (0 : Int32) then (0 : Int32) else (1 : Int32))) := ⟨_, rfl⟩
   have p226 : Go p.tables e below (s₁.setTop (entryFrame m #[(.int p1), (.int p2), (.int p3), (.int p4), (.int p5)] maxLocals)) (T225.setTop (mkF m 215 #[.val (.int p1), .val (.int p2), .val (.int p3), .val (.int p4), .val (.int p5), .val (.int (2 : Int32)), .val (.int x103), .val (.int x107), .val (.int x111), .val (.int x115), .val (.ref b193), .val (.ref b202), .unset] [(.int ex)])) := by rw [hex]; exact p225
   have p227 : Go p.tables e below _ (T225.setTop (mkF m 219 #[.val (.int p1), .val (.int p2), .val (.int p3), .val (.int p4), .val (.int p5), .val (.int (2 : Int32)), .val (.int x103), .val (.int x107), .val (.int x111), .val (.int x115), .val (.ref b193), .val (.ref b202), .val (.int ex)] [(.ref b202)])) := fun t_ k_ => p226 t_ (by
    refine XS.istore X225.here hx rfl (hb hby at_215) rfl (l' := #[.val (.int p1), .val (.int p2), .val (.int p3), .val (.int p4), .val (.int p5), .val (.int (2 : Int32)), .val (.int x103), .val (.int x107), .val (.int x111), .val (.int x115), .val (.ref b193), .val (.ref b202), .val (.int ex)]) rfl ?_
    refine XS.aload X225.here hx rfl (hb hby at_217) rfl rfl ?_
    exact k_)
   have RAp : ∀ i, i < 2 → ¬ (own_at [x103, x107] i < (0 : Int32)) := by
    intro i hi
    rcases (by omega : i = 0 ∨ i = 1) with rfl | rfl
    ·exact ra0
    ·exact ra1
   have HBp : ∀ i, i < 2 → ∃ b : Int32, ([(.int (own_xl x103)), (.int (own_xl x107))] : List Value).getD ((Int32.ofNat i)).toNatClampNeg (.int (0 : Int32)) = .int b ∧ own_c8 b = own_at [x103, x107] i := by
    intro i hi
    rcases (by omega : i = 0 ∨ i = 1) with rfl | rfl
    ·exact ⟨_, rfl, own_l8 _ ra0 hL.1⟩
    ·exact ⟨_, rfl, own_l8 _ ra1 hL.2⟩
   have f228 := (f207.keep q208_K (allS ge_b202 all0))
   obtain ⟨_, _, ⟨T229, L229, k229, n229⟩, -, X229, ⟨Lc229, hQ229, l229, y229, z229⟩, st229⟩ := Jvm.LawKit.callS X225 hx (y := (⟨"com/example/kuusi/kuusi/core/LineScanner", "isBlank", "(Ljava/lang/String;)Z"⟩ : MethodName)) hown (mvT hZ (own_w hw 27 rfl)) (mvT hZ (own_w hw 28 rfl)) (mvT hZ (own_w hw 29 rfl)) (mvT hZ (own_w hw 30 rfl)) (by decide) (backOf (W := 0) (rm5_0 l Z a0 hw [] b202 x209 x210 (2 : Int32) [(.int (own_xl x103)), (.int (own_xl x107))] [x103, x107] 2 ab kab vsb cs1 fm T208.heap n0 (Nat.le_trans Z0 K211.1) f228 G AS AV HT q208_E q208_c q208_v q208_V (by decide) (by decide) RAp HBp rfl) hZ (own_w hw 30 rfl) (own_w hw 29 rfl) (by decide) (by decide)) (g := (mkF m 219 #[.val (.int p1), .val (.int p2), .val (.int p3), .val (.int p4), .val (.int p5), .val (.int (2 : Int32)), .val (.int x103), .val (.int x107), .val (.int x111), .val (.int x115), .val (.ref b193), .val (.ref b202), .val (.int ex)] [(.ref b202)])) rfl (by rw [hml]; rfl) (argsL := [(.ref b202)]) (rest := []) (lenOf pd18 rfl) rfl (by show 2 * 0 + _ ≤ _; exact Nat.le_of_eq rfl) (hb hby at_219) (fun _ _ => ⟨rfl, e225, (by decide : 3 + 0 ≤ _), (by decide : 8 + 0 ≤ _)⟩)
   dsimp only [Pt.U, Pt.locs, Pt.cells, Pt.slots] at X229 l229 y229 z229 st229 hQ229
   subst l229 y229 z229
   obtain ⟨rfl, N229q, q229_hh⟩ := hQ229
   have N229 := Fr.app N225 N229q
   have p230 : Go p.tables e below _ (T229.setTop (mkF m 224 #[.val (.int p1), .val (.int p2), .val (.int p3), .val (.int p4), .val (.int p5), .val (.int (2 : Int32)), .val (.int x103), .val (.int x107), .val (.int x111), .val (.int x115), .val (.ref b193), .val (.ref b202), .val (.int ex)] [(.int ex), (.int (own_ac [x103, x107] 2))])) := fun t_ k_ => (gc p227 st229) t_ (by
    refine XS.iload X229.here hx rfl (hb hby at_222) rfl ?_
    exact k_)
   have c231 : ((own_ac [x103, x107] 2) = ex) := by rw [hex]; exact own_ac2 x103 x107
   have p232 : Go p.tables e below _ (T229.setTop (mkF m 232 #[.val (.int p1), .val (.int p2), .val (.int p3), .val (.int p4), .val (.int p5), .val (.int (2 : Int32)), .val (.int x103), .val (.int x107), .val (.int x111), .val (.int x115), .val (.ref b193), .val (.ref b202), .val (.int ex)] [(.int (1 : Int32))])) := fun t_ k_ => p230 t_ (by
    refine XS.icmpNo X229.here hx rfl (hb hby at_224) rfl (teq c231).2 ?_
    refine XS.iconst X229.here hx rfl (hb hby at_227) ?_
    refine XS.goto X229.here hx rfl (pc0 := 228) (pc' := 232) rfl (hb hby at_228) (by decide) (by decide) ?_
    exact k_)
   obtain ⟨fs, hr, hrun, hended, hW, hsame⟩ := X229.leave (v := some (.int (1 : Int32))) (fun h => by rw [Bd.returns] at h; cases h)
   refine ⟨_, _, p232 _ (retN X229 hx (t := .boolean) Bd.returns (by simp) (hb hby at_232) hr), hrun, hended, _, _, rfl, ?_, ReturnedEndW.of_narrow ⟨_, rfl⟩ hW (hsame.mono (by decide) (by decide))⟩
   show Q0 Z p1 p2 p3 p4 p5 ab kab vsb cs1 fm h0 n0 _ T229.heap _
   rw [q229_hh]
   exact ⟨rfl, N229⟩
  ·have big : ((255 : Int32) < x103) ∨ ((255 : Int32) < x107) := by
    refine Classical.byContradiction fun q => hL ⟨fun z => q (Or.inl z), fun z => q (Or.inr (z))⟩
   have f233 := ((((O1.ext E193).wr W196 ge_b193).wr W199 ge_b193).ext E202)
   obtain ⟨_, _, ⟨T234, L234, k234, n234⟩, -, X234, ⟨Lc234, hQ234, l234, y234, z234⟩, st234⟩ := X202.specialBack hx (y := (⟨"java/lang/String", "<init>", "([C)V"⟩ : MethodName)) rfl hown (mvT hZ (own_w hw 9 rfl)) (mvT hZ (own_w hw 10 rfl)) (mvT hZ (own_w hw 11 rfl)) (by decide) (backOf (W := 1) (rm2_U2 l Z a0 hw [] b202 b193 k193 x103 x107 cs1 fm h202 n0 (Nat.le_trans Z0 K203.1) f233 G F202_coder F202_value A202 f206 (Ne.symm ne_b193_b202) ge_b202 ra0 rb0 ra1 rb1 big) hZ (own_w hw 11 rfl) (own_w hw 8 rfl) (by decide) (by decide)) (g := (mkF m 149 #[.val (.int p1), .val (.int p2), .val (.int p3), .val (.int p4), .val (.int p5), .val (.int (2 : Int32)), .val (.int x103), .val (.int x107), .val (.int x111), .val (.int x115), .val (.ref b193), .unset, .unset] [(.ref b193), (.ref b202), (.ref b202)])) rfl (by rw [hml]; rfl) (Steps.refl _) (a := b202) (argsL := [(.ref b193)]) (rest := [(.ref b202)]) (lenOf pd17 rfl) rfl (by show 2 * 0 + _ ≤ _; exact Nat.le_of_eq rfl) (hb hby at_149) (fun _ _ => ⟨rfl, e202, (by decide : 2 + 2 ≤ _), (by decide : 6 + 6 ≤ _)⟩)
   dsimp only [Pt.U, Pt.locs, Pt.cells, Pt.slots] at X234 l234 y234 z234 st234 hQ234
   subst l234 y234 z234
   obtain ⟨x235, x236, rfl, N234q, q234_K, q234_E, q234_c, q234_v, q234_g, q234_z, q234_V, q234_n⟩ := hQ234
   have N234 := Fr.app N199 N234q
   have K237 : Keep h0 T234.heap [] := K203.trans q234_K (allS (Or.inr sz_b202) all0)
   have ne_b193_x235 : b193 ≠ x235 := Nat.ne_of_lt (Nat.lt_of_lt_of_le f206.lt q234_z)
   have ne_b202_x235 : b202 ≠ x235 := Nat.ne_of_lt (Nat.lt_of_lt_of_le A202.lt q234_z)
   have p238 : Go p.tables e below _ (T234.setTop (mkF m 162 #[.val (.int p1), .val (.int p2), .val (.int p3), .val (.int p4), .val (.int p5), .val (.int (2 : Int32)), .val (.int x103), .val (.int x107), .val (.int x111), .val (.int x115), .val (.ref b193), .val (.ref b202), .unset] [(.int x103)])) := fun t_ k_ => (gcT p204 st234) t_ (by
    refine XS.astore X234.here hx rfl (hb hby at_152) rfl rfl (l' := #[.val (.int p1), .val (.int p2), .val (.int p3), .val (.int p4), .val (.int p5), .val (.int (2 : Int32)), .val (.int x103), .val (.int x107), .val (.int x111), .val (.int x115), .val (.ref b193), .val (.ref b202), .unset]) rfl ?_
    refine XS.iload X234.here hx rfl (hb hby at_154) rfl ?_
    refine XS.iconst X234.here hx rfl (hb hby at_156) ?_
    refine XS.icmpNo X234.here hx rfl (hb hby at_157) rfl (flt (by decide : ¬ ((2 : Int32) < (1 : Int32)))).1 ?_
    refine XS.iload X234.here hx rfl (hb hby at_160) rfl ?_
    exact k_)
   obtain ⟨_, _, ⟨T239, L239, k239, n239⟩, -, X239, ⟨Lc239, hQ239, l239, y239, z239⟩, st239⟩ := Jvm.LawKit.callS X234 hx (y := (⟨"com/example/kuusi/kuusi/core/LineScannerIsBlankPinLaw", "bl", "(C)Z"⟩ : MethodName)) hown (mvT hZ (own_w hw 52 rfl)) (mvT hZ (own_w hw 53 rfl)) (mvT hZ (own_w hw 3 rfl)) (mvT hZ (own_w hw 54 rfl)) (by decide) (backOf (W := 0) (rm11 l Z a0 hw [] x103 T234.heap n0 (Nat.le_trans Z0 K237.1) ) hZ (own_w hw 54 rfl) (own_w hw 3 rfl) (by decide) (by decide)) (g := (mkF m 162 #[.val (.int p1), .val (.int p2), .val (.int p3), .val (.int p4), .val (.int p5), .val (.int (2 : Int32)), .val (.int x103), .val (.int x107), .val (.int x111), .val (.int x115), .val (.ref b193), .val (.ref b202), .unset] [(.int x103)])) rfl (by rw [hml]; rfl) (argsL := [(.int x103)]) (rest := []) (lenOf pd16 rfl) rfl (by show 2 * 0 + _ ≤ _; exact Nat.le_of_eq rfl) (hb hby at_162) (fun _ _ => ⟨rfl, rfl, (by decide : 4 + 0 ≤ _), (by decide : 12 + 0 ≤ _)⟩)
   dsimp only [Pt.U, Pt.locs, Pt.cells, Pt.slots] at X239 l239 y239 z239 st239 hQ239
   subst l239 y239 z239
   obtain ⟨rfl, N239q, q239_hh⟩ := hQ239
   have N239 := Fr.app N234 N239q
   obtain ⟨T251, L251, X251, e251, N251, p251⟩ : ∃ (T' : State) (L' : List Loc), Stand p l e room_1 s m #[(.int p1), (.int p2), (.int p3), (.int p4), (.int p5)] below meth c T' L' 4 12 ∧ T'.heap = T234.heap ∧ Fr n0 L' ∧ Go p.tables e below (s₁.setTop (entryFrame m #[(.int p1), (.int p2), (.int p3), (.int p4), (.int p5)] maxLocals)) (T'.setTop (mkF m 215 #[.val (.int p1), .val (.int p2), .val (.int p3), .val (.int p4), .val (.int p5), .val (.int (2 : Int32)), .val (.int x103), .val (.int x107), .val (.int x111), .val (.int x115), .val (.ref b193), .val (.ref b202), .unset] [(.int (if (own_bl x103) = (0 : Int32) then (0 : Int32) else (if (own_bl x107) = (0 : Int32) then (0 : Int32) else (1 : Int32))))])) := by
    by_cases c240 : (own_bl x103) = (0 : Int32)
    ·have p241 : Go p.tables e below _ (T239.setTop (mkF m 214 #[.val (.int p1), .val (.int p2), .val (.int p3), .val (.int p4), .val (.int p5), .val (.int (2 : Int32)), .val (.int x103), .val (.int x107), .val (.int x111), .val (.int x115), .val (.ref b193), .val (.ref b202), .unset] [])) := fun t_ k_ => (gc p238 st239) t_ (by
      refine XS.ifYes X239.here hx rfl (pc0 := 165) (pc' := 214) rfl (hb hby at_165) rfl ((if0 _ _).trans (teq c240).1) (by decide) (by decide) ?_
      exact k_)
     have p242 : Go p.tables e below _ (T239.setTop (mkF m 215 #[.val (.int p1), .val (.int p2), .val (.int p3), .val (.int p4), .val (.int p5), .val (.int (2 : Int32)), .val (.int x103), .val (.int x107), .val (.int x111), .val (.int x115), .val (.ref b193), .val (.ref b202), .unset] [(.int (0 : Int32))])) := fun t_ k_ => p241 t_ (by
      refine XS.iconst X239.here hx rfl (hb hby at_214) ?_
      exact k_)
     exact ⟨_, _, X239, q239_hh, N239, by simp only [if_pos c240]; exact p242⟩
    ·have p243 : Go p.tables e below _ (T239.setTop (mkF m 168 #[.val (.int p1), .val (.int p2), .val (.int p3), .val (.int p4), .val (.int p5), .val (.int (2 : Int32)), .val (.int x103), .val (.int x107), .val (.int x111), .val (.int x115), .val (.ref b193), .val (.ref b202), .unset] [])) := fun t_ k_ => (gc p238 st239) t_ (by
      refine XS.ifNo X239.here hx rfl (hb hby at_165) rfl ((if0 _ _).trans (feq c240).1) ?_
      exact k_)
     have p244 : Go p.tables e below _ (T239.setTop (mkF m 176 #[.val (.int p1), .val (.int p2), .val (.int p3), .val (.int p4), .val (.int p5), .val (.int (2 : Int32)), .val (.int x103), .val (.int x107), .val (.int x111), .val (.int x115), .val (.ref b193), .val (.ref b202), .unset] [(.int x107)])) := fun t_ k_ => p243 t_ (by
      refine XS.iload X239.here hx rfl (hb hby at_168) rfl ?_
      refine XS.iconst X239.here hx rfl (hb hby at_170) ?_
      refine XS.icmpNo X239.here hx rfl (hb hby at_171) rfl (flt (by decide : ¬ ((2 : Int32) < (2 : Int32)))).1 ?_
      refine XS.iload X239.here hx rfl (hb hby at_174) rfl ?_
      exact k_)
     obtain ⟨_, _, ⟨T245, L245, k245, n245⟩, -, X245, ⟨Lc245, hQ245, l245, y245, z245⟩, st245⟩ := Jvm.LawKit.callS X239 hx (y := (⟨"com/example/kuusi/kuusi/core/LineScannerIsBlankPinLaw", "bl", "(C)Z"⟩ : MethodName)) hown (mvT hZ (own_w hw 52 rfl)) (mvT hZ (own_w hw 53 rfl)) (mvT hZ (own_w hw 3 rfl)) (mvT hZ (own_w hw 54 rfl)) (by decide) (backOf (W := 0) (rm11 l Z a0 hw [] x107 T234.heap n0 (Nat.le_trans Z0 K237.1) ) hZ (own_w hw 54 rfl) (own_w hw 3 rfl) (by decide) (by decide)) (g := (mkF m 176 #[.val (.int p1), .val (.int p2), .val (.int p3), .val (.int p4), .val (.int p5), .val (.int (2 : Int32)), .val (.int x103), .val (.int x107), .val (.int x111), .val (.int x115), .val (.ref b193), .val (.ref b202), .unset] [(.int x107)])) rfl (by rw [hml]; rfl) (argsL := [(.int x107)]) (rest := []) (lenOf pd16 rfl) rfl (by show 2 * 0 + _ ≤ _; exact Nat.le_of_eq rfl) (hb hby at_176) (fun _ _ => ⟨rfl, q239_hh, (by decide : 4 + 0 ≤ _), (by decide : 12 + 0 ≤ _)⟩)
     dsimp only [Pt.U, Pt.locs, Pt.cells, Pt.slots] at X245 l245 y245 z245 st245 hQ245
     subst l245 y245 z245
     obtain ⟨rfl, N245q, q245_hh⟩ := hQ245
     have N245 := Fr.app N239 N245q
     by_cases c246 : (own_bl x107) = (0 : Int32)
     ·have p247 : Go p.tables e below _ (T245.setTop (mkF m 214 #[.val (.int p1), .val (.int p2), .val (.int p3), .val (.int p4), .val (.int p5), .val (.int (2 : Int32)), .val (.int x103), .val (.int x107), .val (.int x111), .val (.int x115), .val (.ref b193), .val (.ref b202), .unset] [])) := fun t_ k_ => (gc p244 st245) t_ (by
       refine XS.ifYes X245.here hx rfl (pc0 := 179) (pc' := 214) rfl (hb hby at_179) rfl ((if0 _ _).trans (teq c246).1) (by decide) (by decide) ?_
       exact k_)
      have p248 : Go p.tables e below _ (T245.setTop (mkF m 215 #[.val (.int p1), .val (.int p2), .val (.int p3), .val (.int p4), .val (.int p5), .val (.int (2 : Int32)), .val (.int x103), .val (.int x107), .val (.int x111), .val (.int x115), .val (.ref b193), .val (.ref b202), .unset] [(.int (0 : Int32))])) := fun t_ k_ => p247 t_ (by
       refine XS.iconst X245.here hx rfl (hb hby at_214) ?_
       exact k_)
      exact ⟨_, _, X245, q245_hh, N245, by simp only [if_neg c240, if_pos c246]; exact p248⟩
     ·have p249 : Go p.tables e below _ (T245.setTop (mkF m 182 #[.val (.int p1), .val (.int p2), .val (.int p3), .val (.int p4), .val (.int p5), .val (.int (2 : Int32)), .val (.int x103), .val (.int x107), .val (.int x111), .val (.int x115), .val (.ref b193), .val (.ref b202), .unset] [])) := fun t_ k_ => (gc p244 st245) t_ (by
       refine XS.ifNo X245.here hx rfl (hb hby at_179) rfl ((if0 _ _).trans (feq c246).1) ?_
       exact k_)
      have p250 : Go p.tables e below _ (T245.setTop (mkF m 215 #[.val (.int p1), .val (.int p2), .val (.int p3), .val (.int p4), .val (.int p5), .val (.int (2 : Int32)), .val (.int x103), .val (.int x107), .val (.int x111), .val (.int x115), .val (.ref b193), .val (.ref b202), .unset] [(.int (1 : Int32))])) := fun t_ k_ => p249 t_ (by
       refine XS.iload X245.here hx rfl (hb hby at_182) rfl ?_
       refine XS.iconst X245.here hx rfl (hb hby at_184) ?_
       refine XS.icmpYes X245.here hx rfl (pc0 := 185) (pc' := 196) rfl (hb hby at_185) rfl (tlt (by decide : ((2 : Int32) < (3 : Int32)))).1 (by decide) (by decide) ?_
       refine XS.iload X245.here hx rfl (hb hby at_196) rfl ?_
       refine XS.iconst X245.here hx rfl (hb hby at_198) ?_
       refine XS.icmpYes X245.here hx rfl (pc0 := 199) (pc' := 210) rfl (hb hby at_199) rfl (tlt (by decide : ((2 : Int32) < (4 : Int32)))).1 (by decide) (by decide) ?_
       refine XS.iconst X245.here hx rfl (hb hby at_210) ?_
       refine XS.goto X245.here hx rfl (pc0 := 211) (pc' := 215) rfl (hb hby at_211) (by decide) (by decide) ?_
       exact k_)
      exact ⟨_, _, X245, q245_hh, N245, by simp only [if_neg c240, if_neg c246]; exact p250⟩
   obtain ⟨ex, hex⟩ : ∃ z, z = (if (own_bl x103) = (0 : Int32) then (0 : Int32) else (if (own_bl x107) = (0 : Int32) then (0 : Int32) else (1 : Int32))) := ⟨_, rfl⟩
   have p252 : Go p.tables e below (s₁.setTop (entryFrame m #[(.int p1), (.int p2), (.int p3), (.int p4), (.int p5)] maxLocals)) (T251.setTop (mkF m 215 #[.val (.int p1), .val (.int p2), .val (.int p3), .val (.int p4), .val (.int p5), .val (.int (2 : Int32)), .val (.int x103), .val (.int x107), .val (.int x111), .val (.int x115), .val (.ref b193), .val (.ref b202), .unset] [(.int ex)])) := by rw [hex]; exact p251
   have p253 : Go p.tables e below _ (T251.setTop (mkF m 219 #[.val (.int p1), .val (.int p2), .val (.int p3), .val (.int p4), .val (.int p5), .val (.int (2 : Int32)), .val (.int x103), .val (.int x107), .val (.int x111), .val (.int x115), .val (.ref b193), .val (.ref b202), .val (.int ex)] [(.ref b202)])) := fun t_ k_ => p252 t_ (by
    refine XS.istore X251.here hx rfl (hb hby at_215) rfl (l' := #[.val (.int p1), .val (.int p2), .val (.int p3), .val (.int p4), .val (.int p5), .val (.int (2 : Int32)), .val (.int x103), .val (.int x107), .val (.int x111), .val (.int x115), .val (.ref b193), .val (.ref b202), .val (.int ex)]) rfl ?_
    refine XS.aload X251.here hx rfl (hb hby at_217) rfl rfl ?_
    exact k_)
   have RAp : ∀ i, i < 2 → ¬ (own_at [x103, x107] i < (0 : Int32)) := by
    intro i hi
    rcases (by omega : i = 0 ∨ i = 1) with rfl | rfl
    ·exact ra0
    ·exact ra1
   have HBp : ∀ i, i < 2 → ∃ b0 b1 : Int32, (¬ ((Int32.ofNat i) <<< (1 : Int32)) < 0 ∧ ((Int32.ofNat i) <<< (1 : Int32)) < (4 : Int32)) ∧ (¬ (((Int32.ofNat i) <<< (1 : Int32)) + (1 : Int32)) < 0 ∧ (((Int32.ofNat i) <<< (1 : Int32)) + (1 : Int32)) < (4 : Int32)) ∧ ([(.int (own_x0 x103)), (.int (own_x8 x103)), (.int (own_x0 x107)), (.int (own_x8 x107))] : List Value).getD (((Int32.ofNat i) <<< (1 : Int32))).toNatClampNeg (.int (0 : Int32)) = .int b0 ∧ ([(.int (own_x0 x103)), (.int (own_x8 x103)), (.int (own_x0 x107)), (.int (own_x8 x107))] : List Value).getD ((((Int32.ofNat i) <<< (1 : Int32)) + (1 : Int32))).toNatClampNeg (.int (0 : Int32)) = .int b1 ∧ own_c16 b0 b1 = own_at [x103, x107] i := by
    intro i hi
    rcases (by omega : i = 0 ∨ i = 1) with rfl | rfl
    ·exact ⟨_, _, by decide, by decide, rfl, rfl, own_l16 _ ra0 rb0⟩
    ·exact ⟨_, _, by decide, by decide, rfl, rfl, own_l16 _ ra1 rb1⟩
   have f254 := (f233.keep q234_K (allS ge_b202 all0))
   obtain ⟨_, _, ⟨T255, L255, k255, n255⟩, -, X255, ⟨Lc255, hQ255, l255, y255, z255⟩, st255⟩ := Jvm.LawKit.callS X251 hx (y := (⟨"com/example/kuusi/kuusi/core/LineScanner", "isBlank", "(Ljava/lang/String;)Z"⟩ : MethodName)) hown (mvT hZ (own_w hw 27 rfl)) (mvT hZ (own_w hw 28 rfl)) (mvT hZ (own_w hw 29 rfl)) (mvT hZ (own_w hw 30 rfl)) (by decide) (backOf (W := 0) (rm5_1 l Z a0 hw [] b202 x235 x236 (4 : Int32) [(.int (own_x0 x103)), (.int (own_x8 x103)), (.int (own_x0 x107)), (.int (own_x8 x107))] [x103, x107] 2 ab kab vsb cs1 fm T234.heap n0 (Nat.le_trans Z0 K237.1) f254 G AS AV HT q234_E q234_c q234_v q234_V (by decide) (by decide) RAp HBp) hZ (own_w hw 30 rfl) (own_w hw 29 rfl) (by decide) (by decide)) (g := (mkF m 219 #[.val (.int p1), .val (.int p2), .val (.int p3), .val (.int p4), .val (.int p5), .val (.int (2 : Int32)), .val (.int x103), .val (.int x107), .val (.int x111), .val (.int x115), .val (.ref b193), .val (.ref b202), .val (.int ex)] [(.ref b202)])) rfl (by rw [hml]; rfl) (argsL := [(.ref b202)]) (rest := []) (lenOf pd18 rfl) rfl (by show 2 * 0 + _ ≤ _; exact Nat.le_of_eq rfl) (hb hby at_219) (fun _ _ => ⟨rfl, e251, (by decide : 4 + 0 ≤ _), (by decide : 12 + 0 ≤ _)⟩)
   dsimp only [Pt.U, Pt.locs, Pt.cells, Pt.slots] at X255 l255 y255 z255 st255 hQ255
   subst l255 y255 z255
   obtain ⟨rfl, N255q, q255_hh⟩ := hQ255
   have N255 := Fr.app N251 N255q
   have p256 : Go p.tables e below _ (T255.setTop (mkF m 224 #[.val (.int p1), .val (.int p2), .val (.int p3), .val (.int p4), .val (.int p5), .val (.int (2 : Int32)), .val (.int x103), .val (.int x107), .val (.int x111), .val (.int x115), .val (.ref b193), .val (.ref b202), .val (.int ex)] [(.int ex), (.int (own_ac [x103, x107] 2))])) := fun t_ k_ => (gc p253 st255) t_ (by
    refine XS.iload X255.here hx rfl (hb hby at_222) rfl ?_
    exact k_)
   have c257 : ((own_ac [x103, x107] 2) = ex) := by rw [hex]; exact own_ac2 x103 x107
   have p258 : Go p.tables e below _ (T255.setTop (mkF m 232 #[.val (.int p1), .val (.int p2), .val (.int p3), .val (.int p4), .val (.int p5), .val (.int (2 : Int32)), .val (.int x103), .val (.int x107), .val (.int x111), .val (.int x115), .val (.ref b193), .val (.ref b202), .val (.int ex)] [(.int (1 : Int32))])) := fun t_ k_ => p256 t_ (by
    refine XS.icmpNo X255.here hx rfl (hb hby at_224) rfl (teq c257).2 ?_
    refine XS.iconst X255.here hx rfl (hb hby at_227) ?_
    refine XS.goto X255.here hx rfl (pc0 := 228) (pc' := 232) rfl (hb hby at_228) (by decide) (by decide) ?_
    exact k_)
   obtain ⟨fs, hr, hrun, hended, hW, hsame⟩ := X255.leave (v := some (.int (1 : Int32))) (fun h => by rw [Bd.returns] at h; cases h)
   refine ⟨_, _, p258 _ (retN X255 hx (t := .boolean) Bd.returns (by simp) (hb hby at_232) hr), hrun, hended, _, _, rfl, ?_, ReturnedEndW.of_narrow ⟨_, rfl⟩ hW (hsame.mono (by decide) (by decide))⟩
   show Q0 Z p1 p2 p3 p4 p5 ab kab vsb cs1 fm h0 n0 _ T255.heap _
   rw [q255_hh]
   exact ⟨rfl, N255⟩
 ·have p259 : Go p.tables e below (s₁.setTop (entryFrame m #[(.int p1), (.int p2), (.int p3), (.int p4), (.int p5)] maxLocals)) (T114.setTop (mkF m 33 #[.val (.int p1), .val (.int p2), .val (.int p3), .val (.int p4), .val (.int p5), .val (.int (3 : Int32)), .val (.int x103), .val (.int x107), .val (.int x111), .val (.int x115), .unset, .unset, .unset] [])) := by have z := p117; rw [ro] at z; exact z
  have p260 : Go p.tables e below _ (T114.setTop (mkF m 96 #[.val (.int p1), .val (.int p2), .val (.int p3), .val (.int p4), .val (.int p5), .val (.int (3 : Int32)), .val (.int x103), .val (.int x107), .val (.int x111), .val (.int x115), .unset, .unset, .unset] [(.int (3 : Int32))])) := fun t_ k_ => p259 t_ (by
   refine XS.iload X114.here hx rfl (hb hby at_33) rfl ?_
   refine XS.ifYes X114.here hx rfl (pc0 := 35) (pc' := 46) rfl (hb hby at_35) rfl ((if0 _ _).trans (feq (by decide : ¬ ((3 : Int32) = (0 : Int32)))).2) (by decide) (by decide) ?_
   refine XS.iload X114.here hx rfl (hb hby at_46) rfl ?_
   refine XS.iconst X114.here hx rfl (hb hby at_48) ?_
   refine XS.icmpYes X114.here hx rfl (pc0 := 49) (pc' := 65) rfl (hb hby at_49) rfl (feq (by decide : ¬ ((3 : Int32) = (1 : Int32)))).2 (by decide) (by decide) ?_
   refine XS.iload X114.here hx rfl (hb hby at_65) rfl ?_
   refine XS.iconst X114.here hx rfl (hb hby at_67) ?_
   refine XS.icmpYes X114.here hx rfl (pc0 := 68) (pc' := 89) rfl (hb hby at_68) rfl (feq (by decide : ¬ ((3 : Int32) = (2 : Int32)))).2 (by decide) (by decide) ?_
   refine XS.iload X114.here hx rfl (hb hby at_89) rfl ?_
   refine XS.iconst X114.here hx rfl (hb hby at_91) ?_
   refine XS.icmpNo X114.here hx rfl (hb hby at_92) rfl (teq (by decide : ((3 : Int32) = (3 : Int32)))).2 ?_
   refine XS.iconst X114.here hx rfl (hb hby at_95) ?_
   exact k_)
  obtain ⟨T261, h261, k261, X261, e261, E261, A261, st261⟩ := newP X114 hx hZ (own_w hw 5 rfl) q114_hh (g := (mkF m 96 #[.val (.int p1), .val (.int p2), .val (.int p3), .val (.int p4), .val (.int p5), .val (.int (3 : Int32)), .val (.int x103), .val (.int x107), .val (.int x111), .val (.int x115), .unset, .unset, .unset] [(.int (3 : Int32))])) rfl (hb hby at_96) rfl (by decide) (cap := 3) (by decide) (by decide) (by decide) (by decide)
  obtain ⟨b261, g261⟩ : ∃ z, z = h0.size := ⟨_, rfl⟩
  rw [← g261] at A261 st261
  have ge_b261 : n0 ≤ b261 := Nat.le_trans (Nat.le_trans Z0 (Keep.refl h0 []).1) (Nat.le_of_eq g261.symm)
  have sz_b261 : h0.size ≤ b261 := Nat.le_trans (Keep.refl h0 []).1 (Nat.le_of_eq g261.symm)
  have K262 : Keep h0 h261 [] := (Keep.refl h0 []).ext E261
  have V261 : Arv Z h261 b261 k261 .char (3 : Int32) [(.int (0 : Int32)), (.int (0 : Int32)), (.int (0 : Int32))] (.int (0 : Int32)) := (Arv.new A261 (by decide)).pad (pad_rep [] (.int (0 : Int32)) 3)
  have p263 : Go p.tables e below _ (T261.setTop (mkF m 102 #[.val (.int p1), .val (.int p2), .val (.int p3), .val (.int p4), .val (.int p5), .val (.int (3 : Int32)), .val (.int x103), .val (.int x107), .val (.int x111), .val (.int x115), .unset, .unset, .unset] [(.int x103), (.int (0 : Int32)), (.ref b261), (.ref b261)])) := fun t_ k_ => (gc p260 st261) t_ (by
   refine XS.dup X261.here hx rfl (hb hby at_98) rfl rfl ?_
   refine XS.iconst X261.here hx rfl (hb hby at_99) ?_
   refine XS.iload X261.here hx rfl (hb hby at_100) rfl ?_
   exact k_)
  obtain ⟨cl264, Ar264, q264, S264, Ng264, H264, G264⟩ := id V261
  have hin264 := inb_of S264 (j := (0 : Int32)) ⟨by decide, by decide⟩
  obtain ⟨T264, h264, X264, e264, W264, st264⟩ := stC X261 hx hZ e261 Ar264 (j := (0 : Int32)) hin264 (g := (mkF m 102 #[.val (.int p1), .val (.int p2), .val (.int p3), .val (.int p4), .val (.int p5), .val (.int (3 : Int32)), .val (.int x103), .val (.int x107), .val (.int x111), .val (.int x115), .unset, .unset, .unset] [(.int x103), (.int (0 : Int32)), (.ref b261), (.ref b261)])) rfl rfl (hb hby at_102)
  have K265 : Keep h0 h264 [] := K262.wr W264 (Or.inr sz_b261)
  have N264 := Fr.snoc X264 N114 ge_b261
  have V264 : Arv Z h264 b261 k261 .char (3 : Int32) [(.int (nar .char x103)), (.int (0 : Int32)), (.int (0 : Int32))] (.int (0 : Int32)) := Arv.set Ar264 q264 S264 Ng264 H264 G264 (fits_nar_char _) W264 0 rfl (Nat.le_of_ble_eq_true rfl)
  have p266 : Go p.tables e below _ (T264.setTop (mkF m 107 #[.val (.int p1), .val (.int p2), .val (.int p3), .val (.int p4), .val (.int p5), .val (.int (3 : Int32)), .val (.int x103), .val (.int x107), .val (.int x111), .val (.int x115), .unset, .unset, .unset] [(.int x107), (.int (1 : Int32)), (.ref b261), (.ref b261)])) := fun t_ k_ => (gc p263 st264) t_ (by
   refine XS.dup X264.here hx rfl (hb hby at_103) rfl rfl ?_
   refine XS.iconst X264.here hx rfl (hb hby at_104) ?_
   refine XS.iload X264.here hx rfl (hb hby at_105) rfl ?_
   exact k_)
  obtain ⟨cl267, Ar267, q267, S267, Ng267, H267, G267⟩ := id V264
  have hin267 := inb_of S267 (j := (1 : Int32)) ⟨by decide, by decide⟩
  obtain ⟨T267, h267, X267, e267, W267, st267⟩ := stC X264 hx hZ e264 Ar267 (j := (1 : Int32)) hin267 (g := (mkF m 107 #[.val (.int p1), .val (.int p2), .val (.int p3), .val (.int p4), .val (.int p5), .val (.int (3 : Int32)), .val (.int x103), .val (.int x107), .val (.int x111), .val (.int x115), .unset, .unset, .unset] [(.int x107), (.int (1 : Int32)), (.ref b261), (.ref b261)])) rfl rfl (hb hby at_107)
  have K268 : Keep h0 h267 [] := K265.wr W267 (Or.inr sz_b261)
  have N267 := Fr.snoc X267 N264 ge_b261
  have V267 : Arv Z h267 b261 k261 .char (3 : Int32) [(.int (nar .char x103)), (.int (nar .char x107)), (.int (0 : Int32))] (.int (0 : Int32)) := Arv.set Ar267 q267 S267 Ng267 H267 G267 (fits_nar_char _) W267 1 rfl (Nat.le_of_ble_eq_true rfl)
  have p269 : Go p.tables e below _ (T267.setTop (mkF m 112 #[.val (.int p1), .val (.int p2), .val (.int p3), .val (.int p4), .val (.int p5), .val (.int (3 : Int32)), .val (.int x103), .val (.int x107), .val (.int x111), .val (.int x115), .unset, .unset, .unset] [(.int x111), (.int (2 : Int32)), (.ref b261), (.ref b261)])) := fun t_ k_ => (gc p266 st267) t_ (by
   refine XS.dup X267.here hx rfl (hb hby at_108) rfl rfl ?_
   refine XS.iconst X267.here hx rfl (hb hby at_109) ?_
   refine XS.iload X267.here hx rfl (hb hby at_110) rfl ?_
   exact k_)
  obtain ⟨cl270, Ar270, q270, S270, Ng270, H270, G270⟩ := id V267
  have hin270 := inb_of S270 (j := (2 : Int32)) ⟨by decide, by decide⟩
  obtain ⟨T270, h270, X270, e270, W270, st270⟩ := stC X267 hx hZ e267 Ar270 (j := (2 : Int32)) hin270 (g := (mkF m 112 #[.val (.int p1), .val (.int p2), .val (.int p3), .val (.int p4), .val (.int p5), .val (.int (3 : Int32)), .val (.int x103), .val (.int x107), .val (.int x111), .val (.int x115), .unset, .unset, .unset] [(.int x111), (.int (2 : Int32)), (.ref b261), (.ref b261)])) rfl rfl (hb hby at_112)
  have K271 : Keep h0 h270 [] := K268.wr W270 (Or.inr sz_b261)
  have N270 := Fr.snoc X270 N267 ge_b261
  have V270 : Arv Z h270 b261 k261 .char (3 : Int32) [(.int (nar .char x103)), (.int (nar .char x107)), (.int (nar .char x111))] (.int (0 : Int32)) := Arv.set Ar270 q270 S270 Ng270 H270 G270 (fits_nar_char _) W270 2 rfl (Nat.le_of_ble_eq_true rfl)
  have p272 : Go p.tables e below _ (T270.setTop (mkF m 143 #[.val (.int p1), .val (.int p2), .val (.int p3), .val (.int p4), .val (.int p5), .val (.int (3 : Int32)), .val (.int x103), .val (.int x107), .val (.int x111), .val (.int x115), .val (.ref b261), .unset, .unset] [])) := fun t_ k_ => (gc p269 st270) t_ (by
   refine XS.astore X270.here hx rfl (hb hby at_113) rfl rfl (l' := #[.val (.int p1), .val (.int p2), .val (.int p3), .val (.int p4), .val (.int p5), .val (.int (3 : Int32)), .val (.int x103), .val (.int x107), .val (.int x111), .val (.int x115), .val (.ref b261), .unset, .unset]) rfl ?_
   refine XS.goto X270.here hx rfl (pc0 := 115) (pc' := 143) rfl (hb hby at_115) (by decide) (by decide) ?_
   exact k_)
  obtain ⟨T273, h273, X273, e273, E273, A273, D273, -, st273⟩ := newO X270 hx hZ hown (own_w hw 6 rfl) (own_w hw 7 rfl) (own_w hw 8 rfl) e270 (g := (mkF m 143 #[.val (.int p1), .val (.int p2), .val (.int p3), .val (.int p4), .val (.int p5), .val (.int (3 : Int32)), .val (.int x103), .val (.int x107), .val (.int x111), .val (.int x115), .val (.ref b261), .unset, .unset] [])) rfl (hb hby at_143) (by decide) (by decide)
  obtain ⟨b273, g273⟩ : ∃ z, z = h270.size := ⟨_, rfl⟩
  rw [← g273] at A273 D273 st273
  have ne_b261_b273 : b261 ≠ b273 := Nat.ne_of_lt (Nat.lt_of_lt_of_le V270.lt (Nat.le_of_eq g273.symm))
  have ge_b273 : n0 ≤ b273 := Nat.le_trans (Nat.le_trans Z0 K271.1) (Nat.le_of_eq g273.symm)
  have sz_b273 : h0.size ≤ b273 := Nat.le_trans K271.1 (Nat.le_of_eq g273.symm)
  have K274 : Keep h0 h273 [] := K271.ext E273
  have F273_value : Fld Z h273 b273 "java/lang/String" "value" "[B" .null := D273 (Or.inr (own_w hw 21 rfl)) (ty := (.array .byte)) (by decide)
  have F273_coder : Fld Z h273 b273 "java/lang/String" "coder" "B" (.int (0 : Int32)) := D273 (Or.inr (own_w hw 22 rfl)) (ty := .byte) (by decide)
  have p275 : Go p.tables e below _ (T273.setTop (mkF m 149 #[.val (.int p1), .val (.int p2), .val (.int p3), .val (.int p4), .val (.int p5), .val (.int (3 : Int32)), .val (.int x103), .val (.int x107), .val (.int x111), .val (.int x115), .val (.ref b261), .unset, .unset] [(.ref b261), (.ref b273), (.ref b273)])) := fun t_ k_ => (gc p272 st273) t_ (by
   refine XS.dup X273.here hx rfl (hb hby at_146) rfl rfl ?_
   refine XS.aload X273.here hx rfl (hb hby at_147) rfl rfl ?_
   exact k_)
  have f276 := (V270.ext E273)
  have f277 : Arv Z h273 b261 k261 .char (3 : Int32) [(.int x103), (.int x107), (.int x111)] (.int (0 : Int32)) := by have z := f276; rw [own_narc _ ra0 rb0, own_narc _ ra1 rb1, own_narc _ ra2 rb2] at z; exact z
  by_cases hL : ¬ ((255 : Int32) < x103) ∧ ¬ ((255 : Int32) < x107) ∧ ¬ ((255 : Int32) < x111)
  ·have hl := hL
   have f278 := (((((O1.ext E261).wr W264 ge_b261).wr W267 ge_b261).wr W270 ge_b261).ext E273)
   obtain ⟨_, _, ⟨T279, L279, k279, n279⟩, -, X279, ⟨Lc279, hQ279, l279, y279, z279⟩, st279⟩ := X273.specialBack hx (y := (⟨"java/lang/String", "<init>", "([C)V"⟩ : MethodName)) rfl hown (mvT hZ (own_w hw 9 rfl)) (mvT hZ (own_w hw 10 rfl)) (mvT hZ (own_w hw 11 rfl)) (by decide) (backOf (W := 1) (rm2_L3 l Z a0 hw [] b273 b261 k261 x103 x107 x111 cs1 fm h273 n0 (Nat.le_trans Z0 K274.1) f278 G F273_coder F273_value A273 f277 (Ne.symm ne_b261_b273) ge_b273 hL.1 hL.2.1 hL.2.2) hZ (own_w hw 11 rfl) (own_w hw 8 rfl) (by decide) (by decide)) (g := (mkF m 149 #[.val (.int p1), .val (.int p2), .val (.int p3), .val (.int p4), .val (.int p5), .val (.int (3 : Int32)), .val (.int x103), .val (.int x107), .val (.int x111), .val (.int x115), .val (.ref b261), .unset, .unset] [(.ref b261), (.ref b273), (.ref b273)])) rfl (by rw [hml]; rfl) (Steps.refl _) (a := b273) (argsL := [(.ref b261)]) (rest := [(.ref b273)]) (lenOf pd17 rfl) rfl (by show 2 * 0 + _ ≤ _; exact Nat.le_of_eq rfl) (hb hby at_149) (fun _ _ => ⟨rfl, e273, (by decide : 2 + 1 ≤ _), (by decide : 7 + 3 ≤ _)⟩)
   dsimp only [Pt.U, Pt.locs, Pt.cells, Pt.slots] at X279 l279 y279 z279 st279 hQ279
   subst l279 y279 z279
   obtain ⟨x280, x281, rfl, N279q, q279_K, q279_E, q279_c, q279_v, q279_g, q279_z, q279_V, q279_n⟩ := hQ279
   have N279 := Fr.app N270 N279q
   have K282 : Keep h0 T279.heap [] := K274.trans q279_K (allS (Or.inr sz_b273) all0)
   have ne_b261_x280 : b261 ≠ x280 := Nat.ne_of_lt (Nat.lt_of_lt_of_le f277.lt q279_z)
   have ne_b273_x280 : b273 ≠ x280 := Nat.ne_of_lt (Nat.lt_of_lt_of_le A273.lt q279_z)
   have p283 : Go p.tables e below _ (T279.setTop (mkF m 162 #[.val (.int p1), .val (.int p2), .val (.int p3), .val (.int p4), .val (.int p5), .val (.int (3 : Int32)), .val (.int x103), .val (.int x107), .val (.int x111), .val (.int x115), .val (.ref b261), .val (.ref b273), .unset] [(.int x103)])) := fun t_ k_ => (gcT p275 st279) t_ (by
    refine XS.astore X279.here hx rfl (hb hby at_152) rfl rfl (l' := #[.val (.int p1), .val (.int p2), .val (.int p3), .val (.int p4), .val (.int p5), .val (.int (3 : Int32)), .val (.int x103), .val (.int x107), .val (.int x111), .val (.int x115), .val (.ref b261), .val (.ref b273), .unset]) rfl ?_
    refine XS.iload X279.here hx rfl (hb hby at_154) rfl ?_
    refine XS.iconst X279.here hx rfl (hb hby at_156) ?_
    refine XS.icmpNo X279.here hx rfl (hb hby at_157) rfl (flt (by decide : ¬ ((3 : Int32) < (1 : Int32)))).1 ?_
    refine XS.iload X279.here hx rfl (hb hby at_160) rfl ?_
    exact k_)
   obtain ⟨_, _, ⟨T284, L284, k284, n284⟩, -, X284, ⟨Lc284, hQ284, l284, y284, z284⟩, st284⟩ := Jvm.LawKit.callS X279 hx (y := (⟨"com/example/kuusi/kuusi/core/LineScannerIsBlankPinLaw", "bl", "(C)Z"⟩ : MethodName)) hown (mvT hZ (own_w hw 52 rfl)) (mvT hZ (own_w hw 53 rfl)) (mvT hZ (own_w hw 3 rfl)) (mvT hZ (own_w hw 54 rfl)) (by decide) (backOf (W := 0) (rm11 l Z a0 hw [] x103 T279.heap n0 (Nat.le_trans Z0 K282.1) ) hZ (own_w hw 54 rfl) (own_w hw 3 rfl) (by decide) (by decide)) (g := (mkF m 162 #[.val (.int p1), .val (.int p2), .val (.int p3), .val (.int p4), .val (.int p5), .val (.int (3 : Int32)), .val (.int x103), .val (.int x107), .val (.int x111), .val (.int x115), .val (.ref b261), .val (.ref b273), .unset] [(.int x103)])) rfl (by rw [hml]; rfl) (argsL := [(.int x103)]) (rest := []) (lenOf pd16 rfl) rfl (by show 2 * 0 + _ ≤ _; exact Nat.le_of_eq rfl) (hb hby at_162) (fun _ _ => ⟨rfl, rfl, (by decide : 3 + 0 ≤ _), (by decide : 10 + 0 ≤ _)⟩)
   dsimp only [Pt.U, Pt.locs, Pt.cells, Pt.slots] at X284 l284 y284 z284 st284 hQ284
   subst l284 y284 z284
   obtain ⟨rfl, N284q, q284_hh⟩ := hQ284
   have N284 := Fr.app N279 N284q
   obtain ⟨T302, L302, X302, e302, N302, p302⟩ : ∃ (T' : State) (L' : List Loc), Stand p l e room_1 s m #[(.int p1), (.int p2), (.int p3), (.int p4), (.int p5)] below meth c T' L' 3 10 ∧ T'.heap = T279.heap ∧ Fr n0 L' ∧ Go p.tables e below (s₁.setTop (entryFrame m #[(.int p1), (.int p2), (.int p3), (.int p4), (.int p5)] maxLocals)) (T'.setTop (mkF m 215 #[.val (.int p1), .val (.int p2), .val (.int p3), .val (.int p4), .val (.int p5), .val (.int (3 : Int32)), .val (.int x103), .val (.int x107), .val (.int x111), .val (.int x115), .val (.ref b261), .val (.ref b273), .unset] [(.int (if (own_bl x103) = (0 : Int32) then (0 : Int32) else (if (own_bl x107) = (0 : Int32) then (0 : Int32) else (if (own_bl x111) = (0 : Int32) then (0 : Int32) else (1 : Int32)))))])) := by
    by_cases c285 : (own_bl x103) = (0 : Int32)
    ·have p286 : Go p.tables e below _ (T284.setTop (mkF m 214 #[.val (.int p1), .val (.int p2), .val (.int p3), .val (.int p4), .val (.int p5), .val (.int (3 : Int32)), .val (.int x103), .val (.int x107), .val (.int x111), .val (.int x115), .val (.ref b261), .val (.ref b273), .unset] [])) := fun t_ k_ => (gc p283 st284) t_ (by
      refine XS.ifYes X284.here hx rfl (pc0 := 165) (pc' := 214) rfl (hb hby at_165) rfl ((if0 _ _).trans (teq c285).1) (by decide) (by decide) ?_
      exact k_)
     have p287 : Go p.tables e below _ (T284.setTop (mkF m 215 #[.val (.int p1), .val (.int p2), .val (.int p3), .val (.int p4), .val (.int p5), .val (.int (3 : Int32)), .val (.int x103), .val (.int x107), .val (.int x111), .val (.int x115), .val (.ref b261), .val (.ref b273), .unset] [(.int (0 : Int32))])) := fun t_ k_ => p286 t_ (by
      refine XS.iconst X284.here hx rfl (hb hby at_214) ?_
      exact k_)
     exact ⟨_, _, X284, q284_hh, N284, by simp only [if_pos c285]; exact p287⟩
    ·have p288 : Go p.tables e below _ (T284.setTop (mkF m 168 #[.val (.int p1), .val (.int p2), .val (.int p3), .val (.int p4), .val (.int p5), .val (.int (3 : Int32)), .val (.int x103), .val (.int x107), .val (.int x111), .val (.int x115), .val (.ref b261), .val (.ref b273), .unset] [])) := fun t_ k_ => (gc p283 st284) t_ (by
      refine XS.ifNo X284.here hx rfl (hb hby at_165) rfl ((if0 _ _).trans (feq c285).1) ?_
      exact k_)
     have p289 : Go p.tables e below _ (T284.setTop (mkF m 176 #[.val (.int p1), .val (.int p2), .val (.int p3), .val (.int p4), .val (.int p5), .val (.int (3 : Int32)), .val (.int x103), .val (.int x107), .val (.int x111), .val (.int x115), .val (.ref b261), .val (.ref b273), .unset] [(.int x107)])) := fun t_ k_ => p288 t_ (by
      refine XS.iload X284.here hx rfl (hb hby at_168) rfl ?_
      refine XS.iconst X284.here hx rfl (hb hby at_170) ?_
      refine XS.icmpNo X284.here hx rfl (hb hby at_171) rfl (flt (by decide : ¬ ((3 : Int32) < (2 : Int32)))).1 ?_
      refine XS.iload X284.here hx rfl (hb hby at_174) rfl ?_
      exact k_)
     obtain ⟨_, _, ⟨T290, L290, k290, n290⟩, -, X290, ⟨Lc290, hQ290, l290, y290, z290⟩, st290⟩ := Jvm.LawKit.callS X284 hx (y := (⟨"com/example/kuusi/kuusi/core/LineScannerIsBlankPinLaw", "bl", "(C)Z"⟩ : MethodName)) hown (mvT hZ (own_w hw 52 rfl)) (mvT hZ (own_w hw 53 rfl)) (mvT hZ (own_w hw 3 rfl)) (mvT hZ (own_w hw 54 rfl)) (by decide) (backOf (W := 0) (rm11 l Z a0 hw [] x107 T279.heap n0 (Nat.le_trans Z0 K282.1) ) hZ (own_w hw 54 rfl) (own_w hw 3 rfl) (by decide) (by decide)) (g := (mkF m 176 #[.val (.int p1), .val (.int p2), .val (.int p3), .val (.int p4), .val (.int p5), .val (.int (3 : Int32)), .val (.int x103), .val (.int x107), .val (.int x111), .val (.int x115), .val (.ref b261), .val (.ref b273), .unset] [(.int x107)])) rfl (by rw [hml]; rfl) (argsL := [(.int x107)]) (rest := []) (lenOf pd16 rfl) rfl (by show 2 * 0 + _ ≤ _; exact Nat.le_of_eq rfl) (hb hby at_176) (fun _ _ => ⟨rfl, q284_hh, (by decide : 3 + 0 ≤ _), (by decide : 10 + 0 ≤ _)⟩)
     dsimp only [Pt.U, Pt.locs, Pt.cells, Pt.slots] at X290 l290 y290 z290 st290 hQ290
     subst l290 y290 z290
     obtain ⟨rfl, N290q, q290_hh⟩ := hQ290
     have N290 := Fr.app N284 N290q
     by_cases c291 : (own_bl x107) = (0 : Int32)
     ·have p292 : Go p.tables e below _ (T290.setTop (mkF m 214 #[.val (.int p1), .val (.int p2), .val (.int p3), .val (.int p4), .val (.int p5), .val (.int (3 : Int32)), .val (.int x103), .val (.int x107), .val (.int x111), .val (.int x115), .val (.ref b261), .val (.ref b273), .unset] [])) := fun t_ k_ => (gc p289 st290) t_ (by
       refine XS.ifYes X290.here hx rfl (pc0 := 179) (pc' := 214) rfl (hb hby at_179) rfl ((if0 _ _).trans (teq c291).1) (by decide) (by decide) ?_
       exact k_)
      have p293 : Go p.tables e below _ (T290.setTop (mkF m 215 #[.val (.int p1), .val (.int p2), .val (.int p3), .val (.int p4), .val (.int p5), .val (.int (3 : Int32)), .val (.int x103), .val (.int x107), .val (.int x111), .val (.int x115), .val (.ref b261), .val (.ref b273), .unset] [(.int (0 : Int32))])) := fun t_ k_ => p292 t_ (by
       refine XS.iconst X290.here hx rfl (hb hby at_214) ?_
       exact k_)
      exact ⟨_, _, X290, q290_hh, N290, by simp only [if_neg c285, if_pos c291]; exact p293⟩
     ·have p294 : Go p.tables e below _ (T290.setTop (mkF m 182 #[.val (.int p1), .val (.int p2), .val (.int p3), .val (.int p4), .val (.int p5), .val (.int (3 : Int32)), .val (.int x103), .val (.int x107), .val (.int x111), .val (.int x115), .val (.ref b261), .val (.ref b273), .unset] [])) := fun t_ k_ => (gc p289 st290) t_ (by
       refine XS.ifNo X290.here hx rfl (hb hby at_179) rfl ((if0 _ _).trans (feq c291).1) ?_
       exact k_)
      have p295 : Go p.tables e below _ (T290.setTop (mkF m 190 #[.val (.int p1), .val (.int p2), .val (.int p3), .val (.int p4), .val (.int p5), .val (.int (3 : Int32)), .val (.int x103), .val (.int x107), .val (.int x111), .val (.int x115), .val (.ref b261), .val (.ref b273), .unset] [(.int x111)])) := fun t_ k_ => p294 t_ (by
       refine XS.iload X290.here hx rfl (hb hby at_182) rfl ?_
       refine XS.iconst X290.here hx rfl (hb hby at_184) ?_
       refine XS.icmpNo X290.here hx rfl (hb hby at_185) rfl (flt (by decide : ¬ ((3 : Int32) < (3 : Int32)))).1 ?_
       refine XS.iload X290.here hx rfl (hb hby at_188) rfl ?_
       exact k_)
      obtain ⟨_, _, ⟨T296, L296, k296, n296⟩, -, X296, ⟨Lc296, hQ296, l296, y296, z296⟩, st296⟩ := Jvm.LawKit.callS X290 hx (y := (⟨"com/example/kuusi/kuusi/core/LineScannerIsBlankPinLaw", "bl", "(C)Z"⟩ : MethodName)) hown (mvT hZ (own_w hw 52 rfl)) (mvT hZ (own_w hw 53 rfl)) (mvT hZ (own_w hw 3 rfl)) (mvT hZ (own_w hw 54 rfl)) (by decide) (backOf (W := 0) (rm11 l Z a0 hw [] x111 T279.heap n0 (Nat.le_trans Z0 K282.1) ) hZ (own_w hw 54 rfl) (own_w hw 3 rfl) (by decide) (by decide)) (g := (mkF m 190 #[.val (.int p1), .val (.int p2), .val (.int p3), .val (.int p4), .val (.int p5), .val (.int (3 : Int32)), .val (.int x103), .val (.int x107), .val (.int x111), .val (.int x115), .val (.ref b261), .val (.ref b273), .unset] [(.int x111)])) rfl (by rw [hml]; rfl) (argsL := [(.int x111)]) (rest := []) (lenOf pd16 rfl) rfl (by show 2 * 0 + _ ≤ _; exact Nat.le_of_eq rfl) (hb hby at_190) (fun _ _ => ⟨rfl, q290_hh, (by decide : 3 + 0 ≤ _), (by decide : 10 + 0 ≤ _)⟩)
      dsimp only [Pt.U, Pt.locs, Pt.cells, Pt.slots] at X296 l296 y296 z296 st296 hQ296
      subst l296 y296 z296
      obtain ⟨rfl, N296q, q296_hh⟩ := hQ296
      have N296 := Fr.app N290 N296q
      by_cases c297 : (own_bl x111) = (0 : Int32)
      ·have p298 : Go p.tables e below _ (T296.setTop (mkF m 214 #[.val (.int p1), .val (.int p2), .val (.int p3), .val (.int p4), .val (.int p5), .val (.int (3 : Int32)), .val (.int x103), .val (.int x107), .val (.int x111), .val (.int x115), .val (.ref b261), .val (.ref b273), .unset] [])) := fun t_ k_ => (gc p295 st296) t_ (by
        refine XS.ifYes X296.here hx rfl (pc0 := 193) (pc' := 214) rfl (hb hby at_193) rfl ((if0 _ _).trans (teq c297).1) (by decide) (by decide) ?_
        exact k_)
       have p299 : Go p.tables e below _ (T296.setTop (mkF m 215 #[.val (.int p1), .val (.int p2), .val (.int p3), .val (.int p4), .val (.int p5), .val (.int (3 : Int32)), .val (.int x103), .val (.int x107), .val (.int x111), .val (.int x115), .val (.ref b261), .val (.ref b273), .unset] [(.int (0 : Int32))])) := fun t_ k_ => p298 t_ (by
        refine XS.iconst X296.here hx rfl (hb hby at_214) ?_
        exact k_)
       exact ⟨_, _, X296, q296_hh, N296, by simp only [if_neg c285, if_neg c291, if_pos c297]; exact p299⟩
      ·have p300 : Go p.tables e below _ (T296.setTop (mkF m 196 #[.val (.int p1), .val (.int p2), .val (.int p3), .val (.int p4), .val (.int p5), .val (.int (3 : Int32)), .val (.int x103), .val (.int x107), .val (.int x111), .val (.int x115), .val (.ref b261), .val (.ref b273), .unset] [])) := fun t_ k_ => (gc p295 st296) t_ (by
        refine XS.ifNo X296.here hx rfl (hb hby at_193) rfl ((if0 _ _).trans (feq c297).1) ?_
        exact k_)
       have p301 : Go p.tables e below _ (T296.setTop (mkF m 215 #[.val (.int p1), .val (.int p2), .val (.int p3), .val (.int p4), .val (.int p5), .val (.int (3 : Int32)), .val (.int x103), .val (.int x107), .val (.int x111), .val (.int x115), .val (.ref b261), .val (.ref b273), .unset] [(.int (1 : Int32))])) := fun t_ k_ => p300 t_ (by
        refine XS.iload X296.here hx rfl (hb hby at_196) rfl ?_
        refine XS.iconst X296.here hx rfl (hb hby at_198) ?_
        refine XS.icmpYes X296.here hx rfl (pc0 := 199) (pc' := 210) rfl (hb hby at_199) rfl (tlt (by decide : ((3 : Int32) < (4 : Int32)))).1 (by decide) (by decide) ?_
        refine XS.iconst X296.here hx rfl (hb hby at_210) ?_
        refine XS.goto X296.here hx rfl (pc0 := 211) (pc' := 215) rfl (hb hby at_211) (by decide) (by decide) ?_
        exact k_)
       exact ⟨_, _, X296, q296_hh, N296, by simp only [if_neg c285, if_neg c291, if_neg c297]; exact p301⟩
   obtain ⟨ex, hex⟩ : ∃ z, z = (if (own_bl x103) = (0 : Int32) then (0 : Int32) else (if (own_bl x107) = (0 : Int32) then (0 : Int32) else (if (own_bl x111) = (0 : Int32) then (0 : Int32) else (1 : Int32)))) := ⟨_, rfl⟩
   have p303 : Go p.tables e below (s₁.setTop (entryFrame m #[(.int p1), (.int p2), (.int p3), (.int p4), (.int p5)] maxLocals)) (T302.setTop (mkF m 215 #[.val (.int p1), .val (.int p2), .val (.int p3), .val (.int p4), .val (.int p5), .val (.int (3 : Int32)), .val (.int x103), .val (.int x107), .val (.int x111), .val (.int x115), .val (.ref b261), .val (.ref b273), .unset] [(.int ex)])) := by rw [hex]; exact p302
   have p304 : Go p.tables e below _ (T302.setTop (mkF m 219 #[.val (.int p1), .val (.int p2), .val (.int p3), .val (.int p4), .val (.int p5), .val (.int (3 : Int32)), .val (.int x103), .val (.int x107), .val (.int x111), .val (.int x115), .val (.ref b261), .val (.ref b273), .val (.int ex)] [(.ref b273)])) := fun t_ k_ => p303 t_ (by
    refine XS.istore X302.here hx rfl (hb hby at_215) rfl (l' := #[.val (.int p1), .val (.int p2), .val (.int p3), .val (.int p4), .val (.int p5), .val (.int (3 : Int32)), .val (.int x103), .val (.int x107), .val (.int x111), .val (.int x115), .val (.ref b261), .val (.ref b273), .val (.int ex)]) rfl ?_
    refine XS.aload X302.here hx rfl (hb hby at_217) rfl rfl ?_
    exact k_)
   have RAp : ∀ i, i < 3 → ¬ (own_at [x103, x107, x111] i < (0 : Int32)) := by
    intro i hi
    rcases (by omega : i = 0 ∨ i = 1 ∨ i = 2) with rfl | rfl | rfl
    ·exact ra0
    ·exact ra1
    ·exact ra2
   have HBp : ∀ i, i < 3 → ∃ b : Int32, ([(.int (own_xl x103)), (.int (own_xl x107)), (.int (own_xl x111))] : List Value).getD ((Int32.ofNat i)).toNatClampNeg (.int (0 : Int32)) = .int b ∧ own_c8 b = own_at [x103, x107, x111] i := by
    intro i hi
    rcases (by omega : i = 0 ∨ i = 1 ∨ i = 2) with rfl | rfl | rfl
    ·exact ⟨_, rfl, own_l8 _ ra0 hL.1⟩
    ·exact ⟨_, rfl, own_l8 _ ra1 hL.2.1⟩
    ·exact ⟨_, rfl, own_l8 _ ra2 hL.2.2⟩
   have f305 := (f278.keep q279_K (allS ge_b273 all0))
   obtain ⟨_, _, ⟨T306, L306, k306, n306⟩, -, X306, ⟨Lc306, hQ306, l306, y306, z306⟩, st306⟩ := Jvm.LawKit.callS X302 hx (y := (⟨"com/example/kuusi/kuusi/core/LineScanner", "isBlank", "(Ljava/lang/String;)Z"⟩ : MethodName)) hown (mvT hZ (own_w hw 27 rfl)) (mvT hZ (own_w hw 28 rfl)) (mvT hZ (own_w hw 29 rfl)) (mvT hZ (own_w hw 30 rfl)) (by decide) (backOf (W := 0) (rm5_0 l Z a0 hw [] b273 x280 x281 (3 : Int32) [(.int (own_xl x103)), (.int (own_xl x107)), (.int (own_xl x111))] [x103, x107, x111] 3 ab kab vsb cs1 fm T279.heap n0 (Nat.le_trans Z0 K282.1) f305 G AS AV HT q279_E q279_c q279_v q279_V (by decide) (by decide) RAp HBp rfl) hZ (own_w hw 30 rfl) (own_w hw 29 rfl) (by decide) (by decide)) (g := (mkF m 219 #[.val (.int p1), .val (.int p2), .val (.int p3), .val (.int p4), .val (.int p5), .val (.int (3 : Int32)), .val (.int x103), .val (.int x107), .val (.int x111), .val (.int x115), .val (.ref b261), .val (.ref b273), .val (.int ex)] [(.ref b273)])) rfl (by rw [hml]; rfl) (argsL := [(.ref b273)]) (rest := []) (lenOf pd18 rfl) rfl (by show 2 * 0 + _ ≤ _; exact Nat.le_of_eq rfl) (hb hby at_219) (fun _ _ => ⟨rfl, e302, (by decide : 3 + 0 ≤ _), (by decide : 10 + 0 ≤ _)⟩)
   dsimp only [Pt.U, Pt.locs, Pt.cells, Pt.slots] at X306 l306 y306 z306 st306 hQ306
   subst l306 y306 z306
   obtain ⟨rfl, N306q, q306_hh⟩ := hQ306
   have N306 := Fr.app N302 N306q
   have p307 : Go p.tables e below _ (T306.setTop (mkF m 224 #[.val (.int p1), .val (.int p2), .val (.int p3), .val (.int p4), .val (.int p5), .val (.int (3 : Int32)), .val (.int x103), .val (.int x107), .val (.int x111), .val (.int x115), .val (.ref b261), .val (.ref b273), .val (.int ex)] [(.int ex), (.int (own_ac [x103, x107, x111] 3))])) := fun t_ k_ => (gc p304 st306) t_ (by
    refine XS.iload X306.here hx rfl (hb hby at_222) rfl ?_
    exact k_)
   have c308 : ((own_ac [x103, x107, x111] 3) = ex) := by rw [hex]; exact own_ac3 x103 x107 x111
   have p309 : Go p.tables e below _ (T306.setTop (mkF m 232 #[.val (.int p1), .val (.int p2), .val (.int p3), .val (.int p4), .val (.int p5), .val (.int (3 : Int32)), .val (.int x103), .val (.int x107), .val (.int x111), .val (.int x115), .val (.ref b261), .val (.ref b273), .val (.int ex)] [(.int (1 : Int32))])) := fun t_ k_ => p307 t_ (by
    refine XS.icmpNo X306.here hx rfl (hb hby at_224) rfl (teq c308).2 ?_
    refine XS.iconst X306.here hx rfl (hb hby at_227) ?_
    refine XS.goto X306.here hx rfl (pc0 := 228) (pc' := 232) rfl (hb hby at_228) (by decide) (by decide) ?_
    exact k_)
   obtain ⟨fs, hr, hrun, hended, hW, hsame⟩ := X306.leave (v := some (.int (1 : Int32))) (fun h => by rw [Bd.returns] at h; cases h)
   refine ⟨_, _, p309 _ (retN X306 hx (t := .boolean) Bd.returns (by simp) (hb hby at_232) hr), hrun, hended, _, _, rfl, ?_, ReturnedEndW.of_narrow ⟨_, rfl⟩ hW (hsame.mono (by decide) (by decide))⟩
   show Q0 Z p1 p2 p3 p4 p5 ab kab vsb cs1 fm h0 n0 _ T306.heap _
   rw [q306_hh]
   exact ⟨rfl, N306⟩
  ·have big : ((255 : Int32) < x103) ∨ ((255 : Int32) < x107) ∨ ((255 : Int32) < x111) := by
    refine Classical.byContradiction fun q => hL ⟨fun z => q (Or.inl z), fun z => q (Or.inr (Or.inl z)), fun z => q (Or.inr (Or.inr (z)))⟩
   have f310 := (((((O1.ext E261).wr W264 ge_b261).wr W267 ge_b261).wr W270 ge_b261).ext E273)
   obtain ⟨_, _, ⟨T311, L311, k311, n311⟩, -, X311, ⟨Lc311, hQ311, l311, y311, z311⟩, st311⟩ := X273.specialBack hx (y := (⟨"java/lang/String", "<init>", "([C)V"⟩ : MethodName)) rfl hown (mvT hZ (own_w hw 9 rfl)) (mvT hZ (own_w hw 10 rfl)) (mvT hZ (own_w hw 11 rfl)) (by decide) (backOf (W := 1) (rm2_U3 l Z a0 hw [] b273 b261 k261 x103 x107 x111 cs1 fm h273 n0 (Nat.le_trans Z0 K274.1) f310 G F273_coder F273_value A273 f277 (Ne.symm ne_b261_b273) ge_b273 ra0 rb0 ra1 rb1 ra2 rb2 big) hZ (own_w hw 11 rfl) (own_w hw 8 rfl) (by decide) (by decide)) (g := (mkF m 149 #[.val (.int p1), .val (.int p2), .val (.int p3), .val (.int p4), .val (.int p5), .val (.int (3 : Int32)), .val (.int x103), .val (.int x107), .val (.int x111), .val (.int x115), .val (.ref b261), .unset, .unset] [(.ref b261), (.ref b273), (.ref b273)])) rfl (by rw [hml]; rfl) (Steps.refl _) (a := b273) (argsL := [(.ref b261)]) (rest := [(.ref b273)]) (lenOf pd17 rfl) rfl (by show 2 * 0 + _ ≤ _; exact Nat.le_of_eq rfl) (hb hby at_149) (fun _ _ => ⟨rfl, e273, (by decide : 2 + 2 ≤ _), (by decide : 7 + 9 ≤ _)⟩)
   dsimp only [Pt.U, Pt.locs, Pt.cells, Pt.slots] at X311 l311 y311 z311 st311 hQ311
   subst l311 y311 z311
   obtain ⟨x312, x313, rfl, N311q, q311_K, q311_E, q311_c, q311_v, q311_g, q311_z, q311_V, q311_n⟩ := hQ311
   have N311 := Fr.app N270 N311q
   have K314 : Keep h0 T311.heap [] := K274.trans q311_K (allS (Or.inr sz_b273) all0)
   have ne_b261_x312 : b261 ≠ x312 := Nat.ne_of_lt (Nat.lt_of_lt_of_le f277.lt q311_z)
   have ne_b273_x312 : b273 ≠ x312 := Nat.ne_of_lt (Nat.lt_of_lt_of_le A273.lt q311_z)
   have p315 : Go p.tables e below _ (T311.setTop (mkF m 162 #[.val (.int p1), .val (.int p2), .val (.int p3), .val (.int p4), .val (.int p5), .val (.int (3 : Int32)), .val (.int x103), .val (.int x107), .val (.int x111), .val (.int x115), .val (.ref b261), .val (.ref b273), .unset] [(.int x103)])) := fun t_ k_ => (gcT p275 st311) t_ (by
    refine XS.astore X311.here hx rfl (hb hby at_152) rfl rfl (l' := #[.val (.int p1), .val (.int p2), .val (.int p3), .val (.int p4), .val (.int p5), .val (.int (3 : Int32)), .val (.int x103), .val (.int x107), .val (.int x111), .val (.int x115), .val (.ref b261), .val (.ref b273), .unset]) rfl ?_
    refine XS.iload X311.here hx rfl (hb hby at_154) rfl ?_
    refine XS.iconst X311.here hx rfl (hb hby at_156) ?_
    refine XS.icmpNo X311.here hx rfl (hb hby at_157) rfl (flt (by decide : ¬ ((3 : Int32) < (1 : Int32)))).1 ?_
    refine XS.iload X311.here hx rfl (hb hby at_160) rfl ?_
    exact k_)
   obtain ⟨_, _, ⟨T316, L316, k316, n316⟩, -, X316, ⟨Lc316, hQ316, l316, y316, z316⟩, st316⟩ := Jvm.LawKit.callS X311 hx (y := (⟨"com/example/kuusi/kuusi/core/LineScannerIsBlankPinLaw", "bl", "(C)Z"⟩ : MethodName)) hown (mvT hZ (own_w hw 52 rfl)) (mvT hZ (own_w hw 53 rfl)) (mvT hZ (own_w hw 3 rfl)) (mvT hZ (own_w hw 54 rfl)) (by decide) (backOf (W := 0) (rm11 l Z a0 hw [] x103 T311.heap n0 (Nat.le_trans Z0 K314.1) ) hZ (own_w hw 54 rfl) (own_w hw 3 rfl) (by decide) (by decide)) (g := (mkF m 162 #[.val (.int p1), .val (.int p2), .val (.int p3), .val (.int p4), .val (.int p5), .val (.int (3 : Int32)), .val (.int x103), .val (.int x107), .val (.int x111), .val (.int x115), .val (.ref b261), .val (.ref b273), .unset] [(.int x103)])) rfl (by rw [hml]; rfl) (argsL := [(.int x103)]) (rest := []) (lenOf pd16 rfl) rfl (by show 2 * 0 + _ ≤ _; exact Nat.le_of_eq rfl) (hb hby at_162) (fun _ _ => ⟨rfl, rfl, (by decide : 4 + 0 ≤ _), (by decide : 16 + 0 ≤ _)⟩)
   dsimp only [Pt.U, Pt.locs, Pt.cells, Pt.slots] at X316 l316 y316 z316 st316 hQ316
   subst l316 y316 z316
   obtain ⟨rfl, N316q, q316_hh⟩ := hQ316
   have N316 := Fr.app N311 N316q
   obtain ⟨T334, L334, X334, e334, N334, p334⟩ : ∃ (T' : State) (L' : List Loc), Stand p l e room_1 s m #[(.int p1), (.int p2), (.int p3), (.int p4), (.int p5)] below meth c T' L' 4 16 ∧ T'.heap = T311.heap ∧ Fr n0 L' ∧ Go p.tables e below (s₁.setTop (entryFrame m #[(.int p1), (.int p2), (.int p3), (.int p4), (.int p5)] maxLocals)) (T'.setTop (mkF m 215 #[.val (.int p1), .val (.int p2), .val (.int p3), .val (.int p4), .val (.int p5), .val (.int (3 : Int32)), .val (.int x103), .val (.int x107), .val (.int x111), .val (.int x115), .val (.ref b261), .val (.ref b273), .unset] [(.int (if (own_bl x103) = (0 : Int32) then (0 : Int32) else (if (own_bl x107) = (0 : Int32) then (0 : Int32) else (if (own_bl x111) = (0 : Int32) then (0 : Int32) else (1 : Int32)))))])) := by
    by_cases c317 : (own_bl x103) = (0 : Int32)
    ·have p318 : Go p.tables e below _ (T316.setTop (mkF m 214 #[.val (.int p1), .val (.int p2), .val (.int p3), .val (.int p4), .val (.int p5), .val (.int (3 : Int32)), .val (.int x103), .val (.int x107), .val (.int x111), .val (.int x115), .val (.ref b261), .val (.ref b273), .unset] [])) := fun t_ k_ => (gc p315 st316) t_ (by
      refine XS.ifYes X316.here hx rfl (pc0 := 165) (pc' := 214) rfl (hb hby at_165) rfl ((if0 _ _).trans (teq c317).1) (by decide) (by decide) ?_
      exact k_)
     have p319 : Go p.tables e below _ (T316.setTop (mkF m 215 #[.val (.int p1), .val (.int p2), .val (.int p3), .val (.int p4), .val (.int p5), .val (.int (3 : Int32)), .val (.int x103), .val (.int x107), .val (.int x111), .val (.int x115), .val (.ref b261), .val (.ref b273), .unset] [(.int (0 : Int32))])) := fun t_ k_ => p318 t_ (by
      refine XS.iconst X316.here hx rfl (hb hby at_214) ?_
      exact k_)
     exact ⟨_, _, X316, q316_hh, N316, by simp only [if_pos c317]; exact p319⟩
    ·have p320 : Go p.tables e below _ (T316.setTop (mkF m 168 #[.val (.int p1), .val (.int p2), .val (.int p3), .val (.int p4), .val (.int p5), .val (.int (3 : Int32)), .val (.int x103), .val (.int x107), .val (.int x111), .val (.int x115), .val (.ref b261), .val (.ref b273), .unset] [])) := fun t_ k_ => (gc p315 st316) t_ (by
      refine XS.ifNo X316.here hx rfl (hb hby at_165) rfl ((if0 _ _).trans (feq c317).1) ?_
      exact k_)
     have p321 : Go p.tables e below _ (T316.setTop (mkF m 176 #[.val (.int p1), .val (.int p2), .val (.int p3), .val (.int p4), .val (.int p5), .val (.int (3 : Int32)), .val (.int x103), .val (.int x107), .val (.int x111), .val (.int x115), .val (.ref b261), .val (.ref b273), .unset] [(.int x107)])) := fun t_ k_ => p320 t_ (by
      refine XS.iload X316.here hx rfl (hb hby at_168) rfl ?_
      refine XS.iconst X316.here hx rfl (hb hby at_170) ?_
      refine XS.icmpNo X316.here hx rfl (hb hby at_171) rfl (flt (by decide : ¬ ((3 : Int32) < (2 : Int32)))).1 ?_
      refine XS.iload X316.here hx rfl (hb hby at_174) rfl ?_
      exact k_)
     obtain ⟨_, _, ⟨T322, L322, k322, n322⟩, -, X322, ⟨Lc322, hQ322, l322, y322, z322⟩, st322⟩ := Jvm.LawKit.callS X316 hx (y := (⟨"com/example/kuusi/kuusi/core/LineScannerIsBlankPinLaw", "bl", "(C)Z"⟩ : MethodName)) hown (mvT hZ (own_w hw 52 rfl)) (mvT hZ (own_w hw 53 rfl)) (mvT hZ (own_w hw 3 rfl)) (mvT hZ (own_w hw 54 rfl)) (by decide) (backOf (W := 0) (rm11 l Z a0 hw [] x107 T311.heap n0 (Nat.le_trans Z0 K314.1) ) hZ (own_w hw 54 rfl) (own_w hw 3 rfl) (by decide) (by decide)) (g := (mkF m 176 #[.val (.int p1), .val (.int p2), .val (.int p3), .val (.int p4), .val (.int p5), .val (.int (3 : Int32)), .val (.int x103), .val (.int x107), .val (.int x111), .val (.int x115), .val (.ref b261), .val (.ref b273), .unset] [(.int x107)])) rfl (by rw [hml]; rfl) (argsL := [(.int x107)]) (rest := []) (lenOf pd16 rfl) rfl (by show 2 * 0 + _ ≤ _; exact Nat.le_of_eq rfl) (hb hby at_176) (fun _ _ => ⟨rfl, q316_hh, (by decide : 4 + 0 ≤ _), (by decide : 16 + 0 ≤ _)⟩)
     dsimp only [Pt.U, Pt.locs, Pt.cells, Pt.slots] at X322 l322 y322 z322 st322 hQ322
     subst l322 y322 z322
     obtain ⟨rfl, N322q, q322_hh⟩ := hQ322
     have N322 := Fr.app N316 N322q
     by_cases c323 : (own_bl x107) = (0 : Int32)
     ·have p324 : Go p.tables e below _ (T322.setTop (mkF m 214 #[.val (.int p1), .val (.int p2), .val (.int p3), .val (.int p4), .val (.int p5), .val (.int (3 : Int32)), .val (.int x103), .val (.int x107), .val (.int x111), .val (.int x115), .val (.ref b261), .val (.ref b273), .unset] [])) := fun t_ k_ => (gc p321 st322) t_ (by
       refine XS.ifYes X322.here hx rfl (pc0 := 179) (pc' := 214) rfl (hb hby at_179) rfl ((if0 _ _).trans (teq c323).1) (by decide) (by decide) ?_
       exact k_)
      have p325 : Go p.tables e below _ (T322.setTop (mkF m 215 #[.val (.int p1), .val (.int p2), .val (.int p3), .val (.int p4), .val (.int p5), .val (.int (3 : Int32)), .val (.int x103), .val (.int x107), .val (.int x111), .val (.int x115), .val (.ref b261), .val (.ref b273), .unset] [(.int (0 : Int32))])) := fun t_ k_ => p324 t_ (by
       refine XS.iconst X322.here hx rfl (hb hby at_214) ?_
       exact k_)
      exact ⟨_, _, X322, q322_hh, N322, by simp only [if_neg c317, if_pos c323]; exact p325⟩
     ·have p326 : Go p.tables e below _ (T322.setTop (mkF m 182 #[.val (.int p1), .val (.int p2), .val (.int p3), .val (.int p4), .val (.int p5), .val (.int (3 : Int32)), .val (.int x103), .val (.int x107), .val (.int x111), .val (.int x115), .val (.ref b261), .val (.ref b273), .unset] [])) := fun t_ k_ => (gc p321 st322) t_ (by
       refine XS.ifNo X322.here hx rfl (hb hby at_179) rfl ((if0 _ _).trans (feq c323).1) ?_
       exact k_)
      have p327 : Go p.tables e below _ (T322.setTop (mkF m 190 #[.val (.int p1), .val (.int p2), .val (.int p3), .val (.int p4), .val (.int p5), .val (.int (3 : Int32)), .val (.int x103), .val (.int x107), .val (.int x111), .val (.int x115), .val (.ref b261), .val (.ref b273), .unset] [(.int x111)])) := fun t_ k_ => p326 t_ (by
       refine XS.iload X322.here hx rfl (hb hby at_182) rfl ?_
       refine XS.iconst X322.here hx rfl (hb hby at_184) ?_
       refine XS.icmpNo X322.here hx rfl (hb hby at_185) rfl (flt (by decide : ¬ ((3 : Int32) < (3 : Int32)))).1 ?_
       refine XS.iload X322.here hx rfl (hb hby at_188) rfl ?_
       exact k_)
      obtain ⟨_, _, ⟨T328, L328, k328, n328⟩, -, X328, ⟨Lc328, hQ328, l328, y328, z328⟩, st328⟩ := Jvm.LawKit.callS X322 hx (y := (⟨"com/example/kuusi/kuusi/core/LineScannerIsBlankPinLaw", "bl", "(C)Z"⟩ : MethodName)) hown (mvT hZ (own_w hw 52 rfl)) (mvT hZ (own_w hw 53 rfl)) (mvT hZ (own_w hw 3 rfl)) (mvT hZ (own_w hw 54 rfl)) (by decide) (backOf (W := 0) (rm11 l Z a0 hw [] x111 T311.heap n0 (Nat.le_trans Z0 K314.1) ) hZ (own_w hw 54 rfl) (own_w hw 3 rfl) (by decide) (by decide)) (g := (mkF m 190 #[.val (.int p1), .val (.int p2), .val (.int p3), .val (.int p4), .val (.int p5), .val (.int (3 : Int32)), .val (.int x103), .val (.int x107), .val (.int x111), .val (.int x115), .val (.ref b261), .val (.ref b273), .unset] [(.int x111)])) rfl (by rw [hml]; rfl) (argsL := [(.int x111)]) (rest := []) (lenOf pd16 rfl) rfl (by show 2 * 0 + _ ≤ _; exact Nat.le_of_eq rfl) (hb hby at_190) (fun _ _ => ⟨rfl, q322_hh, (by decide : 4 + 0 ≤ _), (by decide : 16 + 0 ≤ _)⟩)
      dsimp only [Pt.U, Pt.locs, Pt.cells, Pt.slots] at X328 l328 y328 z328 st328 hQ328
      subst l328 y328 z328
      obtain ⟨rfl, N328q, q328_hh⟩ := hQ328
      have N328 := Fr.app N322 N328q
      by_cases c329 : (own_bl x111) = (0 : Int32)
      ·have p330 : Go p.tables e below _ (T328.setTop (mkF m 214 #[.val (.int p1), .val (.int p2), .val (.int p3), .val (.int p4), .val (.int p5), .val (.int (3 : Int32)), .val (.int x103), .val (.int x107), .val (.int x111), .val (.int x115), .val (.ref b261), .val (.ref b273), .unset] [])) := fun t_ k_ => (gc p327 st328) t_ (by
        refine XS.ifYes X328.here hx rfl (pc0 := 193) (pc' := 214) rfl (hb hby at_193) rfl ((if0 _ _).trans (teq c329).1) (by decide) (by decide) ?_
        exact k_)
       have p331 : Go p.tables e below _ (T328.setTop (mkF m 215 #[.val (.int p1), .val (.int p2), .val (.int p3), .val (.int p4), .val (.int p5), .val (.int (3 : Int32)), .val (.int x103), .val (.int x107), .val (.int x111), .val (.int x115), .val (.ref b261), .val (.ref b273), .unset] [(.int (0 : Int32))])) := fun t_ k_ => p330 t_ (by
        refine XS.iconst X328.here hx rfl (hb hby at_214) ?_
        exact k_)
       exact ⟨_, _, X328, q328_hh, N328, by simp only [if_neg c317, if_neg c323, if_pos c329]; exact p331⟩
      ·have p332 : Go p.tables e below _ (T328.setTop (mkF m 196 #[.val (.int p1), .val (.int p2), .val (.int p3), .val (.int p4), .val (.int p5), .val (.int (3 : Int32)), .val (.int x103), .val (.int x107), .val (.int x111), .val (.int x115), .val (.ref b261), .val (.ref b273), .unset] [])) := fun t_ k_ => (gc p327 st328) t_ (by
        refine XS.ifNo X328.here hx rfl (hb hby at_193) rfl ((if0 _ _).trans (feq c329).1) ?_
        exact k_)
       have p333 : Go p.tables e below _ (T328.setTop (mkF m 215 #[.val (.int p1), .val (.int p2), .val (.int p3), .val (.int p4), .val (.int p5), .val (.int (3 : Int32)), .val (.int x103), .val (.int x107), .val (.int x111), .val (.int x115), .val (.ref b261), .val (.ref b273), .unset] [(.int (1 : Int32))])) := fun t_ k_ => p332 t_ (by
        refine XS.iload X328.here hx rfl (hb hby at_196) rfl ?_
        refine XS.iconst X328.here hx rfl (hb hby at_198) ?_
        refine XS.icmpYes X328.here hx rfl (pc0 := 199) (pc' := 210) rfl (hb hby at_199) rfl (tlt (by decide : ((3 : Int32) < (4 : Int32)))).1 (by decide) (by decide) ?_
        refine XS.iconst X328.here hx rfl (hb hby at_210) ?_
        refine XS.goto X328.here hx rfl (pc0 := 211) (pc' := 215) rfl (hb hby at_211) (by decide) (by decide) ?_
        exact k_)
       exact ⟨_, _, X328, q328_hh, N328, by simp only [if_neg c317, if_neg c323, if_neg c329]; exact p333⟩
   obtain ⟨ex, hex⟩ : ∃ z, z = (if (own_bl x103) = (0 : Int32) then (0 : Int32) else (if (own_bl x107) = (0 : Int32) then (0 : Int32) else (if (own_bl x111) = (0 : Int32) then (0 : Int32) else (1 : Int32)))) := ⟨_, rfl⟩
   have p335 : Go p.tables e below (s₁.setTop (entryFrame m #[(.int p1), (.int p2), (.int p3), (.int p4), (.int p5)] maxLocals)) (T334.setTop (mkF m 215 #[.val (.int p1), .val (.int p2), .val (.int p3), .val (.int p4), .val (.int p5), .val (.int (3 : Int32)), .val (.int x103), .val (.int x107), .val (.int x111), .val (.int x115), .val (.ref b261), .val (.ref b273), .unset] [(.int ex)])) := by rw [hex]; exact p334
   have p336 : Go p.tables e below _ (T334.setTop (mkF m 219 #[.val (.int p1), .val (.int p2), .val (.int p3), .val (.int p4), .val (.int p5), .val (.int (3 : Int32)), .val (.int x103), .val (.int x107), .val (.int x111), .val (.int x115), .val (.ref b261), .val (.ref b273), .val (.int ex)] [(.ref b273)])) := fun t_ k_ => p335 t_ (by
    refine XS.istore X334.here hx rfl (hb hby at_215) rfl (l' := #[.val (.int p1), .val (.int p2), .val (.int p3), .val (.int p4), .val (.int p5), .val (.int (3 : Int32)), .val (.int x103), .val (.int x107), .val (.int x111), .val (.int x115), .val (.ref b261), .val (.ref b273), .val (.int ex)]) rfl ?_
    refine XS.aload X334.here hx rfl (hb hby at_217) rfl rfl ?_
    exact k_)
   have RAp : ∀ i, i < 3 → ¬ (own_at [x103, x107, x111] i < (0 : Int32)) := by
    intro i hi
    rcases (by omega : i = 0 ∨ i = 1 ∨ i = 2) with rfl | rfl | rfl
    ·exact ra0
    ·exact ra1
    ·exact ra2
   have HBp : ∀ i, i < 3 → ∃ b0 b1 : Int32, (¬ ((Int32.ofNat i) <<< (1 : Int32)) < 0 ∧ ((Int32.ofNat i) <<< (1 : Int32)) < (6 : Int32)) ∧ (¬ (((Int32.ofNat i) <<< (1 : Int32)) + (1 : Int32)) < 0 ∧ (((Int32.ofNat i) <<< (1 : Int32)) + (1 : Int32)) < (6 : Int32)) ∧ ([(.int (own_x0 x103)), (.int (own_x8 x103)), (.int (own_x0 x107)), (.int (own_x8 x107)), (.int (own_x0 x111)), (.int (own_x8 x111))] : List Value).getD (((Int32.ofNat i) <<< (1 : Int32))).toNatClampNeg (.int (0 : Int32)) = .int b0 ∧ ([(.int (own_x0 x103)), (.int (own_x8 x103)), (.int (own_x0 x107)), (.int (own_x8 x107)), (.int (own_x0 x111)), (.int (own_x8 x111))] : List Value).getD ((((Int32.ofNat i) <<< (1 : Int32)) + (1 : Int32))).toNatClampNeg (.int (0 : Int32)) = .int b1 ∧ own_c16 b0 b1 = own_at [x103, x107, x111] i := by
    intro i hi
    rcases (by omega : i = 0 ∨ i = 1 ∨ i = 2) with rfl | rfl | rfl
    ·exact ⟨_, _, by decide, by decide, rfl, rfl, own_l16 _ ra0 rb0⟩
    ·exact ⟨_, _, by decide, by decide, rfl, rfl, own_l16 _ ra1 rb1⟩
    ·exact ⟨_, _, by decide, by decide, rfl, rfl, own_l16 _ ra2 rb2⟩
   have f337 := (f310.keep q311_K (allS ge_b273 all0))
   obtain ⟨_, _, ⟨T338, L338, k338, n338⟩, -, X338, ⟨Lc338, hQ338, l338, y338, z338⟩, st338⟩ := Jvm.LawKit.callS X334 hx (y := (⟨"com/example/kuusi/kuusi/core/LineScanner", "isBlank", "(Ljava/lang/String;)Z"⟩ : MethodName)) hown (mvT hZ (own_w hw 27 rfl)) (mvT hZ (own_w hw 28 rfl)) (mvT hZ (own_w hw 29 rfl)) (mvT hZ (own_w hw 30 rfl)) (by decide) (backOf (W := 0) (rm5_1 l Z a0 hw [] b273 x312 x313 (6 : Int32) [(.int (own_x0 x103)), (.int (own_x8 x103)), (.int (own_x0 x107)), (.int (own_x8 x107)), (.int (own_x0 x111)), (.int (own_x8 x111))] [x103, x107, x111] 3 ab kab vsb cs1 fm T311.heap n0 (Nat.le_trans Z0 K314.1) f337 G AS AV HT q311_E q311_c q311_v q311_V (by decide) (by decide) RAp HBp) hZ (own_w hw 30 rfl) (own_w hw 29 rfl) (by decide) (by decide)) (g := (mkF m 219 #[.val (.int p1), .val (.int p2), .val (.int p3), .val (.int p4), .val (.int p5), .val (.int (3 : Int32)), .val (.int x103), .val (.int x107), .val (.int x111), .val (.int x115), .val (.ref b261), .val (.ref b273), .val (.int ex)] [(.ref b273)])) rfl (by rw [hml]; rfl) (argsL := [(.ref b273)]) (rest := []) (lenOf pd18 rfl) rfl (by show 2 * 0 + _ ≤ _; exact Nat.le_of_eq rfl) (hb hby at_219) (fun _ _ => ⟨rfl, e334, (by decide : 4 + 0 ≤ _), (by decide : 16 + 0 ≤ _)⟩)
   dsimp only [Pt.U, Pt.locs, Pt.cells, Pt.slots] at X338 l338 y338 z338 st338 hQ338
   subst l338 y338 z338
   obtain ⟨rfl, N338q, q338_hh⟩ := hQ338
   have N338 := Fr.app N334 N338q
   have p339 : Go p.tables e below _ (T338.setTop (mkF m 224 #[.val (.int p1), .val (.int p2), .val (.int p3), .val (.int p4), .val (.int p5), .val (.int (3 : Int32)), .val (.int x103), .val (.int x107), .val (.int x111), .val (.int x115), .val (.ref b261), .val (.ref b273), .val (.int ex)] [(.int ex), (.int (own_ac [x103, x107, x111] 3))])) := fun t_ k_ => (gc p336 st338) t_ (by
    refine XS.iload X338.here hx rfl (hb hby at_222) rfl ?_
    exact k_)
   have c340 : ((own_ac [x103, x107, x111] 3) = ex) := by rw [hex]; exact own_ac3 x103 x107 x111
   have p341 : Go p.tables e below _ (T338.setTop (mkF m 232 #[.val (.int p1), .val (.int p2), .val (.int p3), .val (.int p4), .val (.int p5), .val (.int (3 : Int32)), .val (.int x103), .val (.int x107), .val (.int x111), .val (.int x115), .val (.ref b261), .val (.ref b273), .val (.int ex)] [(.int (1 : Int32))])) := fun t_ k_ => p339 t_ (by
    refine XS.icmpNo X338.here hx rfl (hb hby at_224) rfl (teq c340).2 ?_
    refine XS.iconst X338.here hx rfl (hb hby at_227) ?_
    refine XS.goto X338.here hx rfl (pc0 := 228) (pc' := 232) rfl (hb hby at_228) (by decide) (by decide) ?_
    exact k_)
   obtain ⟨fs, hr, hrun, hended, hW, hsame⟩ := X338.leave (v := some (.int (1 : Int32))) (fun h => by rw [Bd.returns] at h; cases h)
   refine ⟨_, _, p341 _ (retN X338 hx (t := .boolean) Bd.returns (by simp) (hb hby at_232) hr), hrun, hended, _, _, rfl, ?_, ReturnedEndW.of_narrow ⟨_, rfl⟩ hW (hsame.mono (by decide) (by decide))⟩
   show Q0 Z p1 p2 p3 p4 p5 ab kab vsb cs1 fm h0 n0 _ T338.heap _
   rw [q338_hh]
   exact ⟨rfl, N338⟩
 ·have p342 : Go p.tables e below (s₁.setTop (entryFrame m #[(.int p1), (.int p2), (.int p3), (.int p4), (.int p5)] maxLocals)) (T114.setTop (mkF m 33 #[.val (.int p1), .val (.int p2), .val (.int p3), .val (.int p4), .val (.int p5), .val (.int (4 : Int32)), .val (.int x103), .val (.int x107), .val (.int x111), .val (.int x115), .unset, .unset, .unset] [])) := by have z := p117; rw [ro] at z; exact z
  have p343 : Go p.tables e below _ (T114.setTop (mkF m 119 #[.val (.int p1), .val (.int p2), .val (.int p3), .val (.int p4), .val (.int p5), .val (.int (4 : Int32)), .val (.int x103), .val (.int x107), .val (.int x111), .val (.int x115), .unset, .unset, .unset] [(.int (4 : Int32))])) := fun t_ k_ => p342 t_ (by
   refine XS.iload X114.here hx rfl (hb hby at_33) rfl ?_
   refine XS.ifYes X114.here hx rfl (pc0 := 35) (pc' := 46) rfl (hb hby at_35) rfl ((if0 _ _).trans (feq (by decide : ¬ ((4 : Int32) = (0 : Int32)))).2) (by decide) (by decide) ?_
   refine XS.iload X114.here hx rfl (hb hby at_46) rfl ?_
   refine XS.iconst X114.here hx rfl (hb hby at_48) ?_
   refine XS.icmpYes X114.here hx rfl (pc0 := 49) (pc' := 65) rfl (hb hby at_49) rfl (feq (by decide : ¬ ((4 : Int32) = (1 : Int32)))).2 (by decide) (by decide) ?_
   refine XS.iload X114.here hx rfl (hb hby at_65) rfl ?_
   refine XS.iconst X114.here hx rfl (hb hby at_67) ?_
   refine XS.icmpYes X114.here hx rfl (pc0 := 68) (pc' := 89) rfl (hb hby at_68) rfl (feq (by decide : ¬ ((4 : Int32) = (2 : Int32)))).2 (by decide) (by decide) ?_
   refine XS.iload X114.here hx rfl (hb hby at_89) rfl ?_
   refine XS.iconst X114.here hx rfl (hb hby at_91) ?_
   refine XS.icmpYes X114.here hx rfl (pc0 := 92) (pc' := 118) rfl (hb hby at_92) rfl (feq (by decide : ¬ ((4 : Int32) = (3 : Int32)))).2 (by decide) (by decide) ?_
   refine XS.iconst X114.here hx rfl (hb hby at_118) ?_
   exact k_)
  obtain ⟨T344, h344, k344, X344, e344, E344, A344, st344⟩ := newP X114 hx hZ (own_w hw 5 rfl) q114_hh (g := (mkF m 119 #[.val (.int p1), .val (.int p2), .val (.int p3), .val (.int p4), .val (.int p5), .val (.int (4 : Int32)), .val (.int x103), .val (.int x107), .val (.int x111), .val (.int x115), .unset, .unset, .unset] [(.int (4 : Int32))])) rfl (hb hby at_119) rfl (by decide) (cap := 4) (by decide) (by decide) (by decide) (by decide)
  obtain ⟨b344, g344⟩ : ∃ z, z = h0.size := ⟨_, rfl⟩
  rw [← g344] at A344 st344
  have ge_b344 : n0 ≤ b344 := Nat.le_trans (Nat.le_trans Z0 (Keep.refl h0 []).1) (Nat.le_of_eq g344.symm)
  have sz_b344 : h0.size ≤ b344 := Nat.le_trans (Keep.refl h0 []).1 (Nat.le_of_eq g344.symm)
  have K345 : Keep h0 h344 [] := (Keep.refl h0 []).ext E344
  have V344 : Arv Z h344 b344 k344 .char (4 : Int32) [(.int (0 : Int32)), (.int (0 : Int32)), (.int (0 : Int32)), (.int (0 : Int32))] (.int (0 : Int32)) := (Arv.new A344 (by decide)).pad (pad_rep [] (.int (0 : Int32)) 4)
  have p346 : Go p.tables e below _ (T344.setTop (mkF m 125 #[.val (.int p1), .val (.int p2), .val (.int p3), .val (.int p4), .val (.int p5), .val (.int (4 : Int32)), .val (.int x103), .val (.int x107), .val (.int x111), .val (.int x115), .unset, .unset, .unset] [(.int x103), (.int (0 : Int32)), (.ref b344), (.ref b344)])) := fun t_ k_ => (gc p343 st344) t_ (by
   refine XS.dup X344.here hx rfl (hb hby at_121) rfl rfl ?_
   refine XS.iconst X344.here hx rfl (hb hby at_122) ?_
   refine XS.iload X344.here hx rfl (hb hby at_123) rfl ?_
   exact k_)
  obtain ⟨cl347, Ar347, q347, S347, Ng347, H347, G347⟩ := id V344
  have hin347 := inb_of S347 (j := (0 : Int32)) ⟨by decide, by decide⟩
  obtain ⟨T347, h347, X347, e347, W347, st347⟩ := stC X344 hx hZ e344 Ar347 (j := (0 : Int32)) hin347 (g := (mkF m 125 #[.val (.int p1), .val (.int p2), .val (.int p3), .val (.int p4), .val (.int p5), .val (.int (4 : Int32)), .val (.int x103), .val (.int x107), .val (.int x111), .val (.int x115), .unset, .unset, .unset] [(.int x103), (.int (0 : Int32)), (.ref b344), (.ref b344)])) rfl rfl (hb hby at_125)
  have K348 : Keep h0 h347 [] := K345.wr W347 (Or.inr sz_b344)
  have N347 := Fr.snoc X347 N114 ge_b344
  have V347 : Arv Z h347 b344 k344 .char (4 : Int32) [(.int (nar .char x103)), (.int (0 : Int32)), (.int (0 : Int32)), (.int (0 : Int32))] (.int (0 : Int32)) := Arv.set Ar347 q347 S347 Ng347 H347 G347 (fits_nar_char _) W347 0 rfl (Nat.le_of_ble_eq_true rfl)
  have p349 : Go p.tables e below _ (T347.setTop (mkF m 130 #[.val (.int p1), .val (.int p2), .val (.int p3), .val (.int p4), .val (.int p5), .val (.int (4 : Int32)), .val (.int x103), .val (.int x107), .val (.int x111), .val (.int x115), .unset, .unset, .unset] [(.int x107), (.int (1 : Int32)), (.ref b344), (.ref b344)])) := fun t_ k_ => (gc p346 st347) t_ (by
   refine XS.dup X347.here hx rfl (hb hby at_126) rfl rfl ?_
   refine XS.iconst X347.here hx rfl (hb hby at_127) ?_
   refine XS.iload X347.here hx rfl (hb hby at_128) rfl ?_
   exact k_)
  obtain ⟨cl350, Ar350, q350, S350, Ng350, H350, G350⟩ := id V347
  have hin350 := inb_of S350 (j := (1 : Int32)) ⟨by decide, by decide⟩
  obtain ⟨T350, h350, X350, e350, W350, st350⟩ := stC X347 hx hZ e347 Ar350 (j := (1 : Int32)) hin350 (g := (mkF m 130 #[.val (.int p1), .val (.int p2), .val (.int p3), .val (.int p4), .val (.int p5), .val (.int (4 : Int32)), .val (.int x103), .val (.int x107), .val (.int x111), .val (.int x115), .unset, .unset, .unset] [(.int x107), (.int (1 : Int32)), (.ref b344), (.ref b344)])) rfl rfl (hb hby at_130)
  have K351 : Keep h0 h350 [] := K348.wr W350 (Or.inr sz_b344)
  have N350 := Fr.snoc X350 N347 ge_b344
  have V350 : Arv Z h350 b344 k344 .char (4 : Int32) [(.int (nar .char x103)), (.int (nar .char x107)), (.int (0 : Int32)), (.int (0 : Int32))] (.int (0 : Int32)) := Arv.set Ar350 q350 S350 Ng350 H350 G350 (fits_nar_char _) W350 1 rfl (Nat.le_of_ble_eq_true rfl)
  have p352 : Go p.tables e below _ (T350.setTop (mkF m 135 #[.val (.int p1), .val (.int p2), .val (.int p3), .val (.int p4), .val (.int p5), .val (.int (4 : Int32)), .val (.int x103), .val (.int x107), .val (.int x111), .val (.int x115), .unset, .unset, .unset] [(.int x111), (.int (2 : Int32)), (.ref b344), (.ref b344)])) := fun t_ k_ => (gc p349 st350) t_ (by
   refine XS.dup X350.here hx rfl (hb hby at_131) rfl rfl ?_
   refine XS.iconst X350.here hx rfl (hb hby at_132) ?_
   refine XS.iload X350.here hx rfl (hb hby at_133) rfl ?_
   exact k_)
  obtain ⟨cl353, Ar353, q353, S353, Ng353, H353, G353⟩ := id V350
  have hin353 := inb_of S353 (j := (2 : Int32)) ⟨by decide, by decide⟩
  obtain ⟨T353, h353, X353, e353, W353, st353⟩ := stC X350 hx hZ e350 Ar353 (j := (2 : Int32)) hin353 (g := (mkF m 135 #[.val (.int p1), .val (.int p2), .val (.int p3), .val (.int p4), .val (.int p5), .val (.int (4 : Int32)), .val (.int x103), .val (.int x107), .val (.int x111), .val (.int x115), .unset, .unset, .unset] [(.int x111), (.int (2 : Int32)), (.ref b344), (.ref b344)])) rfl rfl (hb hby at_135)
  have K354 : Keep h0 h353 [] := K351.wr W353 (Or.inr sz_b344)
  have N353 := Fr.snoc X353 N350 ge_b344
  have V353 : Arv Z h353 b344 k344 .char (4 : Int32) [(.int (nar .char x103)), (.int (nar .char x107)), (.int (nar .char x111)), (.int (0 : Int32))] (.int (0 : Int32)) := Arv.set Ar353 q353 S353 Ng353 H353 G353 (fits_nar_char _) W353 2 rfl (Nat.le_of_ble_eq_true rfl)
  have p355 : Go p.tables e below _ (T353.setTop (mkF m 140 #[.val (.int p1), .val (.int p2), .val (.int p3), .val (.int p4), .val (.int p5), .val (.int (4 : Int32)), .val (.int x103), .val (.int x107), .val (.int x111), .val (.int x115), .unset, .unset, .unset] [(.int x115), (.int (3 : Int32)), (.ref b344), (.ref b344)])) := fun t_ k_ => (gc p352 st353) t_ (by
   refine XS.dup X353.here hx rfl (hb hby at_136) rfl rfl ?_
   refine XS.iconst X353.here hx rfl (hb hby at_137) ?_
   refine XS.iload X353.here hx rfl (hb hby at_138) rfl ?_
   exact k_)
  obtain ⟨cl356, Ar356, q356, S356, Ng356, H356, G356⟩ := id V353
  have hin356 := inb_of S356 (j := (3 : Int32)) ⟨by decide, by decide⟩
  obtain ⟨T356, h356, X356, e356, W356, st356⟩ := stC X353 hx hZ e353 Ar356 (j := (3 : Int32)) hin356 (g := (mkF m 140 #[.val (.int p1), .val (.int p2), .val (.int p3), .val (.int p4), .val (.int p5), .val (.int (4 : Int32)), .val (.int x103), .val (.int x107), .val (.int x111), .val (.int x115), .unset, .unset, .unset] [(.int x115), (.int (3 : Int32)), (.ref b344), (.ref b344)])) rfl rfl (hb hby at_140)
  have K357 : Keep h0 h356 [] := K354.wr W356 (Or.inr sz_b344)
  have N356 := Fr.snoc X356 N353 ge_b344
  have V356 : Arv Z h356 b344 k344 .char (4 : Int32) [(.int (nar .char x103)), (.int (nar .char x107)), (.int (nar .char x111)), (.int (nar .char x115))] (.int (0 : Int32)) := Arv.set Ar356 q356 S356 Ng356 H356 G356 (fits_nar_char _) W356 3 rfl (Nat.le_of_ble_eq_true rfl)
  have p358 : Go p.tables e below _ (T356.setTop (mkF m 143 #[.val (.int p1), .val (.int p2), .val (.int p3), .val (.int p4), .val (.int p5), .val (.int (4 : Int32)), .val (.int x103), .val (.int x107), .val (.int x111), .val (.int x115), .val (.ref b344), .unset, .unset] [])) := fun t_ k_ => (gc p355 st356) t_ (by
   refine XS.astore X356.here hx rfl (hb hby at_141) rfl rfl (l' := #[.val (.int p1), .val (.int p2), .val (.int p3), .val (.int p4), .val (.int p5), .val (.int (4 : Int32)), .val (.int x103), .val (.int x107), .val (.int x111), .val (.int x115), .val (.ref b344), .unset, .unset]) rfl ?_
   exact k_)
  obtain ⟨T359, h359, X359, e359, E359, A359, D359, -, st359⟩ := newO X356 hx hZ hown (own_w hw 6 rfl) (own_w hw 7 rfl) (own_w hw 8 rfl) e356 (g := (mkF m 143 #[.val (.int p1), .val (.int p2), .val (.int p3), .val (.int p4), .val (.int p5), .val (.int (4 : Int32)), .val (.int x103), .val (.int x107), .val (.int x111), .val (.int x115), .val (.ref b344), .unset, .unset] [])) rfl (hb hby at_143) (by decide) (by decide)
  obtain ⟨b359, g359⟩ : ∃ z, z = h356.size := ⟨_, rfl⟩
  rw [← g359] at A359 D359 st359
  have ne_b344_b359 : b344 ≠ b359 := Nat.ne_of_lt (Nat.lt_of_lt_of_le V356.lt (Nat.le_of_eq g359.symm))
  have ge_b359 : n0 ≤ b359 := Nat.le_trans (Nat.le_trans Z0 K357.1) (Nat.le_of_eq g359.symm)
  have sz_b359 : h0.size ≤ b359 := Nat.le_trans K357.1 (Nat.le_of_eq g359.symm)
  have K360 : Keep h0 h359 [] := K357.ext E359
  have F359_value : Fld Z h359 b359 "java/lang/String" "value" "[B" .null := D359 (Or.inr (own_w hw 21 rfl)) (ty := (.array .byte)) (by decide)
  have F359_coder : Fld Z h359 b359 "java/lang/String" "coder" "B" (.int (0 : Int32)) := D359 (Or.inr (own_w hw 22 rfl)) (ty := .byte) (by decide)
  have p361 : Go p.tables e below _ (T359.setTop (mkF m 149 #[.val (.int p1), .val (.int p2), .val (.int p3), .val (.int p4), .val (.int p5), .val (.int (4 : Int32)), .val (.int x103), .val (.int x107), .val (.int x111), .val (.int x115), .val (.ref b344), .unset, .unset] [(.ref b344), (.ref b359), (.ref b359)])) := fun t_ k_ => (gc p358 st359) t_ (by
   refine XS.dup X359.here hx rfl (hb hby at_146) rfl rfl ?_
   refine XS.aload X359.here hx rfl (hb hby at_147) rfl rfl ?_
   exact k_)
  have f362 := (V356.ext E359)
  have f363 : Arv Z h359 b344 k344 .char (4 : Int32) [(.int x103), (.int x107), (.int x111), (.int x115)] (.int (0 : Int32)) := by have z := f362; rw [own_narc _ ra0 rb0, own_narc _ ra1 rb1, own_narc _ ra2 rb2, own_narc _ ra3 rb3] at z; exact z
  by_cases hL : ¬ ((255 : Int32) < x103) ∧ ¬ ((255 : Int32) < x107) ∧ ¬ ((255 : Int32) < x111) ∧ ¬ ((255 : Int32) < x115)
  ·have hl := hL
   have f364 := ((((((O1.ext E344).wr W347 ge_b344).wr W350 ge_b344).wr W353 ge_b344).wr W356 ge_b344).ext E359)
   obtain ⟨_, _, ⟨T365, L365, k365, n365⟩, -, X365, ⟨Lc365, hQ365, l365, y365, z365⟩, st365⟩ := X359.specialBack hx (y := (⟨"java/lang/String", "<init>", "([C)V"⟩ : MethodName)) rfl hown (mvT hZ (own_w hw 9 rfl)) (mvT hZ (own_w hw 10 rfl)) (mvT hZ (own_w hw 11 rfl)) (by decide) (backOf (W := 1) (rm2_L4 l Z a0 hw [] b359 b344 k344 x103 x107 x111 x115 cs1 fm h359 n0 (Nat.le_trans Z0 K360.1) f364 G F359_coder F359_value A359 f363 (Ne.symm ne_b344_b359) ge_b359 hL.1 hL.2.1 hL.2.2.1 hL.2.2.2) hZ (own_w hw 11 rfl) (own_w hw 8 rfl) (by decide) (by decide)) (g := (mkF m 149 #[.val (.int p1), .val (.int p2), .val (.int p3), .val (.int p4), .val (.int p5), .val (.int (4 : Int32)), .val (.int x103), .val (.int x107), .val (.int x111), .val (.int x115), .val (.ref b344), .unset, .unset] [(.ref b344), (.ref b359), (.ref b359)])) rfl (by rw [hml]; rfl) (Steps.refl _) (a := b359) (argsL := [(.ref b344)]) (rest := [(.ref b359)]) (lenOf pd17 rfl) rfl (by show 2 * 0 + _ ≤ _; exact Nat.le_of_eq rfl) (hb hby at_149) (fun _ _ => ⟨rfl, e359, (by decide : 2 + 1 ≤ _), (by decide : 8 + 4 ≤ _)⟩)
   dsimp only [Pt.U, Pt.locs, Pt.cells, Pt.slots] at X365 l365 y365 z365 st365 hQ365
   subst l365 y365 z365
   obtain ⟨x366, x367, rfl, N365q, q365_K, q365_E, q365_c, q365_v, q365_g, q365_z, q365_V, q365_n⟩ := hQ365
   have N365 := Fr.app N356 N365q
   have K368 : Keep h0 T365.heap [] := K360.trans q365_K (allS (Or.inr sz_b359) all0)
   have ne_b344_x366 : b344 ≠ x366 := Nat.ne_of_lt (Nat.lt_of_lt_of_le f363.lt q365_z)
   have ne_b359_x366 : b359 ≠ x366 := Nat.ne_of_lt (Nat.lt_of_lt_of_le A359.lt q365_z)
   have p369 : Go p.tables e below _ (T365.setTop (mkF m 162 #[.val (.int p1), .val (.int p2), .val (.int p3), .val (.int p4), .val (.int p5), .val (.int (4 : Int32)), .val (.int x103), .val (.int x107), .val (.int x111), .val (.int x115), .val (.ref b344), .val (.ref b359), .unset] [(.int x103)])) := fun t_ k_ => (gcT p361 st365) t_ (by
    refine XS.astore X365.here hx rfl (hb hby at_152) rfl rfl (l' := #[.val (.int p1), .val (.int p2), .val (.int p3), .val (.int p4), .val (.int p5), .val (.int (4 : Int32)), .val (.int x103), .val (.int x107), .val (.int x111), .val (.int x115), .val (.ref b344), .val (.ref b359), .unset]) rfl ?_
    refine XS.iload X365.here hx rfl (hb hby at_154) rfl ?_
    refine XS.iconst X365.here hx rfl (hb hby at_156) ?_
    refine XS.icmpNo X365.here hx rfl (hb hby at_157) rfl (flt (by decide : ¬ ((4 : Int32) < (1 : Int32)))).1 ?_
    refine XS.iload X365.here hx rfl (hb hby at_160) rfl ?_
    exact k_)
   obtain ⟨_, _, ⟨T370, L370, k370, n370⟩, -, X370, ⟨Lc370, hQ370, l370, y370, z370⟩, st370⟩ := Jvm.LawKit.callS X365 hx (y := (⟨"com/example/kuusi/kuusi/core/LineScannerIsBlankPinLaw", "bl", "(C)Z"⟩ : MethodName)) hown (mvT hZ (own_w hw 52 rfl)) (mvT hZ (own_w hw 53 rfl)) (mvT hZ (own_w hw 3 rfl)) (mvT hZ (own_w hw 54 rfl)) (by decide) (backOf (W := 0) (rm11 l Z a0 hw [] x103 T365.heap n0 (Nat.le_trans Z0 K368.1) ) hZ (own_w hw 54 rfl) (own_w hw 3 rfl) (by decide) (by decide)) (g := (mkF m 162 #[.val (.int p1), .val (.int p2), .val (.int p3), .val (.int p4), .val (.int p5), .val (.int (4 : Int32)), .val (.int x103), .val (.int x107), .val (.int x111), .val (.int x115), .val (.ref b344), .val (.ref b359), .unset] [(.int x103)])) rfl (by rw [hml]; rfl) (argsL := [(.int x103)]) (rest := []) (lenOf pd16 rfl) rfl (by show 2 * 0 + _ ≤ _; exact Nat.le_of_eq rfl) (hb hby at_162) (fun _ _ => ⟨rfl, rfl, (by decide : 3 + 0 ≤ _), (by decide : 12 + 0 ≤ _)⟩)
   dsimp only [Pt.U, Pt.locs, Pt.cells, Pt.slots] at X370 l370 y370 z370 st370 hQ370
   subst l370 y370 z370
   obtain ⟨rfl, N370q, q370_hh⟩ := hQ370
   have N370 := Fr.app N365 N370q
   obtain ⟨T394, L394, X394, e394, N394, p394⟩ : ∃ (T' : State) (L' : List Loc), Stand p l e room_1 s m #[(.int p1), (.int p2), (.int p3), (.int p4), (.int p5)] below meth c T' L' 3 12 ∧ T'.heap = T365.heap ∧ Fr n0 L' ∧ Go p.tables e below (s₁.setTop (entryFrame m #[(.int p1), (.int p2), (.int p3), (.int p4), (.int p5)] maxLocals)) (T'.setTop (mkF m 215 #[.val (.int p1), .val (.int p2), .val (.int p3), .val (.int p4), .val (.int p5), .val (.int (4 : Int32)), .val (.int x103), .val (.int x107), .val (.int x111), .val (.int x115), .val (.ref b344), .val (.ref b359), .unset] [(.int (if (own_bl x103) = (0 : Int32) then (0 : Int32) else (if (own_bl x107) = (0 : Int32) then (0 : Int32) else (if (own_bl x111) = (0 : Int32) then (0 : Int32) else (if (own_bl x115) = (0 : Int32) then (0 : Int32) else (1 : Int32))))))])) := by
    by_cases c371 : (own_bl x103) = (0 : Int32)
    ·have p372 : Go p.tables e below _ (T370.setTop (mkF m 214 #[.val (.int p1), .val (.int p2), .val (.int p3), .val (.int p4), .val (.int p5), .val (.int (4 : Int32)), .val (.int x103), .val (.int x107), .val (.int x111), .val (.int x115), .val (.ref b344), .val (.ref b359), .unset] [])) := fun t_ k_ => (gc p369 st370) t_ (by
      refine XS.ifYes X370.here hx rfl (pc0 := 165) (pc' := 214) rfl (hb hby at_165) rfl ((if0 _ _).trans (teq c371).1) (by decide) (by decide) ?_
      exact k_)
     have p373 : Go p.tables e below _ (T370.setTop (mkF m 215 #[.val (.int p1), .val (.int p2), .val (.int p3), .val (.int p4), .val (.int p5), .val (.int (4 : Int32)), .val (.int x103), .val (.int x107), .val (.int x111), .val (.int x115), .val (.ref b344), .val (.ref b359), .unset] [(.int (0 : Int32))])) := fun t_ k_ => p372 t_ (by
      refine XS.iconst X370.here hx rfl (hb hby at_214) ?_
      exact k_)
     exact ⟨_, _, X370, q370_hh, N370, by simp only [if_pos c371]; exact p373⟩
    ·have p374 : Go p.tables e below _ (T370.setTop (mkF m 168 #[.val (.int p1), .val (.int p2), .val (.int p3), .val (.int p4), .val (.int p5), .val (.int (4 : Int32)), .val (.int x103), .val (.int x107), .val (.int x111), .val (.int x115), .val (.ref b344), .val (.ref b359), .unset] [])) := fun t_ k_ => (gc p369 st370) t_ (by
      refine XS.ifNo X370.here hx rfl (hb hby at_165) rfl ((if0 _ _).trans (feq c371).1) ?_
      exact k_)
     have p375 : Go p.tables e below _ (T370.setTop (mkF m 176 #[.val (.int p1), .val (.int p2), .val (.int p3), .val (.int p4), .val (.int p5), .val (.int (4 : Int32)), .val (.int x103), .val (.int x107), .val (.int x111), .val (.int x115), .val (.ref b344), .val (.ref b359), .unset] [(.int x107)])) := fun t_ k_ => p374 t_ (by
      refine XS.iload X370.here hx rfl (hb hby at_168) rfl ?_
      refine XS.iconst X370.here hx rfl (hb hby at_170) ?_
      refine XS.icmpNo X370.here hx rfl (hb hby at_171) rfl (flt (by decide : ¬ ((4 : Int32) < (2 : Int32)))).1 ?_
      refine XS.iload X370.here hx rfl (hb hby at_174) rfl ?_
      exact k_)
     obtain ⟨_, _, ⟨T376, L376, k376, n376⟩, -, X376, ⟨Lc376, hQ376, l376, y376, z376⟩, st376⟩ := Jvm.LawKit.callS X370 hx (y := (⟨"com/example/kuusi/kuusi/core/LineScannerIsBlankPinLaw", "bl", "(C)Z"⟩ : MethodName)) hown (mvT hZ (own_w hw 52 rfl)) (mvT hZ (own_w hw 53 rfl)) (mvT hZ (own_w hw 3 rfl)) (mvT hZ (own_w hw 54 rfl)) (by decide) (backOf (W := 0) (rm11 l Z a0 hw [] x107 T365.heap n0 (Nat.le_trans Z0 K368.1) ) hZ (own_w hw 54 rfl) (own_w hw 3 rfl) (by decide) (by decide)) (g := (mkF m 176 #[.val (.int p1), .val (.int p2), .val (.int p3), .val (.int p4), .val (.int p5), .val (.int (4 : Int32)), .val (.int x103), .val (.int x107), .val (.int x111), .val (.int x115), .val (.ref b344), .val (.ref b359), .unset] [(.int x107)])) rfl (by rw [hml]; rfl) (argsL := [(.int x107)]) (rest := []) (lenOf pd16 rfl) rfl (by show 2 * 0 + _ ≤ _; exact Nat.le_of_eq rfl) (hb hby at_176) (fun _ _ => ⟨rfl, q370_hh, (by decide : 3 + 0 ≤ _), (by decide : 12 + 0 ≤ _)⟩)
     dsimp only [Pt.U, Pt.locs, Pt.cells, Pt.slots] at X376 l376 y376 z376 st376 hQ376
     subst l376 y376 z376
     obtain ⟨rfl, N376q, q376_hh⟩ := hQ376
     have N376 := Fr.app N370 N376q
     by_cases c377 : (own_bl x107) = (0 : Int32)
     ·have p378 : Go p.tables e below _ (T376.setTop (mkF m 214 #[.val (.int p1), .val (.int p2), .val (.int p3), .val (.int p4), .val (.int p5), .val (.int (4 : Int32)), .val (.int x103), .val (.int x107), .val (.int x111), .val (.int x115), .val (.ref b344), .val (.ref b359), .unset] [])) := fun t_ k_ => (gc p375 st376) t_ (by
       refine XS.ifYes X376.here hx rfl (pc0 := 179) (pc' := 214) rfl (hb hby at_179) rfl ((if0 _ _).trans (teq c377).1) (by decide) (by decide) ?_
       exact k_)
      have p379 : Go p.tables e below _ (T376.setTop (mkF m 215 #[.val (.int p1), .val (.int p2), .val (.int p3), .val (.int p4), .val (.int p5), .val (.int (4 : Int32)), .val (.int x103), .val (.int x107), .val (.int x111), .val (.int x115), .val (.ref b344), .val (.ref b359), .unset] [(.int (0 : Int32))])) := fun t_ k_ => p378 t_ (by
       refine XS.iconst X376.here hx rfl (hb hby at_214) ?_
       exact k_)
      exact ⟨_, _, X376, q376_hh, N376, by simp only [if_neg c371, if_pos c377]; exact p379⟩
     ·have p380 : Go p.tables e below _ (T376.setTop (mkF m 182 #[.val (.int p1), .val (.int p2), .val (.int p3), .val (.int p4), .val (.int p5), .val (.int (4 : Int32)), .val (.int x103), .val (.int x107), .val (.int x111), .val (.int x115), .val (.ref b344), .val (.ref b359), .unset] [])) := fun t_ k_ => (gc p375 st376) t_ (by
       refine XS.ifNo X376.here hx rfl (hb hby at_179) rfl ((if0 _ _).trans (feq c377).1) ?_
       exact k_)
      have p381 : Go p.tables e below _ (T376.setTop (mkF m 190 #[.val (.int p1), .val (.int p2), .val (.int p3), .val (.int p4), .val (.int p5), .val (.int (4 : Int32)), .val (.int x103), .val (.int x107), .val (.int x111), .val (.int x115), .val (.ref b344), .val (.ref b359), .unset] [(.int x111)])) := fun t_ k_ => p380 t_ (by
       refine XS.iload X376.here hx rfl (hb hby at_182) rfl ?_
       refine XS.iconst X376.here hx rfl (hb hby at_184) ?_
       refine XS.icmpNo X376.here hx rfl (hb hby at_185) rfl (flt (by decide : ¬ ((4 : Int32) < (3 : Int32)))).1 ?_
       refine XS.iload X376.here hx rfl (hb hby at_188) rfl ?_
       exact k_)
      obtain ⟨_, _, ⟨T382, L382, k382, n382⟩, -, X382, ⟨Lc382, hQ382, l382, y382, z382⟩, st382⟩ := Jvm.LawKit.callS X376 hx (y := (⟨"com/example/kuusi/kuusi/core/LineScannerIsBlankPinLaw", "bl", "(C)Z"⟩ : MethodName)) hown (mvT hZ (own_w hw 52 rfl)) (mvT hZ (own_w hw 53 rfl)) (mvT hZ (own_w hw 3 rfl)) (mvT hZ (own_w hw 54 rfl)) (by decide) (backOf (W := 0) (rm11 l Z a0 hw [] x111 T365.heap n0 (Nat.le_trans Z0 K368.1) ) hZ (own_w hw 54 rfl) (own_w hw 3 rfl) (by decide) (by decide)) (g := (mkF m 190 #[.val (.int p1), .val (.int p2), .val (.int p3), .val (.int p4), .val (.int p5), .val (.int (4 : Int32)), .val (.int x103), .val (.int x107), .val (.int x111), .val (.int x115), .val (.ref b344), .val (.ref b359), .unset] [(.int x111)])) rfl (by rw [hml]; rfl) (argsL := [(.int x111)]) (rest := []) (lenOf pd16 rfl) rfl (by show 2 * 0 + _ ≤ _; exact Nat.le_of_eq rfl) (hb hby at_190) (fun _ _ => ⟨rfl, q376_hh, (by decide : 3 + 0 ≤ _), (by decide : 12 + 0 ≤ _)⟩)
      dsimp only [Pt.U, Pt.locs, Pt.cells, Pt.slots] at X382 l382 y382 z382 st382 hQ382
      subst l382 y382 z382
      obtain ⟨rfl, N382q, q382_hh⟩ := hQ382
      have N382 := Fr.app N376 N382q
      by_cases c383 : (own_bl x111) = (0 : Int32)
      ·have p384 : Go p.tables e below _ (T382.setTop (mkF m 214 #[.val (.int p1), .val (.int p2), .val (.int p3), .val (.int p4), .val (.int p5), .val (.int (4 : Int32)), .val (.int x103), .val (.int x107), .val (.int x111), .val (.int x115), .val (.ref b344), .val (.ref b359), .unset] [])) := fun t_ k_ => (gc p381 st382) t_ (by
        refine XS.ifYes X382.here hx rfl (pc0 := 193) (pc' := 214) rfl (hb hby at_193) rfl ((if0 _ _).trans (teq c383).1) (by decide) (by decide) ?_
        exact k_)
       have p385 : Go p.tables e below _ (T382.setTop (mkF m 215 #[.val (.int p1), .val (.int p2), .val (.int p3), .val (.int p4), .val (.int p5), .val (.int (4 : Int32)), .val (.int x103), .val (.int x107), .val (.int x111), .val (.int x115), .val (.ref b344), .val (.ref b359), .unset] [(.int (0 : Int32))])) := fun t_ k_ => p384 t_ (by
        refine XS.iconst X382.here hx rfl (hb hby at_214) ?_
        exact k_)
       exact ⟨_, _, X382, q382_hh, N382, by simp only [if_neg c371, if_neg c377, if_pos c383]; exact p385⟩
      ·have p386 : Go p.tables e below _ (T382.setTop (mkF m 196 #[.val (.int p1), .val (.int p2), .val (.int p3), .val (.int p4), .val (.int p5), .val (.int (4 : Int32)), .val (.int x103), .val (.int x107), .val (.int x111), .val (.int x115), .val (.ref b344), .val (.ref b359), .unset] [])) := fun t_ k_ => (gc p381 st382) t_ (by
        refine XS.ifNo X382.here hx rfl (hb hby at_193) rfl ((if0 _ _).trans (feq c383).1) ?_
        exact k_)
       have p387 : Go p.tables e below _ (T382.setTop (mkF m 204 #[.val (.int p1), .val (.int p2), .val (.int p3), .val (.int p4), .val (.int p5), .val (.int (4 : Int32)), .val (.int x103), .val (.int x107), .val (.int x111), .val (.int x115), .val (.ref b344), .val (.ref b359), .unset] [(.int x115)])) := fun t_ k_ => p386 t_ (by
        refine XS.iload X382.here hx rfl (hb hby at_196) rfl ?_
        refine XS.iconst X382.here hx rfl (hb hby at_198) ?_
        refine XS.icmpNo X382.here hx rfl (hb hby at_199) rfl (flt (by decide : ¬ ((4 : Int32) < (4 : Int32)))).1 ?_
        refine XS.iload X382.here hx rfl (hb hby at_202) rfl ?_
        exact k_)
       obtain ⟨_, _, ⟨T388, L388, k388, n388⟩, -, X388, ⟨Lc388, hQ388, l388, y388, z388⟩, st388⟩ := Jvm.LawKit.callS X382 hx (y := (⟨"com/example/kuusi/kuusi/core/LineScannerIsBlankPinLaw", "bl", "(C)Z"⟩ : MethodName)) hown (mvT hZ (own_w hw 52 rfl)) (mvT hZ (own_w hw 53 rfl)) (mvT hZ (own_w hw 3 rfl)) (mvT hZ (own_w hw 54 rfl)) (by decide) (backOf (W := 0) (rm11 l Z a0 hw [] x115 T365.heap n0 (Nat.le_trans Z0 K368.1) ) hZ (own_w hw 54 rfl) (own_w hw 3 rfl) (by decide) (by decide)) (g := (mkF m 204 #[.val (.int p1), .val (.int p2), .val (.int p3), .val (.int p4), .val (.int p5), .val (.int (4 : Int32)), .val (.int x103), .val (.int x107), .val (.int x111), .val (.int x115), .val (.ref b344), .val (.ref b359), .unset] [(.int x115)])) rfl (by rw [hml]; rfl) (argsL := [(.int x115)]) (rest := []) (lenOf pd16 rfl) rfl (by show 2 * 0 + _ ≤ _; exact Nat.le_of_eq rfl) (hb hby at_204) (fun _ _ => ⟨rfl, q382_hh, (by decide : 3 + 0 ≤ _), (by decide : 12 + 0 ≤ _)⟩)
       dsimp only [Pt.U, Pt.locs, Pt.cells, Pt.slots] at X388 l388 y388 z388 st388 hQ388
       subst l388 y388 z388
       obtain ⟨rfl, N388q, q388_hh⟩ := hQ388
       have N388 := Fr.app N382 N388q
       by_cases c389 : (own_bl x115) = (0 : Int32)
       ·have p390 : Go p.tables e below _ (T388.setTop (mkF m 214 #[.val (.int p1), .val (.int p2), .val (.int p3), .val (.int p4), .val (.int p5), .val (.int (4 : Int32)), .val (.int x103), .val (.int x107), .val (.int x111), .val (.int x115), .val (.ref b344), .val (.ref b359), .unset] [])) := fun t_ k_ => (gc p387 st388) t_ (by
         refine XS.ifYes X388.here hx rfl (pc0 := 207) (pc' := 214) rfl (hb hby at_207) rfl ((if0 _ _).trans (teq c389).1) (by decide) (by decide) ?_
         exact k_)
        have p391 : Go p.tables e below _ (T388.setTop (mkF m 215 #[.val (.int p1), .val (.int p2), .val (.int p3), .val (.int p4), .val (.int p5), .val (.int (4 : Int32)), .val (.int x103), .val (.int x107), .val (.int x111), .val (.int x115), .val (.ref b344), .val (.ref b359), .unset] [(.int (0 : Int32))])) := fun t_ k_ => p390 t_ (by
         refine XS.iconst X388.here hx rfl (hb hby at_214) ?_
         exact k_)
        exact ⟨_, _, X388, q388_hh, N388, by simp only [if_neg c371, if_neg c377, if_neg c383, if_pos c389]; exact p391⟩
       ·have p392 : Go p.tables e below _ (T388.setTop (mkF m 210 #[.val (.int p1), .val (.int p2), .val (.int p3), .val (.int p4), .val (.int p5), .val (.int (4 : Int32)), .val (.int x103), .val (.int x107), .val (.int x111), .val (.int x115), .val (.ref b344), .val (.ref b359), .unset] [])) := fun t_ k_ => (gc p387 st388) t_ (by
         refine XS.ifNo X388.here hx rfl (hb hby at_207) rfl ((if0 _ _).trans (feq c389).1) ?_
         exact k_)
        have p393 : Go p.tables e below _ (T388.setTop (mkF m 215 #[.val (.int p1), .val (.int p2), .val (.int p3), .val (.int p4), .val (.int p5), .val (.int (4 : Int32)), .val (.int x103), .val (.int x107), .val (.int x111), .val (.int x115), .val (.ref b344), .val (.ref b359), .unset] [(.int (1 : Int32))])) := fun t_ k_ => p392 t_ (by
         refine XS.iconst X388.here hx rfl (hb hby at_210) ?_
         refine XS.goto X388.here hx rfl (pc0 := 211) (pc' := 215) rfl (hb hby at_211) (by decide) (by decide) ?_
         exact k_)
        exact ⟨_, _, X388, q388_hh, N388, by simp only [if_neg c371, if_neg c377, if_neg c383, if_neg c389]; exact p393⟩
   obtain ⟨ex, hex⟩ : ∃ z, z = (if (own_bl x103) = (0 : Int32) then (0 : Int32) else (if (own_bl x107) = (0 : Int32) then (0 : Int32) else (if (own_bl x111) = (0 : Int32) then (0 : Int32) else (if (own_bl x115) = (0 : Int32) then (0 : Int32) else (1 : Int32))))) := ⟨_, rfl⟩
   have p395 : Go p.tables e below (s₁.setTop (entryFrame m #[(.int p1), (.int p2), (.int p3), (.int p4), (.int p5)] maxLocals)) (T394.setTop (mkF m 215 #[.val (.int p1), .val (.int p2), .val (.int p3), .val (.int p4), .val (.int p5), .val (.int (4 : Int32)), .val (.int x103), .val (.int x107), .val (.int x111), .val (.int x115), .val (.ref b344), .val (.ref b359), .unset] [(.int ex)])) := by rw [hex]; exact p394
   have p396 : Go p.tables e below _ (T394.setTop (mkF m 219 #[.val (.int p1), .val (.int p2), .val (.int p3), .val (.int p4), .val (.int p5), .val (.int (4 : Int32)), .val (.int x103), .val (.int x107), .val (.int x111), .val (.int x115), .val (.ref b344), .val (.ref b359), .val (.int ex)] [(.ref b359)])) := fun t_ k_ => p395 t_ (by
    refine XS.istore X394.here hx rfl (hb hby at_215) rfl (l' := #[.val (.int p1), .val (.int p2), .val (.int p3), .val (.int p4), .val (.int p5), .val (.int (4 : Int32)), .val (.int x103), .val (.int x107), .val (.int x111), .val (.int x115), .val (.ref b344), .val (.ref b359), .val (.int ex)]) rfl ?_
    refine XS.aload X394.here hx rfl (hb hby at_217) rfl rfl ?_
    exact k_)
   have RAp : ∀ i, i < 4 → ¬ (own_at [x103, x107, x111, x115] i < (0 : Int32)) := by
    intro i hi
    rcases (by omega : i = 0 ∨ i = 1 ∨ i = 2 ∨ i = 3) with rfl | rfl | rfl | rfl
    ·exact ra0
    ·exact ra1
    ·exact ra2
    ·exact ra3
   have HBp : ∀ i, i < 4 → ∃ b : Int32, ([(.int (own_xl x103)), (.int (own_xl x107)), (.int (own_xl x111)), (.int (own_xl x115))] : List Value).getD ((Int32.ofNat i)).toNatClampNeg (.int (0 : Int32)) = .int b ∧ own_c8 b = own_at [x103, x107, x111, x115] i := by
    intro i hi
    rcases (by omega : i = 0 ∨ i = 1 ∨ i = 2 ∨ i = 3) with rfl | rfl | rfl | rfl
    ·exact ⟨_, rfl, own_l8 _ ra0 hL.1⟩
    ·exact ⟨_, rfl, own_l8 _ ra1 hL.2.1⟩
    ·exact ⟨_, rfl, own_l8 _ ra2 hL.2.2.1⟩
    ·exact ⟨_, rfl, own_l8 _ ra3 hL.2.2.2⟩
   have f397 := (f364.keep q365_K (allS ge_b359 all0))
   obtain ⟨_, _, ⟨T398, L398, k398, n398⟩, -, X398, ⟨Lc398, hQ398, l398, y398, z398⟩, st398⟩ := Jvm.LawKit.callS X394 hx (y := (⟨"com/example/kuusi/kuusi/core/LineScanner", "isBlank", "(Ljava/lang/String;)Z"⟩ : MethodName)) hown (mvT hZ (own_w hw 27 rfl)) (mvT hZ (own_w hw 28 rfl)) (mvT hZ (own_w hw 29 rfl)) (mvT hZ (own_w hw 30 rfl)) (by decide) (backOf (W := 0) (rm5_0 l Z a0 hw [] b359 x366 x367 (4 : Int32) [(.int (own_xl x103)), (.int (own_xl x107)), (.int (own_xl x111)), (.int (own_xl x115))] [x103, x107, x111, x115] 4 ab kab vsb cs1 fm T365.heap n0 (Nat.le_trans Z0 K368.1) f397 G AS AV HT q365_E q365_c q365_v q365_V (by decide) (by decide) RAp HBp rfl) hZ (own_w hw 30 rfl) (own_w hw 29 rfl) (by decide) (by decide)) (g := (mkF m 219 #[.val (.int p1), .val (.int p2), .val (.int p3), .val (.int p4), .val (.int p5), .val (.int (4 : Int32)), .val (.int x103), .val (.int x107), .val (.int x111), .val (.int x115), .val (.ref b344), .val (.ref b359), .val (.int ex)] [(.ref b359)])) rfl (by rw [hml]; rfl) (argsL := [(.ref b359)]) (rest := []) (lenOf pd18 rfl) rfl (by show 2 * 0 + _ ≤ _; exact Nat.le_of_eq rfl) (hb hby at_219) (fun _ _ => ⟨rfl, e394, (by decide : 3 + 0 ≤ _), (by decide : 12 + 0 ≤ _)⟩)
   dsimp only [Pt.U, Pt.locs, Pt.cells, Pt.slots] at X398 l398 y398 z398 st398 hQ398
   subst l398 y398 z398
   obtain ⟨rfl, N398q, q398_hh⟩ := hQ398
   have N398 := Fr.app N394 N398q
   have p399 : Go p.tables e below _ (T398.setTop (mkF m 224 #[.val (.int p1), .val (.int p2), .val (.int p3), .val (.int p4), .val (.int p5), .val (.int (4 : Int32)), .val (.int x103), .val (.int x107), .val (.int x111), .val (.int x115), .val (.ref b344), .val (.ref b359), .val (.int ex)] [(.int ex), (.int (own_ac [x103, x107, x111, x115] 4))])) := fun t_ k_ => (gc p396 st398) t_ (by
    refine XS.iload X398.here hx rfl (hb hby at_222) rfl ?_
    exact k_)
   have c400 : ((own_ac [x103, x107, x111, x115] 4) = ex) := by rw [hex]; exact own_ac4 x103 x107 x111 x115
   have p401 : Go p.tables e below _ (T398.setTop (mkF m 232 #[.val (.int p1), .val (.int p2), .val (.int p3), .val (.int p4), .val (.int p5), .val (.int (4 : Int32)), .val (.int x103), .val (.int x107), .val (.int x111), .val (.int x115), .val (.ref b344), .val (.ref b359), .val (.int ex)] [(.int (1 : Int32))])) := fun t_ k_ => p399 t_ (by
    refine XS.icmpNo X398.here hx rfl (hb hby at_224) rfl (teq c400).2 ?_
    refine XS.iconst X398.here hx rfl (hb hby at_227) ?_
    refine XS.goto X398.here hx rfl (pc0 := 228) (pc' := 232) rfl (hb hby at_228) (by decide) (by decide) ?_
    exact k_)
   obtain ⟨fs, hr, hrun, hended, hW, hsame⟩ := X398.leave (v := some (.int (1 : Int32))) (fun h => by rw [Bd.returns] at h; cases h)
   refine ⟨_, _, p401 _ (retN X398 hx (t := .boolean) Bd.returns (by simp) (hb hby at_232) hr), hrun, hended, _, _, rfl, ?_, ReturnedEndW.of_narrow ⟨_, rfl⟩ hW (hsame.mono (by decide) (by decide))⟩
   show Q0 Z p1 p2 p3 p4 p5 ab kab vsb cs1 fm h0 n0 _ T398.heap _
   rw [q398_hh]
   exact ⟨rfl, N398⟩
  ·have big : ((255 : Int32) < x103) ∨ ((255 : Int32) < x107) ∨ ((255 : Int32) < x111) ∨ ((255 : Int32) < x115) := by
    refine Classical.byContradiction fun q => hL ⟨fun z => q (Or.inl z), fun z => q (Or.inr (Or.inl z)), fun z => q (Or.inr (Or.inr (Or.inl z))), fun z => q (Or.inr (Or.inr (Or.inr (z))))⟩
   have f402 := ((((((O1.ext E344).wr W347 ge_b344).wr W350 ge_b344).wr W353 ge_b344).wr W356 ge_b344).ext E359)
   obtain ⟨_, _, ⟨T403, L403, k403, n403⟩, -, X403, ⟨Lc403, hQ403, l403, y403, z403⟩, st403⟩ := X359.specialBack hx (y := (⟨"java/lang/String", "<init>", "([C)V"⟩ : MethodName)) rfl hown (mvT hZ (own_w hw 9 rfl)) (mvT hZ (own_w hw 10 rfl)) (mvT hZ (own_w hw 11 rfl)) (by decide) (backOf (W := 1) (rm2_U4 l Z a0 hw [] b359 b344 k344 x103 x107 x111 x115 cs1 fm h359 n0 (Nat.le_trans Z0 K360.1) f402 G F359_coder F359_value A359 f363 (Ne.symm ne_b344_b359) ge_b359 ra0 rb0 ra1 rb1 ra2 rb2 ra3 rb3 big) hZ (own_w hw 11 rfl) (own_w hw 8 rfl) (by decide) (by decide)) (g := (mkF m 149 #[.val (.int p1), .val (.int p2), .val (.int p3), .val (.int p4), .val (.int p5), .val (.int (4 : Int32)), .val (.int x103), .val (.int x107), .val (.int x111), .val (.int x115), .val (.ref b344), .unset, .unset] [(.ref b344), (.ref b359), (.ref b359)])) rfl (by rw [hml]; rfl) (Steps.refl _) (a := b359) (argsL := [(.ref b344)]) (rest := [(.ref b359)]) (lenOf pd17 rfl) rfl (by show 2 * 0 + _ ≤ _; exact Nat.le_of_eq rfl) (hb hby at_149) (fun _ _ => ⟨rfl, e359, (by decide : 2 + 2 ≤ _), (by decide : 8 + 12 ≤ _)⟩)
   dsimp only [Pt.U, Pt.locs, Pt.cells, Pt.slots] at X403 l403 y403 z403 st403 hQ403
   subst l403 y403 z403
   obtain ⟨x404, x405, rfl, N403q, q403_K, q403_E, q403_c, q403_v, q403_g, q403_z, q403_V, q403_n⟩ := hQ403
   have N403 := Fr.app N356 N403q
   have K406 : Keep h0 T403.heap [] := K360.trans q403_K (allS (Or.inr sz_b359) all0)
   have ne_b344_x404 : b344 ≠ x404 := Nat.ne_of_lt (Nat.lt_of_lt_of_le f363.lt q403_z)
   have ne_b359_x404 : b359 ≠ x404 := Nat.ne_of_lt (Nat.lt_of_lt_of_le A359.lt q403_z)
   have p407 : Go p.tables e below _ (T403.setTop (mkF m 162 #[.val (.int p1), .val (.int p2), .val (.int p3), .val (.int p4), .val (.int p5), .val (.int (4 : Int32)), .val (.int x103), .val (.int x107), .val (.int x111), .val (.int x115), .val (.ref b344), .val (.ref b359), .unset] [(.int x103)])) := fun t_ k_ => (gcT p361 st403) t_ (by
    refine XS.astore X403.here hx rfl (hb hby at_152) rfl rfl (l' := #[.val (.int p1), .val (.int p2), .val (.int p3), .val (.int p4), .val (.int p5), .val (.int (4 : Int32)), .val (.int x103), .val (.int x107), .val (.int x111), .val (.int x115), .val (.ref b344), .val (.ref b359), .unset]) rfl ?_
    refine XS.iload X403.here hx rfl (hb hby at_154) rfl ?_
    refine XS.iconst X403.here hx rfl (hb hby at_156) ?_
    refine XS.icmpNo X403.here hx rfl (hb hby at_157) rfl (flt (by decide : ¬ ((4 : Int32) < (1 : Int32)))).1 ?_
    refine XS.iload X403.here hx rfl (hb hby at_160) rfl ?_
    exact k_)
   obtain ⟨_, _, ⟨T408, L408, k408, n408⟩, -, X408, ⟨Lc408, hQ408, l408, y408, z408⟩, st408⟩ := Jvm.LawKit.callS X403 hx (y := (⟨"com/example/kuusi/kuusi/core/LineScannerIsBlankPinLaw", "bl", "(C)Z"⟩ : MethodName)) hown (mvT hZ (own_w hw 52 rfl)) (mvT hZ (own_w hw 53 rfl)) (mvT hZ (own_w hw 3 rfl)) (mvT hZ (own_w hw 54 rfl)) (by decide) (backOf (W := 0) (rm11 l Z a0 hw [] x103 T403.heap n0 (Nat.le_trans Z0 K406.1) ) hZ (own_w hw 54 rfl) (own_w hw 3 rfl) (by decide) (by decide)) (g := (mkF m 162 #[.val (.int p1), .val (.int p2), .val (.int p3), .val (.int p4), .val (.int p5), .val (.int (4 : Int32)), .val (.int x103), .val (.int x107), .val (.int x111), .val (.int x115), .val (.ref b344), .val (.ref b359), .unset] [(.int x103)])) rfl (by rw [hml]; rfl) (argsL := [(.int x103)]) (rest := []) (lenOf pd16 rfl) rfl (by show 2 * 0 + _ ≤ _; exact Nat.le_of_eq rfl) (hb hby at_162) (fun _ _ => ⟨rfl, rfl, (by decide : 4 + 0 ≤ _), (by decide : 20 + 0 ≤ _)⟩)
   dsimp only [Pt.U, Pt.locs, Pt.cells, Pt.slots] at X408 l408 y408 z408 st408 hQ408
   subst l408 y408 z408
   obtain ⟨rfl, N408q, q408_hh⟩ := hQ408
   have N408 := Fr.app N403 N408q
   obtain ⟨T432, L432, X432, e432, N432, p432⟩ : ∃ (T' : State) (L' : List Loc), Stand p l e room_1 s m #[(.int p1), (.int p2), (.int p3), (.int p4), (.int p5)] below meth c T' L' 4 20 ∧ T'.heap = T403.heap ∧ Fr n0 L' ∧ Go p.tables e below (s₁.setTop (entryFrame m #[(.int p1), (.int p2), (.int p3), (.int p4), (.int p5)] maxLocals)) (T'.setTop (mkF m 215 #[.val (.int p1), .val (.int p2), .val (.int p3), .val (.int p4), .val (.int p5), .val (.int (4 : Int32)), .val (.int x103), .val (.int x107), .val (.int x111), .val (.int x115), .val (.ref b344), .val (.ref b359), .unset] [(.int (if (own_bl x103) = (0 : Int32) then (0 : Int32) else (if (own_bl x107) = (0 : Int32) then (0 : Int32) else (if (own_bl x111) = (0 : Int32) then (0 : Int32) else (if (own_bl x115) = (0 : Int32) then (0 : Int32) else (1 : Int32))))))])) := by
    by_cases c409 : (own_bl x103) = (0 : Int32)
    ·have p410 : Go p.tables e below _ (T408.setTop (mkF m 214 #[.val (.int p1), .val (.int p2), .val (.int p3), .val (.int p4), .val (.int p5), .val (.int (4 : Int32)), .val (.int x103), .val (.int x107), .val (.int x111), .val (.int x115), .val (.ref b344), .val (.ref b359), .unset] [])) := fun t_ k_ => (gc p407 st408) t_ (by
      refine XS.ifYes X408.here hx rfl (pc0 := 165) (pc' := 214) rfl (hb hby at_165) rfl ((if0 _ _).trans (teq c409).1) (by decide) (by decide) ?_
      exact k_)
     have p411 : Go p.tables e below _ (T408.setTop (mkF m 215 #[.val (.int p1), .val (.int p2), .val (.int p3), .val (.int p4), .val (.int p5), .val (.int (4 : Int32)), .val (.int x103), .val (.int x107), .val (.int x111), .val (.int x115), .val (.ref b344), .val (.ref b359), .unset] [(.int (0 : Int32))])) := fun t_ k_ => p410 t_ (by
      refine XS.iconst X408.here hx rfl (hb hby at_214) ?_
      exact k_)
     exact ⟨_, _, X408, q408_hh, N408, by simp only [if_pos c409]; exact p411⟩
    ·have p412 : Go p.tables e below _ (T408.setTop (mkF m 168 #[.val (.int p1), .val (.int p2), .val (.int p3), .val (.int p4), .val (.int p5), .val (.int (4 : Int32)), .val (.int x103), .val (.int x107), .val (.int x111), .val (.int x115), .val (.ref b344), .val (.ref b359), .unset] [])) := fun t_ k_ => (gc p407 st408) t_ (by
      refine XS.ifNo X408.here hx rfl (hb hby at_165) rfl ((if0 _ _).trans (feq c409).1) ?_
      exact k_)
     have p413 : Go p.tables e below _ (T408.setTop (mkF m 176 #[.val (.int p1), .val (.int p2), .val (.int p3), .val (.int p4), .val (.int p5), .val (.int (4 : Int32)), .val (.int x103), .val (.int x107), .val (.int x111), .val (.int x115), .val (.ref b344), .val (.ref b359), .unset] [(.int x107)])) := fun t_ k_ => p412 t_ (by
      refine XS.iload X408.here hx rfl (hb hby at_168) rfl ?_
      refine XS.iconst X408.here hx rfl (hb hby at_170) ?_
      refine XS.icmpNo X408.here hx rfl (hb hby at_171) rfl (flt (by decide : ¬ ((4 : Int32) < (2 : Int32)))).1 ?_
      refine XS.iload X408.here hx rfl (hb hby at_174) rfl ?_
      exact k_)
     obtain ⟨_, _, ⟨T414, L414, k414, n414⟩, -, X414, ⟨Lc414, hQ414, l414, y414, z414⟩, st414⟩ := Jvm.LawKit.callS X408 hx (y := (⟨"com/example/kuusi/kuusi/core/LineScannerIsBlankPinLaw", "bl", "(C)Z"⟩ : MethodName)) hown (mvT hZ (own_w hw 52 rfl)) (mvT hZ (own_w hw 53 rfl)) (mvT hZ (own_w hw 3 rfl)) (mvT hZ (own_w hw 54 rfl)) (by decide) (backOf (W := 0) (rm11 l Z a0 hw [] x107 T403.heap n0 (Nat.le_trans Z0 K406.1) ) hZ (own_w hw 54 rfl) (own_w hw 3 rfl) (by decide) (by decide)) (g := (mkF m 176 #[.val (.int p1), .val (.int p2), .val (.int p3), .val (.int p4), .val (.int p5), .val (.int (4 : Int32)), .val (.int x103), .val (.int x107), .val (.int x111), .val (.int x115), .val (.ref b344), .val (.ref b359), .unset] [(.int x107)])) rfl (by rw [hml]; rfl) (argsL := [(.int x107)]) (rest := []) (lenOf pd16 rfl) rfl (by show 2 * 0 + _ ≤ _; exact Nat.le_of_eq rfl) (hb hby at_176) (fun _ _ => ⟨rfl, q408_hh, (by decide : 4 + 0 ≤ _), (by decide : 20 + 0 ≤ _)⟩)
     dsimp only [Pt.U, Pt.locs, Pt.cells, Pt.slots] at X414 l414 y414 z414 st414 hQ414
     subst l414 y414 z414
     obtain ⟨rfl, N414q, q414_hh⟩ := hQ414
     have N414 := Fr.app N408 N414q
     by_cases c415 : (own_bl x107) = (0 : Int32)
     ·have p416 : Go p.tables e below _ (T414.setTop (mkF m 214 #[.val (.int p1), .val (.int p2), .val (.int p3), .val (.int p4), .val (.int p5), .val (.int (4 : Int32)), .val (.int x103), .val (.int x107), .val (.int x111), .val (.int x115), .val (.ref b344), .val (.ref b359), .unset] [])) := fun t_ k_ => (gc p413 st414) t_ (by
       refine XS.ifYes X414.here hx rfl (pc0 := 179) (pc' := 214) rfl (hb hby at_179) rfl ((if0 _ _).trans (teq c415).1) (by decide) (by decide) ?_
       exact k_)
      have p417 : Go p.tables e below _ (T414.setTop (mkF m 215 #[.val (.int p1), .val (.int p2), .val (.int p3), .val (.int p4), .val (.int p5), .val (.int (4 : Int32)), .val (.int x103), .val (.int x107), .val (.int x111), .val (.int x115), .val (.ref b344), .val (.ref b359), .unset] [(.int (0 : Int32))])) := fun t_ k_ => p416 t_ (by
       refine XS.iconst X414.here hx rfl (hb hby at_214) ?_
       exact k_)
      exact ⟨_, _, X414, q414_hh, N414, by simp only [if_neg c409, if_pos c415]; exact p417⟩
     ·have p418 : Go p.tables e below _ (T414.setTop (mkF m 182 #[.val (.int p1), .val (.int p2), .val (.int p3), .val (.int p4), .val (.int p5), .val (.int (4 : Int32)), .val (.int x103), .val (.int x107), .val (.int x111), .val (.int x115), .val (.ref b344), .val (.ref b359), .unset] [])) := fun t_ k_ => (gc p413 st414) t_ (by
       refine XS.ifNo X414.here hx rfl (hb hby at_179) rfl ((if0 _ _).trans (feq c415).1) ?_
       exact k_)
      have p419 : Go p.tables e below _ (T414.setTop (mkF m 190 #[.val (.int p1), .val (.int p2), .val (.int p3), .val (.int p4), .val (.int p5), .val (.int (4 : Int32)), .val (.int x103), .val (.int x107), .val (.int x111), .val (.int x115), .val (.ref b344), .val (.ref b359), .unset] [(.int x111)])) := fun t_ k_ => p418 t_ (by
       refine XS.iload X414.here hx rfl (hb hby at_182) rfl ?_
       refine XS.iconst X414.here hx rfl (hb hby at_184) ?_
       refine XS.icmpNo X414.here hx rfl (hb hby at_185) rfl (flt (by decide : ¬ ((4 : Int32) < (3 : Int32)))).1 ?_
       refine XS.iload X414.here hx rfl (hb hby at_188) rfl ?_
       exact k_)
      obtain ⟨_, _, ⟨T420, L420, k420, n420⟩, -, X420, ⟨Lc420, hQ420, l420, y420, z420⟩, st420⟩ := Jvm.LawKit.callS X414 hx (y := (⟨"com/example/kuusi/kuusi/core/LineScannerIsBlankPinLaw", "bl", "(C)Z"⟩ : MethodName)) hown (mvT hZ (own_w hw 52 rfl)) (mvT hZ (own_w hw 53 rfl)) (mvT hZ (own_w hw 3 rfl)) (mvT hZ (own_w hw 54 rfl)) (by decide) (backOf (W := 0) (rm11 l Z a0 hw [] x111 T403.heap n0 (Nat.le_trans Z0 K406.1) ) hZ (own_w hw 54 rfl) (own_w hw 3 rfl) (by decide) (by decide)) (g := (mkF m 190 #[.val (.int p1), .val (.int p2), .val (.int p3), .val (.int p4), .val (.int p5), .val (.int (4 : Int32)), .val (.int x103), .val (.int x107), .val (.int x111), .val (.int x115), .val (.ref b344), .val (.ref b359), .unset] [(.int x111)])) rfl (by rw [hml]; rfl) (argsL := [(.int x111)]) (rest := []) (lenOf pd16 rfl) rfl (by show 2 * 0 + _ ≤ _; exact Nat.le_of_eq rfl) (hb hby at_190) (fun _ _ => ⟨rfl, q414_hh, (by decide : 4 + 0 ≤ _), (by decide : 20 + 0 ≤ _)⟩)
      dsimp only [Pt.U, Pt.locs, Pt.cells, Pt.slots] at X420 l420 y420 z420 st420 hQ420
      subst l420 y420 z420
      obtain ⟨rfl, N420q, q420_hh⟩ := hQ420
      have N420 := Fr.app N414 N420q
      by_cases c421 : (own_bl x111) = (0 : Int32)
      ·have p422 : Go p.tables e below _ (T420.setTop (mkF m 214 #[.val (.int p1), .val (.int p2), .val (.int p3), .val (.int p4), .val (.int p5), .val (.int (4 : Int32)), .val (.int x103), .val (.int x107), .val (.int x111), .val (.int x115), .val (.ref b344), .val (.ref b359), .unset] [])) := fun t_ k_ => (gc p419 st420) t_ (by
        refine XS.ifYes X420.here hx rfl (pc0 := 193) (pc' := 214) rfl (hb hby at_193) rfl ((if0 _ _).trans (teq c421).1) (by decide) (by decide) ?_
        exact k_)
       have p423 : Go p.tables e below _ (T420.setTop (mkF m 215 #[.val (.int p1), .val (.int p2), .val (.int p3), .val (.int p4), .val (.int p5), .val (.int (4 : Int32)), .val (.int x103), .val (.int x107), .val (.int x111), .val (.int x115), .val (.ref b344), .val (.ref b359), .unset] [(.int (0 : Int32))])) := fun t_ k_ => p422 t_ (by
        refine XS.iconst X420.here hx rfl (hb hby at_214) ?_
        exact k_)
       exact ⟨_, _, X420, q420_hh, N420, by simp only [if_neg c409, if_neg c415, if_pos c421]; exact p423⟩
      ·have p424 : Go p.tables e below _ (T420.setTop (mkF m 196 #[.val (.int p1), .val (.int p2), .val (.int p3), .val (.int p4), .val (.int p5), .val (.int (4 : Int32)), .val (.int x103), .val (.int x107), .val (.int x111), .val (.int x115), .val (.ref b344), .val (.ref b359), .unset] [])) := fun t_ k_ => (gc p419 st420) t_ (by
        refine XS.ifNo X420.here hx rfl (hb hby at_193) rfl ((if0 _ _).trans (feq c421).1) ?_
        exact k_)
       have p425 : Go p.tables e below _ (T420.setTop (mkF m 204 #[.val (.int p1), .val (.int p2), .val (.int p3), .val (.int p4), .val (.int p5), .val (.int (4 : Int32)), .val (.int x103), .val (.int x107), .val (.int x111), .val (.int x115), .val (.ref b344), .val (.ref b359), .unset] [(.int x115)])) := fun t_ k_ => p424 t_ (by
        refine XS.iload X420.here hx rfl (hb hby at_196) rfl ?_
        refine XS.iconst X420.here hx rfl (hb hby at_198) ?_
        refine XS.icmpNo X420.here hx rfl (hb hby at_199) rfl (flt (by decide : ¬ ((4 : Int32) < (4 : Int32)))).1 ?_
        refine XS.iload X420.here hx rfl (hb hby at_202) rfl ?_
        exact k_)
       obtain ⟨_, _, ⟨T426, L426, k426, n426⟩, -, X426, ⟨Lc426, hQ426, l426, y426, z426⟩, st426⟩ := Jvm.LawKit.callS X420 hx (y := (⟨"com/example/kuusi/kuusi/core/LineScannerIsBlankPinLaw", "bl", "(C)Z"⟩ : MethodName)) hown (mvT hZ (own_w hw 52 rfl)) (mvT hZ (own_w hw 53 rfl)) (mvT hZ (own_w hw 3 rfl)) (mvT hZ (own_w hw 54 rfl)) (by decide) (backOf (W := 0) (rm11 l Z a0 hw [] x115 T403.heap n0 (Nat.le_trans Z0 K406.1) ) hZ (own_w hw 54 rfl) (own_w hw 3 rfl) (by decide) (by decide)) (g := (mkF m 204 #[.val (.int p1), .val (.int p2), .val (.int p3), .val (.int p4), .val (.int p5), .val (.int (4 : Int32)), .val (.int x103), .val (.int x107), .val (.int x111), .val (.int x115), .val (.ref b344), .val (.ref b359), .unset] [(.int x115)])) rfl (by rw [hml]; rfl) (argsL := [(.int x115)]) (rest := []) (lenOf pd16 rfl) rfl (by show 2 * 0 + _ ≤ _; exact Nat.le_of_eq rfl) (hb hby at_204) (fun _ _ => ⟨rfl, q420_hh, (by decide : 4 + 0 ≤ _), (by decide : 20 + 0 ≤ _)⟩)
       dsimp only [Pt.U, Pt.locs, Pt.cells, Pt.slots] at X426 l426 y426 z426 st426 hQ426
       subst l426 y426 z426
       obtain ⟨rfl, N426q, q426_hh⟩ := hQ426
       have N426 := Fr.app N420 N426q
       by_cases c427 : (own_bl x115) = (0 : Int32)
       ·have p428 : Go p.tables e below _ (T426.setTop (mkF m 214 #[.val (.int p1), .val (.int p2), .val (.int p3), .val (.int p4), .val (.int p5), .val (.int (4 : Int32)), .val (.int x103), .val (.int x107), .val (.int x111), .val (.int x115), .val (.ref b344), .val (.ref b359), .unset] [])) := fun t_ k_ => (gc p425 st426) t_ (by
         refine XS.ifYes X426.here hx rfl (pc0 := 207) (pc' := 214) rfl (hb hby at_207) rfl ((if0 _ _).trans (teq c427).1) (by decide) (by decide) ?_
         exact k_)
        have p429 : Go p.tables e below _ (T426.setTop (mkF m 215 #[.val (.int p1), .val (.int p2), .val (.int p3), .val (.int p4), .val (.int p5), .val (.int (4 : Int32)), .val (.int x103), .val (.int x107), .val (.int x111), .val (.int x115), .val (.ref b344), .val (.ref b359), .unset] [(.int (0 : Int32))])) := fun t_ k_ => p428 t_ (by
         refine XS.iconst X426.here hx rfl (hb hby at_214) ?_
         exact k_)
        exact ⟨_, _, X426, q426_hh, N426, by simp only [if_neg c409, if_neg c415, if_neg c421, if_pos c427]; exact p429⟩
       ·have p430 : Go p.tables e below _ (T426.setTop (mkF m 210 #[.val (.int p1), .val (.int p2), .val (.int p3), .val (.int p4), .val (.int p5), .val (.int (4 : Int32)), .val (.int x103), .val (.int x107), .val (.int x111), .val (.int x115), .val (.ref b344), .val (.ref b359), .unset] [])) := fun t_ k_ => (gc p425 st426) t_ (by
         refine XS.ifNo X426.here hx rfl (hb hby at_207) rfl ((if0 _ _).trans (feq c427).1) ?_
         exact k_)
        have p431 : Go p.tables e below _ (T426.setTop (mkF m 215 #[.val (.int p1), .val (.int p2), .val (.int p3), .val (.int p4), .val (.int p5), .val (.int (4 : Int32)), .val (.int x103), .val (.int x107), .val (.int x111), .val (.int x115), .val (.ref b344), .val (.ref b359), .unset] [(.int (1 : Int32))])) := fun t_ k_ => p430 t_ (by
         refine XS.iconst X426.here hx rfl (hb hby at_210) ?_
         refine XS.goto X426.here hx rfl (pc0 := 211) (pc' := 215) rfl (hb hby at_211) (by decide) (by decide) ?_
         exact k_)
        exact ⟨_, _, X426, q426_hh, N426, by simp only [if_neg c409, if_neg c415, if_neg c421, if_neg c427]; exact p431⟩
   obtain ⟨ex, hex⟩ : ∃ z, z = (if (own_bl x103) = (0 : Int32) then (0 : Int32) else (if (own_bl x107) = (0 : Int32) then (0 : Int32) else (if (own_bl x111) = (0 : Int32) then (0 : Int32) else (if (own_bl x115) = (0 : Int32) then (0 : Int32) else (1 : Int32))))) := ⟨_, rfl⟩
   have p433 : Go p.tables e below (s₁.setTop (entryFrame m #[(.int p1), (.int p2), (.int p3), (.int p4), (.int p5)] maxLocals)) (T432.setTop (mkF m 215 #[.val (.int p1), .val (.int p2), .val (.int p3), .val (.int p4), .val (.int p5), .val (.int (4 : Int32)), .val (.int x103), .val (.int x107), .val (.int x111), .val (.int x115), .val (.ref b344), .val (.ref b359), .unset] [(.int ex)])) := by rw [hex]; exact p432
   have p434 : Go p.tables e below _ (T432.setTop (mkF m 219 #[.val (.int p1), .val (.int p2), .val (.int p3), .val (.int p4), .val (.int p5), .val (.int (4 : Int32)), .val (.int x103), .val (.int x107), .val (.int x111), .val (.int x115), .val (.ref b344), .val (.ref b359), .val (.int ex)] [(.ref b359)])) := fun t_ k_ => p433 t_ (by
    refine XS.istore X432.here hx rfl (hb hby at_215) rfl (l' := #[.val (.int p1), .val (.int p2), .val (.int p3), .val (.int p4), .val (.int p5), .val (.int (4 : Int32)), .val (.int x103), .val (.int x107), .val (.int x111), .val (.int x115), .val (.ref b344), .val (.ref b359), .val (.int ex)]) rfl ?_
    refine XS.aload X432.here hx rfl (hb hby at_217) rfl rfl ?_
    exact k_)
   have RAp : ∀ i, i < 4 → ¬ (own_at [x103, x107, x111, x115] i < (0 : Int32)) := by
    intro i hi
    rcases (by omega : i = 0 ∨ i = 1 ∨ i = 2 ∨ i = 3) with rfl | rfl | rfl | rfl
    ·exact ra0
    ·exact ra1
    ·exact ra2
    ·exact ra3
   have HBp : ∀ i, i < 4 → ∃ b0 b1 : Int32, (¬ ((Int32.ofNat i) <<< (1 : Int32)) < 0 ∧ ((Int32.ofNat i) <<< (1 : Int32)) < (8 : Int32)) ∧ (¬ (((Int32.ofNat i) <<< (1 : Int32)) + (1 : Int32)) < 0 ∧ (((Int32.ofNat i) <<< (1 : Int32)) + (1 : Int32)) < (8 : Int32)) ∧ ([(.int (own_x0 x103)), (.int (own_x8 x103)), (.int (own_x0 x107)), (.int (own_x8 x107)), (.int (own_x0 x111)), (.int (own_x8 x111)), (.int (own_x0 x115)), (.int (own_x8 x115))] : List Value).getD (((Int32.ofNat i) <<< (1 : Int32))).toNatClampNeg (.int (0 : Int32)) = .int b0 ∧ ([(.int (own_x0 x103)), (.int (own_x8 x103)), (.int (own_x0 x107)), (.int (own_x8 x107)), (.int (own_x0 x111)), (.int (own_x8 x111)), (.int (own_x0 x115)), (.int (own_x8 x115))] : List Value).getD ((((Int32.ofNat i) <<< (1 : Int32)) + (1 : Int32))).toNatClampNeg (.int (0 : Int32)) = .int b1 ∧ own_c16 b0 b1 = own_at [x103, x107, x111, x115] i := by
    intro i hi
    rcases (by omega : i = 0 ∨ i = 1 ∨ i = 2 ∨ i = 3) with rfl | rfl | rfl | rfl
    ·exact ⟨_, _, by decide, by decide, rfl, rfl, own_l16 _ ra0 rb0⟩
    ·exact ⟨_, _, by decide, by decide, rfl, rfl, own_l16 _ ra1 rb1⟩
    ·exact ⟨_, _, by decide, by decide, rfl, rfl, own_l16 _ ra2 rb2⟩
    ·exact ⟨_, _, by decide, by decide, rfl, rfl, own_l16 _ ra3 rb3⟩
   have f435 := (f402.keep q403_K (allS ge_b359 all0))
   obtain ⟨_, _, ⟨T436, L436, k436, n436⟩, -, X436, ⟨Lc436, hQ436, l436, y436, z436⟩, st436⟩ := Jvm.LawKit.callS X432 hx (y := (⟨"com/example/kuusi/kuusi/core/LineScanner", "isBlank", "(Ljava/lang/String;)Z"⟩ : MethodName)) hown (mvT hZ (own_w hw 27 rfl)) (mvT hZ (own_w hw 28 rfl)) (mvT hZ (own_w hw 29 rfl)) (mvT hZ (own_w hw 30 rfl)) (by decide) (backOf (W := 0) (rm5_1 l Z a0 hw [] b359 x404 x405 (8 : Int32) [(.int (own_x0 x103)), (.int (own_x8 x103)), (.int (own_x0 x107)), (.int (own_x8 x107)), (.int (own_x0 x111)), (.int (own_x8 x111)), (.int (own_x0 x115)), (.int (own_x8 x115))] [x103, x107, x111, x115] 4 ab kab vsb cs1 fm T403.heap n0 (Nat.le_trans Z0 K406.1) f435 G AS AV HT q403_E q403_c q403_v q403_V (by decide) (by decide) RAp HBp) hZ (own_w hw 30 rfl) (own_w hw 29 rfl) (by decide) (by decide)) (g := (mkF m 219 #[.val (.int p1), .val (.int p2), .val (.int p3), .val (.int p4), .val (.int p5), .val (.int (4 : Int32)), .val (.int x103), .val (.int x107), .val (.int x111), .val (.int x115), .val (.ref b344), .val (.ref b359), .val (.int ex)] [(.ref b359)])) rfl (by rw [hml]; rfl) (argsL := [(.ref b359)]) (rest := []) (lenOf pd18 rfl) rfl (by show 2 * 0 + _ ≤ _; exact Nat.le_of_eq rfl) (hb hby at_219) (fun _ _ => ⟨rfl, e432, (by decide : 4 + 0 ≤ _), (by decide : 20 + 0 ≤ _)⟩)
   dsimp only [Pt.U, Pt.locs, Pt.cells, Pt.slots] at X436 l436 y436 z436 st436 hQ436
   subst l436 y436 z436
   obtain ⟨rfl, N436q, q436_hh⟩ := hQ436
   have N436 := Fr.app N432 N436q
   have p437 : Go p.tables e below _ (T436.setTop (mkF m 224 #[.val (.int p1), .val (.int p2), .val (.int p3), .val (.int p4), .val (.int p5), .val (.int (4 : Int32)), .val (.int x103), .val (.int x107), .val (.int x111), .val (.int x115), .val (.ref b344), .val (.ref b359), .val (.int ex)] [(.int ex), (.int (own_ac [x103, x107, x111, x115] 4))])) := fun t_ k_ => (gc p434 st436) t_ (by
    refine XS.iload X436.here hx rfl (hb hby at_222) rfl ?_
    exact k_)
   have c438 : ((own_ac [x103, x107, x111, x115] 4) = ex) := by rw [hex]; exact own_ac4 x103 x107 x111 x115
   have p439 : Go p.tables e below _ (T436.setTop (mkF m 232 #[.val (.int p1), .val (.int p2), .val (.int p3), .val (.int p4), .val (.int p5), .val (.int (4 : Int32)), .val (.int x103), .val (.int x107), .val (.int x111), .val (.int x115), .val (.ref b344), .val (.ref b359), .val (.int ex)] [(.int (1 : Int32))])) := fun t_ k_ => p437 t_ (by
    refine XS.icmpNo X436.here hx rfl (hb hby at_224) rfl (teq c438).2 ?_
    refine XS.iconst X436.here hx rfl (hb hby at_227) ?_
    refine XS.goto X436.here hx rfl (pc0 := 228) (pc' := 232) rfl (hb hby at_228) (by decide) (by decide) ?_
    exact k_)
   obtain ⟨fs, hr, hrun, hended, hW, hsame⟩ := X436.leave (v := some (.int (1 : Int32))) (fun h => by rw [Bd.returns] at h; cases h)
   refine ⟨_, _, p439 _ (retN X436 hx (t := .boolean) Bd.returns (by simp) (hb hby at_232) hr), hrun, hended, _, _, rfl, ?_, ReturnedEndW.of_narrow ⟨_, rfl⟩ hW (hsame.mono (by decide) (by decide))⟩
   show Q0 Z p1 p2 p3 p4 p5 ab kab vsb cs1 fm h0 n0 _ T436.heap _
   rw [q436_hh]
   exact ⟨rfl, N436⟩
set_option maxRecDepth 65536 in
set_option maxHeartbeats 40000000 in
theorem comes_1 {Post : Tables → Env → Array Value → State → Outcome → State → Prop} (hpost : ∀ tb e args s v u, (limb_1_1.after args s (.returned v) u = true ∧ limb_1_2.after args s (.returned v) u = true ∧ True) → ReturnedEndW s (.returned v) u (Jvm.fieldLocs frame_1_writes args s ++ Jvm.arrayLocs frame_1_arrays args s ++ Jvm.staticLocs frame_1_statics s) 24 1152 → Post tb e args s (.returned v) u) :
    ArmFor flags0 classFile x code maxLocals ret World_1 tables_1 room_1 Calls_1 rest_1 Pre_1 Post := by
  intro l hfl _ _ p e ha hc hk s m args below hf hA hF happ hP
  obtain ⟨hcalls, hrest, hpre⟩ := hP
  obtain ⟨-, -, -, hnamed, -, -, -, hat⟩ := (Spec.applies_iff hf).mp happ
  obtain ⟨hg, hn⟩ := and_e (Cond.before_iff.mp (show (Jvm.Cond.and given_1 narrow_1).before args s = true from hpre))
  obtain ⟨ga, gb0⟩ := and_e hg
  obtain ⟨gi0, gb1⟩ := and_e gb0
  obtain ⟨gi1, gb2⟩ := and_e gb1
  obtain ⟨gi2, gb3⟩ := and_e gb2
  obtain ⟨gi3, gb4⟩ := and_e gb3
  have gi4 := gb4
  obtain ⟨w0, w1, w2, w3, w4, rfl⟩ : ∃ w0 w1 w2 w3 w4 : Value, args = #[w0, w1, w2, w3, w4] := by
    have hs : args.size = 5 := by simpa [Cond.value, given_1] using ga
    obtain ⟨L⟩ := args
    match L, hs with
    | [w0, w1, w2, w3, w4], _ => exact ⟨w0, w1, w2, w3, w4, rfl⟩
  have hw := fun d (hd : d ∈ tables_1) => atoms_spec (ws := Jvm.Cond.code x code maxLocals ret :: tables_1) hat d (List.mem_cons_of_mem _ hd)
  have hfit : Fit s := fun {y c} hc i hi => by
    obtain ⟨ha, rfl⟩ := Array.getElem?_eq_some_iff.mp hc
    have q := List.all_eq_true.mp ((Array.all_eq_true_iff_forall_mem.mp hF) _ (Array.getElem_mem ha)) i (List.mem_range.mpr hi)
    simpa [Array.getElem?_eq_getElem hi] using q
  obtain ⟨hsets, hown0⟩ := atoms_of _ (rest_1_c_eq ▸ (show rest_1_c.before _ s = true from hrest))
  have hr0 := Cond.before_iff.mp hown0
  obtain ⟨i0, ei0⟩ := is_v gi0
  obtain rfl : w0 = (.int i0) := Option.some.inj ei0
  obtain ⟨i1, ei1⟩ := is_v gi1
  obtain rfl : w1 = (.int i1) := Option.some.inj ei1
  obtain ⟨i2, ei2⟩ := is_v gi2
  obtain rfl : w2 = (.int i2) := Option.some.inj ei2
  obtain ⟨i3, ei3⟩ := is_v gi3
  obtain rfl : w3 = (.int i3) := Option.some.inj ei3
  obtain ⟨i4, ei4⟩ := is_v gi4
  obtain rfl : w4 = (.int i4) := Option.some.inj ei4
  obtain ⟨hnl, hnr⟩ := and_e hn
  obtain ⟨hnrl, hnrr⟩ := and_e hnr
  obtain ⟨hnrrl, hnrrr⟩ := and_e hnrr
  obtain ⟨hnrrrl, hnrrrr⟩ := and_e hnrrr
  obtain ⟨hnrrrrl, hnrrrrr⟩ := and_e hnrrrr
  obtain ⟨hnrrrrrl, hnrrrrrr⟩ := and_e hnrrrrr
  obtain ⟨cs1, evc⟩ := is_v (Cond.before_iff.mp (hsets _ (List.mem_of_getElem? (i := 1) rfl)))
  have SC := Sta.start evc (Or.inl (hsets _ (List.mem_of_getElem? (i := 0) rfl)))
  have hcs : ¬ (cs1 = (0 : Int32)) := neqInt evc (Cond.before_iff.mp (hsets _ (List.mem_of_getElem? (i := 2) rfl)))
  obtain ⟨fm, evf, hfm⟩ := isR_v (Cond.before_iff.mp (hsets _ (List.mem_of_getElem? (i := 8) rfl)))
  have SF := Sta.start evf (Or.inl (hsets _ (List.mem_of_getElem? (i := 7) rfl)))
  have SA := Sta.start (eqInt (Cond.before_iff.mp (hsets _ (List.mem_of_getElem? (i := 12) rfl)))) (Or.inl (hsets _ (List.mem_of_getElem? (i := 11) rfl)))
  have SH := Sta.start (eqInt (Cond.before_iff.mp (hsets _ (List.mem_of_getElem? (i := 15) rfl)))) (Or.inl (hsets _ (List.mem_of_getElem? (i := 14) rfl)))
  have SO := Sta.start (eqInt (Cond.before_iff.mp (hsets _ (List.mem_of_getElem? (i := 18) rfl)))) (Or.inl (hsets _ (List.mem_of_getElem? (i := 17) rfl)))
  obtain ⟨ab, evb⟩ := arr_v hnl
  have AS := Sta.start evb (Or.inr ⟨(own_w hw 29 rfl), (own_w hw 81 rfl)⟩)
  obtain ⟨clb, AB⟩ := Arr.start evb hnl
  obtain ⟨vsb, AV, HT⟩ := own_tab hfit (fun _ => evb) AB (eqInt hnrl) hnrrl hnrrrl hnrrrrl hnrrrrrr hnrrrrrl
  have hcw : Jvm.Lit.compactW.before _ s = true := hsets _ (List.mem_of_getElem? (i := 2) rfl)
  have hheld : Jvm.Lit.constHeld s "java/lang/String" 7 := hcalls.1 ("java/lang/String", 7) (by simp [consts_1])
  obtain ⟨n, o, h1, h2, h3, _, L, rfl, ⟨rfl, N⟩, hq⟩ := rm0 l s _ hw tables_1 i0 i1 i2 i3 i4 ab clb.cls vsb cs1 fm s.heap s.heap.size (Nat.le_refl _) (Old.start s) ⟨SC, hcs, SF, hfm, SA, SH, SO⟩ hcw hheld AS AV HT p e ha hc hk s m _ below hf ((Spec.applies_iff_loose hf).mp happ).1 ⟨rfl, State.Warmed39.refl s, rfl, IB.start⟩ trivial
  refine ⟨n, _, h1, h2, h3, hpost _ _ _ _ _ _ ⟨Cond.after_iff.mpr rfl, Cond.after_iff.mpr (eq_i res_at (Term.int_eval (1)) rfl), trivial⟩ ⟨hq.1, hq.2.1, hq.2.2.1, (hq.2.2.2.sift fun y hy => Or.inr (N y hy)).mono (by decide) (by decide)⟩⟩
theorem main_1_1 : Claimed_1_1 := comes_1 fun _ _ _ _ _ _ h hF => ⟨h.1, hF⟩
theorem main_1_2 : Claimed_1_2 := comes_1 fun _ _ _ _ _ _ h hF => ⟨h.2.1, hF⟩
end Jvm.Pilot.@@N@@
namespace Jvm.Pilot.@@N@@
open Jvm Jvm.ClassFile Sem Op Lib Jvm.Free Jvm.Stand Jvm.Pilot.@@N@@.Jvm.D
/-! MADE BY PROGRAM (witnessworld.py) out of the Statement's table words and the real class files: 22 classes; the members and pool entries that the words name. The judged class is class 1, her method 3. -/
namespace start1
open Jvm.ClassFile
def u (s : String) : CpInfo := .utf8 (stringToUtf16 s)
/-- a pool by its gaps: so many unusable entries, then the entry; so many at the end -/
def gap : Nat → List CpInfo → List CpInfo
  | 0, r => r
  | n + 1, r => .unusable :: gap n r
def poolList (es : List (Nat × CpInfo)) (last : Nat) : List CpInfo := es.foldr (fun e r => gap e.1 (e.2 :: r)) (gap last [])
def pool (es : List (Nat × CpInfo)) (last : Nat) : Array CpInfo := ⟨poolList es last⟩
def fileOf (pool : Array CpInfo) (this : Nat) (attrs : Array Attribute := #[]) (ms : Array MethodInfo := #[]) (fl : Nat := 33) (sup : Nat := 0) (ifs : Array Nat := #[]) (fds : Array FieldInfo := #[]) : ClassFile where
  minorVersion := 0
  majorVersion := 65
  constantPool := pool
  accessFlags := fl
  thisClass := this
  superClass := sup
  interfaces := ifs
  fields := fds
  methods := ms
  attributes := attrs
def plain (name : String) (sup : Option ClassId) : Class where
  name := name
  kind := .ordinary
  loader := none
  accessFlags := 33
  super := sup
  interfaces := #[]
  cf := none
  fields := #[]
  methods := #[]
  instanceTypes := #[]
  staticTypes := #[]
  resolved := #[]
  callSites := []
  init := .initialized
  statics := none
  mirror := none

def pool0 : Array CpInfo := pool [(5, u "<init>"), (0, u "()V"), (1, .class_ 10), (1, u "java/lang/Object")] 113

def k0c0 : Code := { maxStack := 0, maxLocals := 1, code := object_method_1_code, exceptionTable := #[], attributes := #[] }
def k0m0 : Method := { name := "<init>", desc := "()V", sig := { parameters := [], returnType := none }, accessFlags := 1, code := some k0c0 }
/-- java/lang/Object -/
def k0 : Class := { plain "java/lang/Object" none with
  accessFlags := 33
  interfaces := #[]
  cf := some (fileOf pool0 8 #[] #[{ accessFlags := 1, nameIndex := 5, descriptorIndex := 6, attributes := #[] }] 33 0 #[] #[])
  fields := #[]
  methods := #[k0m0]
  instanceTypes := #[]
  staticTypes := #[]
  resolved := Array.replicate 124 none
  statics := none }

def pool1 : Array CpInfo := pool [(2, .class_ 4), (1, u "java/lang/Object"), (0, u "<init>"), (0, u "()V"), (0, .integer 2147483647), (0, .methodref 9 10), (0, .class_ 11), (0, .nameAndType 12 13), (0, u "com/example/kuusi/kuusi/core/LineScannerIsBlankPinLaw"), (0, u "ch"), (0, u "(I)C"), (0, .class_ 15), (0, u "java/lang/String"), (0, .methodref 14 17), (0, .nameAndType 5 18), (0, u "([C)V"), (0, .methodref 9 20), (0, .nameAndType 21 22), (0, u "bl"), (0, u "(C)Z"), (0, .methodref 24 25), (0, .class_ 26), (0, .nameAndType 27 28), (0, u "com/example/kuusi/kuusi/core/LineScanner"), (0, u "isBlank"), (0, u "(Ljava/lang/String;)Z"), (3, u "law"), (0, u "(IIIII)Z")] 4

def k1m0 : Method := { name := "<init>", desc := "()V", sig := { parameters := [], returnType := none }, accessFlags := 1, code := none }
def k1c1 : Code := { maxStack := 2, maxLocals := 1, code := method_2_code, exceptionTable := #[], attributes := #[] }
def k1m1 : Method := { name := "ch", desc := "(I)C", sig := { parameters := [.int], returnType := some .char }, accessFlags := 10, code := some k1c1 }
def k1c2 : Code := { maxStack := 2, maxLocals := 1, code := method_3_code, exceptionTable := #[], attributes := #[] }
def k1m2 : Method := { name := "bl", desc := "(C)Z", sig := { parameters := [.char], returnType := some .boolean }, accessFlags := 10, code := some k1c2 }
def k1c3 : Code := { maxStack := 4, maxLocals := 13, code := code, exceptionTable := #[], attributes := #[] }
def k1m3 : Method := { name := "law", desc := "(IIIII)Z", sig := { parameters := [.int, .int, .int, .int, .int], returnType := some .boolean }, accessFlags := 9, code := some k1c3 }
/-- com/example/kuusi/kuusi/core/LineScannerIsBlankPinLaw -/
def k1 : Class := { plain "com/example/kuusi/kuusi/core/LineScannerIsBlankPinLaw" (some 0) with
  accessFlags := 49
  interfaces := #[]
  cf := some (fileOf pool1 9 #[] #[{ accessFlags := 1, nameIndex := 5, descriptorIndex := 6, attributes := #[] }, { accessFlags := 10, nameIndex := 12, descriptorIndex := 13, attributes := #[] }, { accessFlags := 10, nameIndex := 21, descriptorIndex := 22, attributes := #[] }, { accessFlags := 9, nameIndex := 32, descriptorIndex := 33, attributes := #[] }] 49 2 #[] #[])
  fields := #[]
  methods := #[k1m0, k1m1, k1m2, k1m3]
  instanceTypes := #[]
  staticTypes := #[]
  resolved := Array.replicate 38 none
  statics := none }

def pool2 : Array CpInfo := pool [(1, .class_ 2), (0, u "java/io/Serializable"), (0, .class_ 4), (0, u "java/lang/Object")] 2

/-- java/io/Serializable -/
def k2 : Class := { plain "java/io/Serializable" (some 0) with
  accessFlags := 1537
  interfaces := #[]
  cf := some (fileOf pool2 1 #[] #[] 1537 3 #[] #[])
  fields := #[]
  methods := #[]
  instanceTypes := #[]
  staticTypes := #[]
  resolved := Array.replicate 7 none
  statics := none }

def pool3 : Array CpInfo := pool [(1, .class_ 2), (0, u "java/lang/Comparable"), (0, .class_ 4), (0, u "java/lang/Object")] 7

/-- java/lang/Comparable -/
def k3 : Class := { plain "java/lang/Comparable" (some 0) with
  accessFlags := 1537
  interfaces := #[]
  cf := some (fileOf pool3 1 #[] #[] 1537 3 #[] #[])
  fields := #[]
  methods := #[]
  instanceTypes := #[]
  staticTypes := #[]
  resolved := Array.replicate 12 none
  statics := none }

def pool4 : Array CpInfo := pool [(2, .class_ 4), (1, u "java/lang/CharSequence"), (42, .class_ 48), (0, u "java/lang/CharSequence$1CodePointIterator"), (10, .class_ 60), (0, u "java/lang/CharSequence$1CharIterator"), (5, .class_ 67), (0, u "java/lang/Object")] 63

/-- java/lang/CharSequence -/
def k4 : Class := { plain "java/lang/CharSequence" (some 0) with
  accessFlags := 1537
  interfaces := #[]
  cf := some (fileOf pool4 2 #[.nestMembers #[47, 59]] #[] 1537 66 #[] #[])
  fields := #[]
  methods := #[]
  instanceTypes := #[]
  staticTypes := #[]
  resolved := Array.replicate 131 none
  statics := none }

def pool5 : Array CpInfo := pool [(1, .class_ 2), (0, u "java/lang/constant/Constable"), (0, .class_ 4), (0, u "java/lang/Object")] 6

/-- java/lang/constant/Constable -/
def k5 : Class := { plain "java/lang/constant/Constable" (some 0) with
  accessFlags := 1537
  interfaces := #[]
  cf := some (fileOf pool5 1 #[] #[] 1537 3 #[] #[])
  fields := #[]
  methods := #[]
  instanceTypes := #[]
  staticTypes := #[]
  resolved := Array.replicate 11 none
  statics := none }

def pool6 : Array CpInfo := pool [(1, .class_ 2), (0, u "java/lang/constant/ConstantDesc"), (0, .class_ 4), (0, u "java/lang/Object")] 32

/-- java/lang/constant/ConstantDesc -/
def k6 : Class := { plain "java/lang/constant/ConstantDesc" (some 0) with
  accessFlags := 1537
  interfaces := #[]
  cf := some (fileOf pool6 1 #[] #[] 1537 3 #[] #[])
  fields := #[]
  methods := #[]
  instanceTypes := #[]
  staticTypes := #[]
  resolved := Array.replicate 37 none
  statics := none }

def pool7 : Array CpInfo := pool [(1, .methodref 2 3), (0, .class_ 4), (0, .nameAndType 5 6), (0, u "java/lang/Object"), (0, u "<init>"), (0, u "()V"), (0, .string 8), (0, u ""), (0, .fieldref 10 11), (0, .class_ 12), (0, .nameAndType 13 14), (0, u "java/lang/String"), (0, u "value"), (0, u "[B"), (0, .fieldref 10 16), (0, .nameAndType 17 18), (0, u "coder"), (0, u "B"), (2, u "hash"), (0, u "I"), (2, u "hashIsZero"), (0, u "Z"), (0, .methodref 10 28), (0, .nameAndType 5 29), (0, u "([CIILjava/lang/Void;)V"), (8, .fieldref 10 39), (0, .nameAndType 40 26), (0, u "COMPACT_STRINGS"), (1, .class_ 44), (1, u "java/lang/StringUTF16"), (0, u "compress"), (1, .methodref 42 48), (0, .nameAndType 49 50), (0, u "coderFromArrayLen"), (0, u "([BI)B"), (56, .class_ 109), (1, u "java/lang/StringLatin1"), (32, u "()Z"), (34, .methodref 42 178), (0, .nameAndType 45 179), (0, u "([CII)[B"), (154, u "()I"), (0, .methodref 10 336), (0, .nameAndType 17 337), (0, u "()B"), (25, u "([BI)C"), (27, u "(II)V"), (35, u "(I)C"), (64, .methodref 10 493), (0, .nameAndType 494 142), (0, u "isLatin1"), (0, .methodref 107 496), (0, .nameAndType 497 363), (0, u "charAt"), (0, .methodref 42 496), (2, u "checkIndex"), (5, u "length"), (67, .class_ 576), (0, u "java/lang/CharSequence"), (22, u "CASE_INSENSITIVE_ORDER"), (0, u "Ljava/util/Comparator;"), (409, u "([C)V"), (42, .fieldref 1054 1055), (0, .class_ 1056), (0, .nameAndType 1057 1058), (0, u "jdk/internal/util/Preconditions"), (0, u "SIOOBE_FORMATTER"), (0, u "Ljava/util/function/BiFunction;"), (0, .methodref 1054 1060), (0, .nameAndType 501 1061), (0, u "(IILjava/util/function/BiFunction;)I"), (39, u "serialPersistentFields"), (0, u "[Ljava/io/ObjectStreamField;"), (0, .class_ 1104), (0, u "java/lang/String$CaseInsensitiveComparator"), (1, .class_ 1107), (0, u "java/io/Serializable"), (0, .class_ 1109), (0, u "java/lang/Comparable"), (0, .class_ 1111), (0, u "java/lang/constant/Constable"), (0, .class_ 1113), (0, u "java/lang/constant/ConstantDesc"), (2, u "serialVersionUID"), (0, u "J"), (3, u "REPL"), (0, u "C"), (2, u "LATIN1"), (1, u "UTF16")] 323

def k7m0 : Method := { name := "<init>", desc := "()V", sig := { parameters := [], returnType := none }, accessFlags := 1, code := none }
def k7c1 : Code := { maxStack := 5, maxLocals := 2, code := jdk_42_method_3_code, exceptionTable := #[], attributes := #[] }
def k7m1 : Method := { name := "<init>", desc := "([C)V", sig := { parameters := [(.array .char)], returnType := none }, accessFlags := 1, code := some k7c1 }
def k7c2 : Code := { maxStack := 2, maxLocals := 1, code := jdk_42_method_54_code, exceptionTable := #[], attributes := #[] }
def k7m2 : Method := { name := "length", desc := "()I", sig := { parameters := [], returnType := some .int }, accessFlags := 1, code := some k7c2 }
def k7c3 : Code := { maxStack := 2, maxLocals := 2, code := jdk_42_method_56_code, exceptionTable := #[], attributes := #[] }
def k7m3 : Method := { name := "charAt", desc := "(I)C", sig := { parameters := [.int], returnType := some .char }, accessFlags := 1, code := some k7c3 }
def k7c4 : Code := { maxStack := 4, maxLocals := 6, code := jdk_42_method_149_code, exceptionTable := #[], attributes := #[] }
def k7m4 : Method := { name := "<init>", desc := "([CIILjava/lang/Void;)V", sig := { parameters := [(.array .char), .int, .int, (.object "java/lang/Void")], returnType := none }, accessFlags := 2, code := some k7c4 }
def k7c5 : Code := { maxStack := 1, maxLocals := 1, code := jdk_42_method_152_code, exceptionTable := #[], attributes := #[] }
def k7m5 : Method := { name := "coder", desc := "()B", sig := { parameters := [], returnType := some .byte }, accessFlags := 0, code := some k7c5 }
def k7c6 : Code := { maxStack := 1, maxLocals := 1, code := jdk_42_method_154_code, exceptionTable := #[], attributes := #[] }
def k7m6 : Method := { name := "isLatin1", desc := "()Z", sig := { parameters := [], returnType := some .boolean }, accessFlags := 0, code := some k7c6 }
def k7c7 : Code := { maxStack := 3, maxLocals := 2, code := jdk_42_method_155_code, exceptionTable := #[], attributes := #[] }
def k7m7 : Method := { name := "checkIndex", desc := "(II)V", sig := { parameters := [.int, .int], returnType := none }, accessFlags := 8, code := some k7c7 }
/-- java/lang/String -/
def k7 : Class := { plain "java/lang/String" (some 0) with
  accessFlags := 49
  interfaces := #[2, 3, 4, 5, 6]
  cf := some (fileOf pool7 10 #[.nestMembers #[1103]] #[{ accessFlags := 1, nameIndex := 5, descriptorIndex := 6, attributes := #[] }, { accessFlags := 1, nameIndex := 5, descriptorIndex := 1010, attributes := #[] }, { accessFlags := 1, nameIndex := 507, descriptorIndex := 334, attributes := #[] }, { accessFlags := 1, nameIndex := 497, descriptorIndex := 427, attributes := #[] }, { accessFlags := 2, nameIndex := 5, descriptorIndex := 29, attributes := #[] }, { accessFlags := 0, nameIndex := 17, descriptorIndex := 337, attributes := #[] }, { accessFlags := 0, nameIndex := 494, descriptorIndex := 142, attributes := #[] }, { accessFlags := 8, nameIndex := 501, descriptorIndex := 391, attributes := #[] }] 49 2 #[1106, 1108, 575, 1110, 1112] #[{ accessFlags := 18, nameIndex := 13, descriptorIndex := 14, attributes := #[] }, { accessFlags := 18, nameIndex := 17, descriptorIndex := 18, attributes := #[] }, { accessFlags := 2, nameIndex := 21, descriptorIndex := 22, attributes := #[] }, { accessFlags := 2, nameIndex := 25, descriptorIndex := 26, attributes := #[] }, { accessFlags := 26, nameIndex := 1116, descriptorIndex := 1117, attributes := #[] }, { accessFlags := 24, nameIndex := 40, descriptorIndex := 26, attributes := #[] }, { accessFlags := 26, nameIndex := 1101, descriptorIndex := 1102, attributes := #[] }, { accessFlags := 26, nameIndex := 1121, descriptorIndex := 1122, attributes := #[] }, { accessFlags := 25, nameIndex := 599, descriptorIndex := 600, attributes := #[] }, { accessFlags := 24, nameIndex := 1125, descriptorIndex := 18, attributes := #[] }, { accessFlags := 24, nameIndex := 1127, descriptorIndex := 18, attributes := #[] }])
  fields := #[{ name := "value", type := (.array .byte), accessFlags := 18, slot := 0, constantValue := 0 }, { name := "coder", type := .byte, accessFlags := 18, slot := 1, constantValue := 0 }, { name := "hash", type := .int, accessFlags := 2, slot := 2, constantValue := 0 }, { name := "hashIsZero", type := .boolean, accessFlags := 2, slot := 3, constantValue := 0 }, { name := "serialVersionUID", type := .long, accessFlags := 26, slot := 0, constantValue := 0 }, { name := "COMPACT_STRINGS", type := .boolean, accessFlags := 24, slot := 1, constantValue := 0 }, { name := "serialPersistentFields", type := (.array (.object "java/io/ObjectStreamField")), accessFlags := 26, slot := 2, constantValue := 0 }, { name := "REPL", type := .char, accessFlags := 26, slot := 3, constantValue := 0 }, { name := "CASE_INSENSITIVE_ORDER", type := (.object "java/util/Comparator"), accessFlags := 25, slot := 4, constantValue := 0 }, { name := "LATIN1", type := .byte, accessFlags := 24, slot := 5, constantValue := 0 }, { name := "UTF16", type := .byte, accessFlags := 24, slot := 6, constantValue := 0 }]
  methods := #[k7m0, k7m1, k7m2, k7m3, k7m4, k7m5, k7m6, k7m7]
  instanceTypes := #[(.array .byte), .byte, .int, .boolean]
  staticTypes := #[.long, .boolean, (.array (.object "java/io/ObjectStreamField")), .char, (.object "java/util/Comparator"), .byte, .byte]
  resolved := Array.replicate 1451 none
  statics := some 0 }

def pool8 : Array CpInfo := pool [(2, .class_ 4), (1, u "com/example/kuusi/kuusi/core/LineScanner"), (3, .class_ 10), (1, u "java/lang/Object"), (3, u "text"), (0, u "Ljava/lang/String;"), (2, u "lineNumber"), (0, u "I"), (2, u "signs"), (2, u "quoting"), (0, u "Z"), (8, u "token"), (0, u "Lcom/example/kuusi/kuusi/core/LineScanner$Token;"), (1, .class_ 40), (1, u "com/example/kuusi/kuusi/core/LineScanner$Token"), (3, u "position"), (0, .methodref 46 47), (0, .class_ 48), (0, .nameAndType 49 50), (0, u "java/lang/String"), (0, u "charAt"), (0, u "(I)C"), (0, .methodref 46 52), (0, .nameAndType 53 54), (0, u "length"), (0, u "()I"), (0, .methodref 2 56), (0, .nameAndType 57 58), (0, u "isBlank"), (0, u "(C)Z"), (15, u "lexeme"), (8, u "ARROW"), (36, .fieldref 2 121), (0, .nameAndType 122 123), (0, u "ASCII_BLANKS"), (0, u "[Z"), (26, u "COMMENT"), (0, u "C"), (1, u "QUOTE"), (1, u "ESCAPE"), (1, u "CONTINUATION"), (0, u "BLANKS"), (7, u "(Ljava/lang/String;)Z")] 37

def k8c0 : Code := { maxStack := 2, maxLocals := 3, code := prog_51_method_5_code, exceptionTable := #[], attributes := #[] }
def k8m0 : Method := { name := "isBlank", desc := "(Ljava/lang/String;)Z", sig := { parameters := [(.object "java/lang/String")], returnType := some .boolean }, accessFlags := 8, code := some k8c0 }
def k8c1 : Code := { maxStack := 2, maxLocals := 1, code := prog_51_method_15_code, exceptionTable := #[], attributes := #[] }
def k8m1 : Method := { name := "isBlank", desc := "(C)Z", sig := { parameters := [.char], returnType := some .boolean }, accessFlags := 8, code := some k8c1 }
/-- com/example/kuusi/kuusi/core/LineScanner -/
def k8 : Class := { plain "com/example/kuusi/kuusi/core/LineScanner" (some 0) with
  accessFlags := 48
  interfaces := #[]
  cf := some (fileOf pool8 2 #[.nestMembers #[38]] #[{ accessFlags := 8, nameIndex := 57, descriptorIndex := 166, attributes := #[] }, { accessFlags := 8, nameIndex := 57, descriptorIndex := 58, attributes := #[] }] 48 8 #[] #[{ accessFlags := 24, nameIndex := 83, descriptorIndex := 15, attributes := #[] }, { accessFlags := 24, nameIndex := 150, descriptorIndex := 151, attributes := #[] }, { accessFlags := 26, nameIndex := 153, descriptorIndex := 151, attributes := #[] }, { accessFlags := 26, nameIndex := 155, descriptorIndex := 151, attributes := #[] }, { accessFlags := 24, nameIndex := 157, descriptorIndex := 151, attributes := #[] }, { accessFlags := 24, nameIndex := 158, descriptorIndex := 15, attributes := #[] }, { accessFlags := 26, nameIndex := 122, descriptorIndex := 123, attributes := #[] }, { accessFlags := 18, nameIndex := 14, descriptorIndex := 15, attributes := #[] }, { accessFlags := 18, nameIndex := 18, descriptorIndex := 19, attributes := #[] }, { accessFlags := 18, nameIndex := 22, descriptorIndex := 15, attributes := #[] }, { accessFlags := 18, nameIndex := 25, descriptorIndex := 26, attributes := #[] }, { accessFlags := 2, nameIndex := 44, descriptorIndex := 19, attributes := #[] }, { accessFlags := 2, nameIndex := 35, descriptorIndex := 36, attributes := #[] }, { accessFlags := 2, nameIndex := 74, descriptorIndex := 15, attributes := #[] }])
  fields := #[{ name := "ARROW", type := (.object "java/lang/String"), accessFlags := 24, slot := 0, constantValue := 0 }, { name := "COMMENT", type := .char, accessFlags := 24, slot := 1, constantValue := 0 }, { name := "QUOTE", type := .char, accessFlags := 26, slot := 2, constantValue := 0 }, { name := "ESCAPE", type := .char, accessFlags := 26, slot := 3, constantValue := 0 }, { name := "CONTINUATION", type := .char, accessFlags := 24, slot := 4, constantValue := 0 }, { name := "BLANKS", type := (.object "java/lang/String"), accessFlags := 24, slot := 5, constantValue := 0 }, { name := "ASCII_BLANKS", type := (.array .boolean), accessFlags := 26, slot := 6, constantValue := 0 }, { name := "text", type := (.object "java/lang/String"), accessFlags := 18, slot := 0, constantValue := 0 }, { name := "lineNumber", type := .int, accessFlags := 18, slot := 1, constantValue := 0 }, { name := "signs", type := (.object "java/lang/String"), accessFlags := 18, slot := 2, constantValue := 0 }, { name := "quoting", type := .boolean, accessFlags := 18, slot := 3, constantValue := 0 }, { name := "position", type := .int, accessFlags := 2, slot := 4, constantValue := 0 }, { name := "token", type := (.object "com/example/kuusi/kuusi/core/LineScanner$Token"), accessFlags := 2, slot := 5, constantValue := 0 }, { name := "lexeme", type := (.object "java/lang/String"), accessFlags := 2, slot := 6, constantValue := 0 }]
  methods := #[k8m0, k8m1]
  instanceTypes := #[(.object "java/lang/String"), .int, (.object "java/lang/String"), .boolean, .int, (.object "com/example/kuusi/kuusi/core/LineScanner$Token"), (.object "java/lang/String")]
  staticTypes := #[(.object "java/lang/String"), .char, .char, .char, .char, (.object "java/lang/String"), (.array .boolean)]
  resolved := Array.replicate 204 none
  statics := some 1 }

def pool9 : Array CpInfo := pool [(3, .class_ 4), (0, u "java/lang/String"), (1, .class_ 8), (1, u "java/lang/Object"), (0, u "<init>"), (0, u "()V"), (0, .methodref 12 13), (0, .class_ 14), (0, .nameAndType 15 16), (0, u "java/lang/StringUTF16"), (0, u "newBytesLength"), (0, u "(I)I"), (3, .integer 1073741823), (23, .fieldref 12 45), (0, .nameAndType 46 47), (0, u "$assertionsDisabled"), (0, u "Z"), (0, .methodref 12 49), (0, .nameAndType 50 51), (0, u "length"), (0, u "([B)I"), (7, .fieldref 12 60), (0, .nameAndType 61 62), (0, u "HI_BYTE_SHIFT"), (0, u "I"), (0, .fieldref 12 64), (0, .nameAndType 65 62), (0, u "LO_BYTE_SHIFT"), (1, .methodref 12 68), (0, .nameAndType 69 70), (0, u "checkIndex"), (0, u "(I[B)V"), (0, .methodref 12 72), (0, .nameAndType 73 74), (0, u "getChar"), (0, u "([BI)C"), (32, .methodref 12 108), (0, .nameAndType 109 110), (0, u "newBytesFor"), (0, u "(I)[B"), (0, .methodref 12 112), (0, .nameAndType 113 114), (0, u "putChar"), (0, u "([BII)V"), (0, .methodref 12 116), (0, .nameAndType 117 118), (0, u "compress"), (0, u "([CI[BII)I"), (0, .methodref 12 120), (0, .nameAndType 121 122), (0, u "toBytes"), (0, u "([CII)[B"), (138, u "coderFromArrayLen"), (0, u "([BI)B"), (106, .class_ 371), (1, u "java/lang/StringUTF16$LinesSpliterator"), (20, u "charAt"), (21, .methodref 3 415), (0, .nameAndType 69 416), (0, u "(II)V"), (13, u "MAX_LENGTH"), (196, .class_ 628), (0, u "java/lang/StringUTF16$CodePointsSpliterator"), (0, .class_ 630), (0, u "java/lang/StringUTF16$CharsSpliterator")] 4

def k9m0 : Method := { name := "<init>", desc := "()V", sig := { parameters := [], returnType := none }, accessFlags := 0, code := none }
def k9c1 : Code := { maxStack := 1, maxLocals := 1, code := jdk_52_method_2_code, exceptionTable := #[], attributes := #[] }
def k9m1 : Method := { name := "newBytesFor", desc := "(I)[B", sig := { parameters := [.int], returnType := some (.array .byte) }, accessFlags := 9, code := some k9c1 }
def k9c2 : Code := { maxStack := 4, maxLocals := 1, code := jdk_52_method_3_code, exceptionTable := #[], attributes := #[] }
def k9m2 : Method := { name := "newBytesLength", desc := "(I)I", sig := { parameters := [.int], returnType := some .int }, accessFlags := 9, code := some k9c2 }
def k9c3 : Code := { maxStack := 4, maxLocals := 3, code := jdk_52_method_4_code, exceptionTable := #[], attributes := #[] }
def k9m3 : Method := { name := "putChar", desc := "([BII)V", sig := { parameters := [(.array .byte), .int, .int], returnType := none }, accessFlags := 8, code := some k9c3 }
def k9c4 : Code := { maxStack := 3, maxLocals := 2, code := jdk_52_method_5_code, exceptionTable := #[], attributes := #[] }
def k9m4 : Method := { name := "getChar", desc := "([BI)C", sig := { parameters := [(.array .byte), .int], returnType := some .char }, accessFlags := 8, code := some k9c4 }
def k9c5 : Code := { maxStack := 2, maxLocals := 1, code := jdk_52_method_6_code, exceptionTable := #[], attributes := #[] }
def k9m5 : Method := { name := "length", desc := "([B)I", sig := { parameters := [(.array .byte)], returnType := some .int }, accessFlags := 9, code := some k9c5 }
def k9c6 : Code := { maxStack := 4, maxLocals := 5, code := jdk_52_method_14_code, exceptionTable := #[], attributes := #[] }
def k9m6 : Method := { name := "toBytes", desc := "([CII)[B", sig := { parameters := [(.array .char), .int, .int], returnType := some (.array .byte) }, accessFlags := 9, code := some k9c6 }
def k9c7 : Code := { maxStack := 2, maxLocals := 2, code := jdk_52_method_15_code, exceptionTable := #[], attributes := #[] }
def k9m7 : Method := { name := "coderFromArrayLen", desc := "([BI)B", sig := { parameters := [(.array .byte), .int], returnType := some .byte }, accessFlags := 8, code := some k9c7 }
def k9c8 : Code := { maxStack := 5, maxLocals := 6, code := jdk_52_method_16_code, exceptionTable := #[], attributes := #[] }
def k9m8 : Method := { name := "compress", desc := "([CII)[B", sig := { parameters := [(.array .char), .int, .int], returnType := some (.array .byte) }, accessFlags := 9, code := some k9c8 }
def k9c9 : Code := { maxStack := 3, maxLocals := 7, code := jdk_52_method_21_code, exceptionTable := #[], attributes := #[] }
def k9m9 : Method := { name := "compress", desc := "([CI[BII)I", sig := { parameters := [(.array .char), .int, (.array .byte), .int, .int], returnType := some .int }, accessFlags := 9, code := some k9c9 }
def k9c10 : Code := { maxStack := 2, maxLocals := 2, code := jdk_52_method_83_code, exceptionTable := #[], attributes := #[] }
def k9m10 : Method := { name := "charAt", desc := "([BI)C", sig := { parameters := [(.array .byte), .int], returnType := some .char }, accessFlags := 9, code := some k9c10 }
def k9c11 : Code := { maxStack := 2, maxLocals := 2, code := jdk_52_method_91_code, exceptionTable := #[], attributes := #[] }
def k9m11 : Method := { name := "checkIndex", desc := "(I[B)V", sig := { parameters := [.int, (.array .byte)], returnType := none }, accessFlags := 9, code := some k9c11 }
/-- java/lang/StringUTF16 -/
def k9 : Class := { plain "java/lang/StringUTF16" (some 0) with
  accessFlags := 48
  interfaces := #[]
  cf := some (fileOf pool9 12 #[.nestMembers #[627, 629, 369]] #[{ accessFlags := 0, nameIndex := 9, descriptorIndex := 10, attributes := #[] }, { accessFlags := 9, nameIndex := 109, descriptorIndex := 110, attributes := #[] }, { accessFlags := 9, nameIndex := 15, descriptorIndex := 16, attributes := #[] }, { accessFlags := 8, nameIndex := 113, descriptorIndex := 114, attributes := #[] }, { accessFlags := 8, nameIndex := 73, descriptorIndex := 74, attributes := #[] }, { accessFlags := 9, nameIndex := 50, descriptorIndex := 51, attributes := #[] }, { accessFlags := 9, nameIndex := 121, descriptorIndex := 122, attributes := #[] }, { accessFlags := 8, nameIndex := 261, descriptorIndex := 262, attributes := #[] }, { accessFlags := 9, nameIndex := 117, descriptorIndex := 122, attributes := #[] }, { accessFlags := 9, nameIndex := 117, descriptorIndex := 118, attributes := #[] }, { accessFlags := 9, nameIndex := 392, descriptorIndex := 74, attributes := #[] }, { accessFlags := 9, nameIndex := 69, descriptorIndex := 70, attributes := #[] }] 48 6 #[] #[{ accessFlags := 26, nameIndex := 61, descriptorIndex := 62, attributes := #[] }, { accessFlags := 26, nameIndex := 65, descriptorIndex := 62, attributes := #[] }, { accessFlags := 24, nameIndex := 430, descriptorIndex := 62, attributes := #[] }, { accessFlags := 4120, nameIndex := 46, descriptorIndex := 47, attributes := #[] }])
  fields := #[{ name := "HI_BYTE_SHIFT", type := .int, accessFlags := 26, slot := 0, constantValue := 0 }, { name := "LO_BYTE_SHIFT", type := .int, accessFlags := 26, slot := 1, constantValue := 0 }, { name := "MAX_LENGTH", type := .int, accessFlags := 24, slot := 2, constantValue := 0 }, { name := "$assertionsDisabled", type := .boolean, accessFlags := 4120, slot := 3, constantValue := 0 }]
  methods := #[k9m0, k9m1, k9m2, k9m3, k9m4, k9m5, k9m6, k9m7, k9m8, k9m9, k9m10, k9m11]
  instanceTypes := #[]
  staticTypes := #[.int, .int, .int, .boolean]
  resolved := Array.replicate 635 none
  statics := some 2 }

def pool10 : Array CpInfo := pool [(1, .class_ 2), (0, u "java/lang/String"), (1, .class_ 6), (1, u "java/lang/Object"), (0, u "<init>"), (0, u "()V"), (0, .methodref 1 10), (0, .nameAndType 11 12), (0, u "checkIndex"), (0, u "(II)V"), (1, .class_ 16), (1, u "java/lang/StringLatin1"), (36, u "([BI)C"), (67, u "$assertionsDisabled"), (0, u "Z"), (98, .class_ 223), (1, u "java/lang/StringLatin1$LinesSpliterator"), (28, u "charAt"), (137, .class_ 391), (0, u "java/lang/StringLatin1$CharsSpliterator")] 3

def k10m0 : Method := { name := "<init>", desc := "()V", sig := { parameters := [], returnType := none }, accessFlags := 0, code := none }
def k10c1 : Code := { maxStack := 2, maxLocals := 2, code := jdk_43_method_2_code, exceptionTable := #[], attributes := #[] }
def k10m1 : Method := { name := "charAt", desc := "([BI)C", sig := { parameters := [(.array .byte), .int], returnType := some .char }, accessFlags := 9, code := some k10c1 }
/-- java/lang/StringLatin1 -/
def k10 : Class := { plain "java/lang/StringLatin1" (some 0) with
  accessFlags := 48
  interfaces := #[]
  cf := some (fileOf pool10 14 #[.nestMembers #[390, 221]] #[{ accessFlags := 0, nameIndex := 7, descriptorIndex := 8, attributes := #[] }, { accessFlags := 9, nameIndex := 252, descriptorIndex := 53, attributes := #[] }] 48 4 #[] #[{ accessFlags := 4120, nameIndex := 121, descriptorIndex := 122, attributes := #[] }])
  fields := #[{ name := "$assertionsDisabled", type := .boolean, accessFlags := 4120, slot := 0, constantValue := 0 }]
  methods := #[k10m0, k10m1]
  instanceTypes := #[]
  staticTypes := #[.boolean]
  resolved := Array.replicate 395 none
  statics := none }

def pool11 : Array CpInfo := pool [(2, .class_ 4), (1, u "java/lang/Object"), (0, u "<init>"), (0, u "()V"), (17, .class_ 26), (1, u "jdk/internal/util/Preconditions"), (6, u "checkIndex"), (21, .class_ 56), (0, u "jdk/internal/util/Preconditions$4"), (57, .class_ 115), (0, u "jdk/internal/util/Preconditions$1"), (7, u "SIOOBE_FORMATTER"), (0, u "Ljava/util/function/BiFunction;"), (0, .class_ 126), (0, u "jdk/internal/util/Preconditions$2"), (3, u "AIOOBE_FORMATTER"), (0, .class_ 132), (0, u "jdk/internal/util/Preconditions$3"), (3, u "IOOBE_FORMATTER"), (41, u "(IILjava/util/function/BiFunction;)I")] 15

def k11m0 : Method := { name := "<init>", desc := "()V", sig := { parameters := [], returnType := none }, accessFlags := 1, code := none }
def k11c1 : Code := { maxStack := 3, maxLocals := 3, code := jdk_41_method_11_code, exceptionTable := #[], attributes := #[] }
def k11m1 : Method := { name := "checkIndex", desc := "(IILjava/util/function/BiFunction;)I", sig := { parameters := [.int, .int, (.object "java/util/function/BiFunction")], returnType := some .int }, accessFlags := 9, code := some k11c1 }
/-- jdk/internal/util/Preconditions -/
def k11 : Class := { plain "jdk/internal/util/Preconditions" (some 0) with
  accessFlags := 33
  interfaces := #[]
  cf := some (fileOf pool11 24 #[.nestMembers #[55, 131, 125, 114]] #[{ accessFlags := 1, nameIndex := 5, descriptorIndex := 6, attributes := #[] }, { accessFlags := 9, nameIndex := 33, descriptorIndex := 178, attributes := #[] }] 33 2 #[] #[{ accessFlags := 25, nameIndex := 123, descriptorIndex := 124, attributes := #[] }, { accessFlags := 25, nameIndex := 130, descriptorIndex := 124, attributes := #[] }, { accessFlags := 25, nameIndex := 136, descriptorIndex := 124, attributes := #[] }])
  fields := #[{ name := "SIOOBE_FORMATTER", type := (.object "java/util/function/BiFunction"), accessFlags := 25, slot := 0, constantValue := 0 }, { name := "AIOOBE_FORMATTER", type := (.object "java/util/function/BiFunction"), accessFlags := 25, slot := 1, constantValue := 0 }, { name := "IOOBE_FORMATTER", type := (.object "java/util/function/BiFunction"), accessFlags := 25, slot := 2, constantValue := 0 }]
  methods := #[k11m0, k11m1]
  instanceTypes := #[]
  staticTypes := #[(.object "java/util/function/BiFunction"), (.object "java/util/function/BiFunction"), (.object "java/util/function/BiFunction")]
  resolved := Array.replicate 194 none
  statics := some 3 }

def pool12 : Array CpInfo := pool [(9, u "<init>"), (6, .class_ 18), (1, u "java/lang/Object"), (0, u "()V"), (1, .class_ 23), (1, u "jdk/internal/util/ArraysSupport"), (0, u "LOG2_ARRAY_LONG_INDEX_SCALE"), (0, u "I"), (2, u "U"), (0, u "Ljdk/internal/misc/Unsafe;"), (8, u "BIG_ENDIAN"), (0, u "Z"), (8, u "LOG2_BYTE_BIT_SIZE"), (4, u "LOG2_ARRAY_INT_INDEX_SCALE"), (54, u "JLA"), (0, u "Ljdk/internal/access/JavaLangAccess;"), (11, u "LOG2_ARRAY_BOOLEAN_INDEX_SCALE"), (9, u "LOG2_ARRAY_BYTE_INDEX_SCALE"), (5, u "LOG2_ARRAY_CHAR_INDEX_SCALE"), (5, u "LOG2_ARRAY_SHORT_INDEX_SCALE"), (18, u "LOG2_ARRAY_FLOAT_INDEX_SCALE"), (24, u "LOG2_ARRAY_DOUBLE_INDEX_SCALE"), (89, u "T_BOOLEAN"), (2, u "T_CHAR"), (1, u "T_FLOAT"), (1, u "T_DOUBLE"), (1, u "T_BYTE"), (1, u "T_SHORT"), (1, u "T_INT"), (1, u "T_LONG"), (1, u "SOFT_MAX_ARRAY_LENGTH")] 83

def k12m0 : Method := { name := "<init>", desc := "()V", sig := { parameters := [], returnType := none }, accessFlags := 2, code := none }
/-- jdk/internal/util/ArraysSupport -/
def k12 : Class := { plain "jdk/internal/util/ArraysSupport" (some 0) with
  accessFlags := 33
  interfaces := #[]
  cf := some (fileOf pool12 21 #[] #[{ accessFlags := 2, nameIndex := 9, descriptorIndex := 19, attributes := #[] }] 33 16 #[] #[{ accessFlags := 24, nameIndex := 28, descriptorIndex := 29, attributes := #[] }, { accessFlags := 26, nameIndex := 38, descriptorIndex := 39, attributes := #[] }, { accessFlags := 25, nameIndex := 121, descriptorIndex := 25, attributes := #[] }, { accessFlags := 25, nameIndex := 131, descriptorIndex := 25, attributes := #[] }, { accessFlags := 25, nameIndex := 137, descriptorIndex := 25, attributes := #[] }, { accessFlags := 25, nameIndex := 143, descriptorIndex := 25, attributes := #[] }, { accessFlags := 25, nameIndex := 53, descriptorIndex := 25, attributes := #[] }, { accessFlags := 25, nameIndex := 24, descriptorIndex := 25, attributes := #[] }, { accessFlags := 25, nameIndex := 162, descriptorIndex := 25, attributes := #[] }, { accessFlags := 25, nameIndex := 187, descriptorIndex := 25, attributes := #[] }, { accessFlags := 26, nameIndex := 48, descriptorIndex := 25, attributes := #[] }, { accessFlags := 25, nameIndex := 277, descriptorIndex := 25, attributes := #[] }, { accessFlags := 25, nameIndex := 280, descriptorIndex := 25, attributes := #[] }, { accessFlags := 25, nameIndex := 282, descriptorIndex := 25, attributes := #[] }, { accessFlags := 25, nameIndex := 284, descriptorIndex := 25, attributes := #[] }, { accessFlags := 25, nameIndex := 286, descriptorIndex := 25, attributes := #[] }, { accessFlags := 25, nameIndex := 288, descriptorIndex := 25, attributes := #[] }, { accessFlags := 25, nameIndex := 290, descriptorIndex := 25, attributes := #[] }, { accessFlags := 25, nameIndex := 292, descriptorIndex := 25, attributes := #[] }, { accessFlags := 26, nameIndex := 108, descriptorIndex := 109, attributes := #[] }, { accessFlags := 25, nameIndex := 294, descriptorIndex := 25, attributes := #[] }])
  fields := #[{ name := "U", type := (.object "jdk/internal/misc/Unsafe"), accessFlags := 24, slot := 0, constantValue := 0 }, { name := "BIG_ENDIAN", type := .boolean, accessFlags := 26, slot := 1, constantValue := 0 }, { name := "LOG2_ARRAY_BOOLEAN_INDEX_SCALE", type := .int, accessFlags := 25, slot := 2, constantValue := 0 }, { name := "LOG2_ARRAY_BYTE_INDEX_SCALE", type := .int, accessFlags := 25, slot := 3, constantValue := 0 }, { name := "LOG2_ARRAY_CHAR_INDEX_SCALE", type := .int, accessFlags := 25, slot := 4, constantValue := 0 }, { name := "LOG2_ARRAY_SHORT_INDEX_SCALE", type := .int, accessFlags := 25, slot := 5, constantValue := 0 }, { name := "LOG2_ARRAY_INT_INDEX_SCALE", type := .int, accessFlags := 25, slot := 6, constantValue := 0 }, { name := "LOG2_ARRAY_LONG_INDEX_SCALE", type := .int, accessFlags := 25, slot := 7, constantValue := 0 }, { name := "LOG2_ARRAY_FLOAT_INDEX_SCALE", type := .int, accessFlags := 25, slot := 8, constantValue := 0 }, { name := "LOG2_ARRAY_DOUBLE_INDEX_SCALE", type := .int, accessFlags := 25, slot := 9, constantValue := 0 }, { name := "LOG2_BYTE_BIT_SIZE", type := .int, accessFlags := 26, slot := 10, constantValue := 0 }, { name := "T_BOOLEAN", type := .int, accessFlags := 25, slot := 11, constantValue := 0 }, { name := "T_CHAR", type := .int, accessFlags := 25, slot := 12, constantValue := 0 }, { name := "T_FLOAT", type := .int, accessFlags := 25, slot := 13, constantValue := 0 }, { name := "T_DOUBLE", type := .int, accessFlags := 25, slot := 14, constantValue := 0 }, { name := "T_BYTE", type := .int, accessFlags := 25, slot := 15, constantValue := 0 }, { name := "T_SHORT", type := .int, accessFlags := 25, slot := 16, constantValue := 0 }, { name := "T_INT", type := .int, accessFlags := 25, slot := 17, constantValue := 0 }, { name := "T_LONG", type := .int, accessFlags := 25, slot := 18, constantValue := 0 }, { name := "JLA", type := (.object "jdk/internal/access/JavaLangAccess"), accessFlags := 26, slot := 19, constantValue := 0 }, { name := "SOFT_MAX_ARRAY_LENGTH", type := .int, accessFlags := 25, slot := 20, constantValue := 0 }]
  methods := #[k12m0]
  instanceTypes := #[]
  staticTypes := #[(.object "jdk/internal/misc/Unsafe"), .boolean, .int, .int, .int, .int, .int, .int, .int, .int, .int, .int, .int, .int, .int, .int, .int, .int, .int, (.object "jdk/internal/access/JavaLangAccess"), .int]
  resolved := Array.replicate 378 none
  statics := none }

def pool13 : Array CpInfo := pool [(1, u "java/lang/Cloneable"), (0, .class_ 1), (0, u "java/lang/Object"), (0, .class_ 3)] 3

/-- java/lang/Cloneable -/
def k13 : Class := { plain "java/lang/Cloneable" (some 0) with
  accessFlags := 1537
  interfaces := #[]
  cf := some (fileOf pool13 2 #[] #[] 1537 4 #[] #[])
  fields := #[]
  methods := #[]
  instanceTypes := #[]
  staticTypes := #[]
  resolved := Array.replicate 8 none
  statics := none }

/-- the primitive boolean -/
def k14 : Class := { plain "boolean" none with kind := .primitive 'Z', accessFlags := 0x411 }
/-- [Z -/
def k15 : Class := { plain "[Z" (some 0) with kind := .array 14 .boolean, interfaces := #[13, 2], accessFlags := 1041 }

/-- the primitive byte -/
def k16 : Class := { plain "byte" none with kind := .primitive 'B', accessFlags := 0x411 }
/-- [B -/
def k17 : Class := { plain "[B" (some 0) with kind := .array 16 .byte, interfaces := #[13, 2], accessFlags := 1041 }

/-- the primitive char -/
def k18 : Class := { plain "char" none with kind := .primitive 'C', accessFlags := 0x411 }
/-- [C -/
def k19 : Class := { plain "[C" (some 0) with kind := .array 18 .char, interfaces := #[13, 2], accessFlags := 1041 }

/-- the primitive int -/
def k20 : Class := { plain "int" none with kind := .primitive 'I', accessFlags := 0x411 }
/-- [I -/
def k21 : Class := { plain "[I" (some 0) with kind := .array 20 .int, interfaces := #[13, 2], accessFlags := 1041 }

def heap : Heap := #[{ cls := 7, slots := #[.long 0, .int 1, .null, .int 0, .null, .int 0, .int 0], vm := .statics 7 },
  { cls := 8, slots := #[.null, .int 0, .int 0, .int 0, .int 0, .null, .ref 4], vm := .statics 8 },
  { cls := 9, slots := #[.int 0, .int 8, .int 0, .int 1], vm := .statics 9 },
  { cls := 11, slots := #[.null, .null, .null], vm := .statics 11 },
  { cls := 15, slots := #[.int 0, .int 0, .int 0, .int 0, .int 0, .int 0, .int 0, .int 0, .int 0, .int 1, .int 1, .int 1, .int 1, .int 1, .int 0, .int 0, .int 0, .int 0, .int 0, .int 0, .int 0, .int 0, .int 0, .int 0, .int 0, .int 0, .int 0, .int 0, .int 0, .int 0, .int 0, .int 0, .int 1, .int 0, .int 0, .int 0, .int 0, .int 0, .int 0, .int 0, .int 0, .int 0, .int 0, .int 0, .int 0, .int 0, .int 0, .int 0, .int 0, .int 0, .int 0, .int 0, .int 0, .int 0, .int 0, .int 0, .int 0, .int 0, .int 0, .int 0, .int 0, .int 0, .int 0, .int 0, .int 0, .int 0, .int 0, .int 0, .int 0, .int 0, .int 0, .int 0, .int 0, .int 0, .int 0, .int 0, .int 0, .int 0, .int 0, .int 0, .int 0, .int 0, .int 0, .int 0, .int 0, .int 0, .int 0, .int 0, .int 0, .int 0, .int 0, .int 0, .int 0, .int 0, .int 0, .int 0, .int 0, .int 0, .int 0, .int 0, .int 0, .int 0, .int 0, .int 0, .int 0, .int 0, .int 0, .int 0, .int 0, .int 0, .int 0, .int 0, .int 0, .int 0, .int 0, .int 0, .int 0, .int 0, .int 0, .int 0, .int 0, .int 0, .int 0, .int 0, .int 0, .int 0, .int 0, .int 0], vm := .none }]
def classes : Array Class := #[k0, k1, k2, k3, k4, k5, k6, k7, k8, k9, k10, k11, k12, k13, k14, k15, k16, k17, k18, k19, k20, k21]
def interned : List (Array UInt16 × Addr) := []
def slotsUsed : Nat := 149
def theMethod : MethodId := ⟨1, 3⟩
def args0 : Array Value := #[.int 6, .int 77, .int 5, .int 6, .int 7]
def aboutOver (below : List Frame) : State where
  vm := { classes := classes, interned := interned.toArray }
  heap := heap
  slotsUsed := slotsUsed
  threads := #[{ frames := .invoking theMethod args0 :: below }]
def below0 : List Frame := [.native { method := ⟨0, 0⟩, args := #[] }]
def about1 : State := aboutOver below0
def p0 : Program := .bare "" "" ""
def e0 : Env := launch0.env 0 0 0
theorem w_frames : about1.frames = Frame.invoking theMethod args0 :: below0 := rfl
set_option maxRecDepth 65536 in
theorem w_args : argsFit about1.vm theMethod args0 = true := by decide +kernel
set_option maxRecDepth 65536 in
theorem w_heap : heapFits about1 = true := by decide +kernel
set_option maxRecDepth 65536 in
theorem w_runnable : about1.curStatus? = some .runnable := by decide +kernel
set_option maxRecDepth 65536 in
theorem w_alone : about1.alone = true := by decide +kernel
set_option maxRecDepth 65536 in
theorem w_named : about1.methodNamed? x = some theMethod := by decide +kernel
set_option maxRecDepth 65536 in
theorem w_hears : about1.hears theMethod below0 = true := by decide +kernel
set_option maxRecDepth 65536 in
theorem w_ripe : about1.ripe theMethod args0 below0 = true := by decide +kernel
theorem w_running : about1.status = .running := rfl
set_option maxRecDepth 65536 in
theorem w_room : about1.hasRoom e0.platform room_1 = true :=
  launch0.hasRoom_least _ room_1 (by decide +kernel) (by decide +kernel) (by decide +kernel) (by decide +kernel) (by decide +kernel) (by decide +kernel)
theorem allAtoms_all (ts : List Jvm.Cond) (a : Array Jvm.Value) (st : Jvm.State) : (allAtoms ts).before a st = ts.all (fun c => c.before a st) := by
  induction ts with
  | nil => rfl
  | cons c t ih =>
    show (Jvm.Cond.and c (allAtoms t)).before a st = _
    rw [Jvm.Cond.before_and, ih, List.all_cons]
def words1 : List Jvm.Cond := Jvm.Cond.code x code maxLocals ret :: tables_1
/-- a 'code' word, met by the world's own term for the bytes: nothing is compared byte by byte -/
theorem code_word {y : MethodName} {bytes : ByteArray} {mx : Nat} {rt : Option FieldType} {a : Array Value} {s : State} {m : MethodId} {meth : Method} {c : Code} (h1 : s.methodNamed? y = some m) (h2 : s.vm.method? m = some meth) (h3 : meth.code = some c) (h4 : c.code = bytes)
    (h5 : (c.maxLocals == mx && c.exceptionTable.isEmpty && decide (c.maxStack ≤ mostOperands) && decide (meth.sig.returnType = rt) && !meth.locks && decide (parseMethodDescriptor y.desc = some meth.sig)) = true) : (Jvm.Cond.code y bytes mx rt).before a s = true := by
  simp only [Bool.and_eq_true, beq_iff_eq, Bool.not_eq_true', decide_eq_true_eq] at h5
  obtain ⟨⟨⟨⟨⟨g1, g2⟩, g3⟩, g4⟩, g5⟩, g6⟩ := h5
  simp [Cond.before, Cond.holds, Cond.value, h1, h2, h3, h4, g1, g2, g3, g4, g5, g6]
def isCode : Jvm.Cond → Bool
  | .code _ _ _ _ => true
  | _ => false
theorem all_split {L : List Jvm.Cond} {P : Jvm.Cond → Bool} (h1 : L.all (fun c => isCode c || P c) = true) (h2 : ∀ c ∈ L.filter isCode, P c = true) : L.all P = true := by
  refine List.all_eq_true.mpr fun c hc => ?_
  have h := List.all_eq_true.mp h1 c hc
  rcases Bool.eq_false_or_eq_true (isCode c) with hi | hi
  · exact h2 c (List.mem_filter.mpr ⟨hc, hi⟩)
  · simpa [hi] using h
set_option maxRecDepth 65536 in
theorem w_c0 : (Jvm.Cond.code x code maxLocals ret).before args0 about1 = true := code_word (m := ⟨1, 3⟩) (meth := k1m3) (c := k1c3) (by decide +kernel) rfl rfl rfl (by decide +kernel)
set_option maxRecDepth 65536 in
theorem w_c1 : (Jvm.Cond.code ({ cls := "com/example/kuusi/kuusi/core/LineScannerIsBlankPinLaw", name := "ch", desc := "(I)C" } : Jvm.MethodName) method_2_code (1 : Nat) (Option.some Jvm.ClassFile.FieldType.char)).before args0 about1 = true := code_word (m := ⟨1, 1⟩) (meth := k1m1) (c := k1c1) (by decide +kernel) rfl rfl rfl (by decide +kernel)
set_option maxRecDepth 65536 in
theorem w_c2 : (Jvm.Cond.code ({ cls := "java/lang/String", name := "<init>", desc := "([C)V" } : Jvm.MethodName) jdk_42_method_3_code (2 : Nat) (Option.none : Option Jvm.ClassFile.FieldType)).before args0 about1 = true := code_word (m := ⟨7, 1⟩) (meth := k7m1) (c := k7c1) (by decide +kernel) rfl rfl rfl (by decide +kernel)
set_option maxRecDepth 65536 in
theorem w_c3 : (Jvm.Cond.code ({ cls := "java/lang/String", name := "<init>", desc := "([CIILjava/lang/Void;)V" } : Jvm.MethodName) jdk_42_method_149_code (6 : Nat) (Option.none : Option Jvm.ClassFile.FieldType)).before args0 about1 = true := code_word (m := ⟨7, 4⟩) (meth := k7m4) (c := k7c4) (by decide +kernel) rfl rfl rfl (by decide +kernel)
set_option maxRecDepth 65536 in
theorem w_c4 : (Jvm.Cond.code ({ cls := "java/lang/Object", name := "<init>", desc := "()V" } : Jvm.MethodName) object_method_1_code (1 : Nat) (Option.none : Option Jvm.ClassFile.FieldType)).before args0 about1 = true := code_word (m := ⟨0, 0⟩) (meth := k0m0) (c := k0c0) (by decide +kernel) rfl rfl rfl (by decide +kernel)
set_option maxRecDepth 65536 in
theorem w_c5 : (Jvm.Cond.code ({ cls := "com/example/kuusi/kuusi/core/LineScanner", name := "isBlank", desc := "(Ljava/lang/String;)Z" } : Jvm.MethodName) prog_51_method_5_code (3 : Nat) (Option.some Jvm.ClassFile.FieldType.boolean)).before args0 about1 = true := code_word (m := ⟨8, 0⟩) (meth := k8m0) (c := k8c0) (by decide +kernel) rfl rfl rfl (by decide +kernel)
set_option maxRecDepth 65536 in
theorem w_c6 : (Jvm.Cond.code ({ cls := "java/lang/String", name := "length", desc := "()I" } : Jvm.MethodName) jdk_42_method_54_code (1 : Nat) (Option.some Jvm.ClassFile.FieldType.int)).before args0 about1 = true := code_word (m := ⟨7, 2⟩) (meth := k7m2) (c := k7c2) (by decide +kernel) rfl rfl rfl (by decide +kernel)
set_option maxRecDepth 65536 in
theorem w_c7 : (Jvm.Cond.code ({ cls := "java/lang/String", name := "coder", desc := "()B" } : Jvm.MethodName) jdk_42_method_152_code (1 : Nat) (Option.some Jvm.ClassFile.FieldType.byte)).before args0 about1 = true := code_word (m := ⟨7, 5⟩) (meth := k7m5) (c := k7c5) (by decide +kernel) rfl rfl rfl (by decide +kernel)
set_option maxRecDepth 65536 in
theorem w_c8 : (Jvm.Cond.code ({ cls := "java/lang/StringUTF16", name := "compress", desc := "([CII)[B" } : Jvm.MethodName) jdk_52_method_16_code (6 : Nat) (Option.some (Jvm.ClassFile.FieldType.array Jvm.ClassFile.FieldType.byte))).before args0 about1 = true := code_word (m := ⟨9, 8⟩) (meth := k9m8) (c := k9c8) (by decide +kernel) rfl rfl rfl (by decide +kernel)
set_option maxRecDepth 65536 in
theorem w_c9 : (Jvm.Cond.code ({ cls := "java/lang/StringUTF16", name := "compress", desc := "([CI[BII)I" } : Jvm.MethodName) jdk_52_method_21_code (7 : Nat) (Option.some Jvm.ClassFile.FieldType.int)).before args0 about1 = true := code_word (m := ⟨9, 9⟩) (meth := k9m9) (c := k9c9) (by decide +kernel) rfl rfl rfl (by decide +kernel)
set_option maxRecDepth 65536 in
theorem w_c10 : (Jvm.Cond.code ({ cls := "java/lang/StringUTF16", name := "coderFromArrayLen", desc := "([BI)B" } : Jvm.MethodName) jdk_52_method_15_code (2 : Nat) (Option.some Jvm.ClassFile.FieldType.byte)).before args0 about1 = true := code_word (m := ⟨9, 7⟩) (meth := k9m7) (c := k9c7) (by decide +kernel) rfl rfl rfl (by decide +kernel)
set_option maxRecDepth 65536 in
theorem w_c11 : (Jvm.Cond.code ({ cls := "com/example/kuusi/kuusi/core/LineScannerIsBlankPinLaw", name := "bl", desc := "(C)Z" } : Jvm.MethodName) method_3_code (1 : Nat) (Option.some Jvm.ClassFile.FieldType.boolean)).before args0 about1 = true := code_word (m := ⟨1, 2⟩) (meth := k1m2) (c := k1c2) (by decide +kernel) rfl rfl rfl (by decide +kernel)
set_option maxRecDepth 65536 in
theorem w_c12 : (Jvm.Cond.code ({ cls := "java/lang/String", name := "charAt", desc := "(I)C" } : Jvm.MethodName) jdk_42_method_56_code (2 : Nat) (Option.some Jvm.ClassFile.FieldType.char)).before args0 about1 = true := code_word (m := ⟨7, 3⟩) (meth := k7m3) (c := k7c3) (by decide +kernel) rfl rfl rfl (by decide +kernel)
set_option maxRecDepth 65536 in
theorem w_c13 : (Jvm.Cond.code ({ cls := "java/lang/String", name := "isLatin1", desc := "()Z" } : Jvm.MethodName) jdk_42_method_154_code (1 : Nat) (Option.some Jvm.ClassFile.FieldType.boolean)).before args0 about1 = true := code_word (m := ⟨7, 6⟩) (meth := k7m6) (c := k7c6) (by decide +kernel) rfl rfl rfl (by decide +kernel)
set_option maxRecDepth 65536 in
theorem w_c14 : (Jvm.Cond.code ({ cls := "java/lang/StringLatin1", name := "charAt", desc := "([BI)C" } : Jvm.MethodName) jdk_43_method_2_code (2 : Nat) (Option.some Jvm.ClassFile.FieldType.char)).before args0 about1 = true := code_word (m := ⟨10, 1⟩) (meth := k10m1) (c := k10c1) (by decide +kernel) rfl rfl rfl (by decide +kernel)
set_option maxRecDepth 65536 in
theorem w_c15 : (Jvm.Cond.code ({ cls := "java/lang/String", name := "checkIndex", desc := "(II)V" } : Jvm.MethodName) jdk_42_method_155_code (2 : Nat) (Option.none : Option Jvm.ClassFile.FieldType)).before args0 about1 = true := code_word (m := ⟨7, 7⟩) (meth := k7m7) (c := k7c7) (by decide +kernel) rfl rfl rfl (by decide +kernel)
set_option maxRecDepth 65536 in
theorem w_c16 : (Jvm.Cond.code ({ cls := "jdk/internal/util/Preconditions", name := "checkIndex", desc := "(IILjava/util/function/BiFunction;)I" } : Jvm.MethodName) jdk_41_method_11_code (3 : Nat) (Option.some Jvm.ClassFile.FieldType.int)).before args0 about1 = true := code_word (m := ⟨11, 1⟩) (meth := k11m1) (c := k11c1) (by decide +kernel) rfl rfl rfl (by decide +kernel)
set_option maxRecDepth 65536 in
theorem w_c17 : (Jvm.Cond.code ({ cls := "com/example/kuusi/kuusi/core/LineScanner", name := "isBlank", desc := "(C)Z" } : Jvm.MethodName) prog_51_method_15_code (1 : Nat) (Option.some Jvm.ClassFile.FieldType.boolean)).before args0 about1 = true := code_word (m := ⟨8, 1⟩) (meth := k8m1) (c := k8c1) (by decide +kernel) rfl rfl rfl (by decide +kernel)
set_option maxRecDepth 65536 in
theorem w_c18 : (Jvm.Cond.code ({ cls := "java/lang/StringUTF16", name := "toBytes", desc := "([CII)[B" } : Jvm.MethodName) jdk_52_method_14_code (5 : Nat) (Option.some (Jvm.ClassFile.FieldType.array Jvm.ClassFile.FieldType.byte))).before args0 about1 = true := code_word (m := ⟨9, 6⟩) (meth := k9m6) (c := k9c6) (by decide +kernel) rfl rfl rfl (by decide +kernel)
set_option maxRecDepth 65536 in
theorem w_c19 : (Jvm.Cond.code ({ cls := "java/lang/StringUTF16", name := "newBytesFor", desc := "(I)[B" } : Jvm.MethodName) jdk_52_method_2_code (1 : Nat) (Option.some (Jvm.ClassFile.FieldType.array Jvm.ClassFile.FieldType.byte))).before args0 about1 = true := code_word (m := ⟨9, 1⟩) (meth := k9m1) (c := k9c1) (by decide +kernel) rfl rfl rfl (by decide +kernel)
set_option maxRecDepth 65536 in
theorem w_c20 : (Jvm.Cond.code ({ cls := "java/lang/StringUTF16", name := "newBytesLength", desc := "(I)I" } : Jvm.MethodName) jdk_52_method_3_code (1 : Nat) (Option.some Jvm.ClassFile.FieldType.int)).before args0 about1 = true := code_word (m := ⟨9, 2⟩) (meth := k9m2) (c := k9c2) (by decide +kernel) rfl rfl rfl (by decide +kernel)
set_option maxRecDepth 65536 in
theorem w_c21 : (Jvm.Cond.code ({ cls := "java/lang/StringUTF16", name := "putChar", desc := "([BII)V" } : Jvm.MethodName) jdk_52_method_4_code (3 : Nat) (Option.none : Option Jvm.ClassFile.FieldType)).before args0 about1 = true := code_word (m := ⟨9, 3⟩) (meth := k9m3) (c := k9c3) (by decide +kernel) rfl rfl rfl (by decide +kernel)
set_option maxRecDepth 65536 in
theorem w_c22 : (Jvm.Cond.code ({ cls := "java/lang/StringUTF16", name := "getChar", desc := "([BI)C" } : Jvm.MethodName) jdk_52_method_5_code (2 : Nat) (Option.some Jvm.ClassFile.FieldType.char)).before args0 about1 = true := code_word (m := ⟨9, 4⟩) (meth := k9m4) (c := k9c4) (by decide +kernel) rfl rfl rfl (by decide +kernel)
set_option maxRecDepth 65536 in
theorem w_c23 : (Jvm.Cond.code ({ cls := "java/lang/StringUTF16", name := "charAt", desc := "([BI)C" } : Jvm.MethodName) jdk_52_method_83_code (2 : Nat) (Option.some Jvm.ClassFile.FieldType.char)).before args0 about1 = true := code_word (m := ⟨9, 10⟩) (meth := k9m10) (c := k9c10) (by decide +kernel) rfl rfl rfl (by decide +kernel)
set_option maxRecDepth 65536 in
theorem w_c24 : (Jvm.Cond.code ({ cls := "java/lang/StringUTF16", name := "checkIndex", desc := "(I[B)V" } : Jvm.MethodName) jdk_52_method_91_code (2 : Nat) (Option.none : Option Jvm.ClassFile.FieldType)).before args0 about1 = true := code_word (m := ⟨9, 11⟩) (meth := k9m11) (c := k9c11) (by decide +kernel) rfl rfl rfl (by decide +kernel)
set_option maxRecDepth 65536 in
theorem w_c25 : (Jvm.Cond.code ({ cls := "java/lang/StringUTF16", name := "length", desc := "([B)I" } : Jvm.MethodName) jdk_52_method_6_code (1 : Nat) (Option.some Jvm.ClassFile.FieldType.int)).before args0 about1 = true := code_word (m := ⟨9, 5⟩) (meth := k9m5) (c := k9c5) (by decide +kernel) rfl rfl rfl (by decide +kernel)
def codes1 : List Jvm.Cond := [Jvm.Cond.code x code maxLocals ret, Jvm.Cond.code ({ cls := "com/example/kuusi/kuusi/core/LineScannerIsBlankPinLaw", name := "ch", desc := "(I)C" } : Jvm.MethodName) method_2_code (1 : Nat) (Option.some Jvm.ClassFile.FieldType.char), Jvm.Cond.code ({ cls := "java/lang/String", name := "<init>", desc := "([C)V" } : Jvm.MethodName) jdk_42_method_3_code (2 : Nat) (Option.none : Option Jvm.ClassFile.FieldType), Jvm.Cond.code ({ cls := "java/lang/String", name := "<init>", desc := "([CIILjava/lang/Void;)V" } : Jvm.MethodName) jdk_42_method_149_code (6 : Nat) (Option.none : Option Jvm.ClassFile.FieldType), Jvm.Cond.code ({ cls := "java/lang/Object", name := "<init>", desc := "()V" } : Jvm.MethodName) object_method_1_code (1 : Nat) (Option.none : Option Jvm.ClassFile.FieldType), Jvm.Cond.code ({ cls := "com/example/kuusi/kuusi/core/LineScanner", name := "isBlank", desc := "(Ljava/lang/String;)Z" } : Jvm.MethodName) prog_51_method_5_code (3 : Nat) (Option.some Jvm.ClassFile.FieldType.boolean), Jvm.Cond.code ({ cls := "java/lang/String", name := "length", desc := "()I" } : Jvm.MethodName) jdk_42_method_54_code (1 : Nat) (Option.some Jvm.ClassFile.FieldType.int), Jvm.Cond.code ({ cls := "java/lang/String", name := "coder", desc := "()B" } : Jvm.MethodName) jdk_42_method_152_code (1 : Nat) (Option.some Jvm.ClassFile.FieldType.byte), Jvm.Cond.code ({ cls := "java/lang/StringUTF16", name := "compress", desc := "([CII)[B" } : Jvm.MethodName) jdk_52_method_16_code (6 : Nat) (Option.some (Jvm.ClassFile.FieldType.array Jvm.ClassFile.FieldType.byte)), Jvm.Cond.code ({ cls := "java/lang/StringUTF16", name := "compress", desc := "([CI[BII)I" } : Jvm.MethodName) jdk_52_method_21_code (7 : Nat) (Option.some Jvm.ClassFile.FieldType.int), Jvm.Cond.code ({ cls := "java/lang/StringUTF16", name := "coderFromArrayLen", desc := "([BI)B" } : Jvm.MethodName) jdk_52_method_15_code (2 : Nat) (Option.some Jvm.ClassFile.FieldType.byte), Jvm.Cond.code ({ cls := "com/example/kuusi/kuusi/core/LineScannerIsBlankPinLaw", name := "bl", desc := "(C)Z" } : Jvm.MethodName) method_3_code (1 : Nat) (Option.some Jvm.ClassFile.FieldType.boolean), Jvm.Cond.code ({ cls := "java/lang/String", name := "charAt", desc := "(I)C" } : Jvm.MethodName) jdk_42_method_56_code (2 : Nat) (Option.some Jvm.ClassFile.FieldType.char), Jvm.Cond.code ({ cls := "java/lang/String", name := "isLatin1", desc := "()Z" } : Jvm.MethodName) jdk_42_method_154_code (1 : Nat) (Option.some Jvm.ClassFile.FieldType.boolean), Jvm.Cond.code ({ cls := "java/lang/StringLatin1", name := "charAt", desc := "([BI)C" } : Jvm.MethodName) jdk_43_method_2_code (2 : Nat) (Option.some Jvm.ClassFile.FieldType.char), Jvm.Cond.code ({ cls := "java/lang/String", name := "checkIndex", desc := "(II)V" } : Jvm.MethodName) jdk_42_method_155_code (2 : Nat) (Option.none : Option Jvm.ClassFile.FieldType), Jvm.Cond.code ({ cls := "jdk/internal/util/Preconditions", name := "checkIndex", desc := "(IILjava/util/function/BiFunction;)I" } : Jvm.MethodName) jdk_41_method_11_code (3 : Nat) (Option.some Jvm.ClassFile.FieldType.int), Jvm.Cond.code ({ cls := "com/example/kuusi/kuusi/core/LineScanner", name := "isBlank", desc := "(C)Z" } : Jvm.MethodName) prog_51_method_15_code (1 : Nat) (Option.some Jvm.ClassFile.FieldType.boolean), Jvm.Cond.code ({ cls := "java/lang/StringUTF16", name := "toBytes", desc := "([CII)[B" } : Jvm.MethodName) jdk_52_method_14_code (5 : Nat) (Option.some (Jvm.ClassFile.FieldType.array Jvm.ClassFile.FieldType.byte)), Jvm.Cond.code ({ cls := "java/lang/StringUTF16", name := "newBytesFor", desc := "(I)[B" } : Jvm.MethodName) jdk_52_method_2_code (1 : Nat) (Option.some (Jvm.ClassFile.FieldType.array Jvm.ClassFile.FieldType.byte)), Jvm.Cond.code ({ cls := "java/lang/StringUTF16", name := "newBytesLength", desc := "(I)I" } : Jvm.MethodName) jdk_52_method_3_code (1 : Nat) (Option.some Jvm.ClassFile.FieldType.int), Jvm.Cond.code ({ cls := "java/lang/StringUTF16", name := "putChar", desc := "([BII)V" } : Jvm.MethodName) jdk_52_method_4_code (3 : Nat) (Option.none : Option Jvm.ClassFile.FieldType), Jvm.Cond.code ({ cls := "java/lang/StringUTF16", name := "getChar", desc := "([BI)C" } : Jvm.MethodName) jdk_52_method_5_code (2 : Nat) (Option.some Jvm.ClassFile.FieldType.char), Jvm.Cond.code ({ cls := "java/lang/StringUTF16", name := "charAt", desc := "([BI)C" } : Jvm.MethodName) jdk_52_method_83_code (2 : Nat) (Option.some Jvm.ClassFile.FieldType.char), Jvm.Cond.code ({ cls := "java/lang/StringUTF16", name := "checkIndex", desc := "(I[B)V" } : Jvm.MethodName) jdk_52_method_91_code (2 : Nat) (Option.none : Option Jvm.ClassFile.FieldType), Jvm.Cond.code ({ cls := "java/lang/StringUTF16", name := "length", desc := "([B)I" } : Jvm.MethodName) jdk_52_method_6_code (1 : Nat) (Option.some Jvm.ClassFile.FieldType.int)]
set_option maxRecDepth 65536 in
theorem codes_eq : words1.filter isCode = codes1 := rfl
theorem w_codes : ∀ c ∈ words1.filter isCode, c.before args0 about1 = true := by
  rw [codes_eq]
  intro c hc
  simp only [codes1, List.mem_cons, List.not_mem_nil, or_false] at hc
  rcases hc with rfl | rfl | rfl | rfl | rfl | rfl | rfl | rfl | rfl | rfl | rfl | rfl | rfl | rfl | rfl | rfl | rfl | rfl | rfl | rfl | rfl | rfl | rfl | rfl | rfl | rfl
  · exact w_c0
  · exact w_c1
  · exact w_c2
  · exact w_c3
  · exact w_c4
  · exact w_c5
  · exact w_c6
  · exact w_c7
  · exact w_c8
  · exact w_c9
  · exact w_c10
  · exact w_c11
  · exact w_c12
  · exact w_c13
  · exact w_c14
  · exact w_c15
  · exact w_c16
  · exact w_c17
  · exact w_c18
  · exact w_c19
  · exact w_c20
  · exact w_c21
  · exact w_c22
  · exact w_c23
  · exact w_c24
  · exact w_c25
set_option maxRecDepth 65536 in
theorem w_t1 : (words1.take 24).all (fun c => isCode c || c.before args0 about1) = true := by decide +kernel
set_option maxRecDepth 65536 in
theorem w_t2 : ((words1.drop 24).take 24).all (fun c => isCode c || c.before args0 about1) = true := by decide +kernel
set_option maxRecDepth 65536 in
theorem w_t3 : (((words1.drop 24).drop 24).take 24).all (fun c => isCode c || c.before args0 about1) = true := by decide +kernel
set_option maxRecDepth 65536 in
theorem w_t4 : ((((words1.drop 24).drop 24).drop 24).take 24).all (fun c => isCode c || c.before args0 about1) = true := by decide +kernel
set_option maxRecDepth 65536 in
theorem w_t5 : ((((words1.drop 24).drop 24).drop 24).drop 24).all (fun c => isCode c || c.before args0 about1) = true := by decide +kernel
theorem w_tables : (allAtoms (Jvm.Cond.code x code maxLocals ret :: tables_1)).before args0 about1 = true := by
  rw [allAtoms_all]
  show words1.all (fun c => c.before args0 about1) = true
  refine all_split ?_ w_codes
  rw [← List.take_append_drop 24 words1, List.all_append, w_t1, ← List.take_append_drop 24 (words1.drop 24), List.all_append, w_t2, ← List.take_append_drop 24 ((words1.drop 24).drop 24), List.all_append, w_t3, ← List.take_append_drop 24 (((words1.drop 24).drop 24).drop 24), List.all_append, w_t4, w_t5]
  rfl
set_option maxRecDepth 65536 in
theorem w_rest : rest_1_c.before args0 about1 = true := by decide +kernel
set_option maxRecDepth 65536 in
theorem w_case : (Jvm.Cond.and given_1 narrow_1).before args0 about1 = true := by decide +kernel
set_option maxRecDepth 65536 in
theorem w_consts : constsHeld consts_1 about1 := Jvm.Lit.constsHeldB_iff.mp (by decide +kernel)
theorem w_applies : (headSpec (Jvm.Cond.code x code maxLocals ret :: tables_1) room_1).applies x e0.platform about1 = true :=
  (Spec.applies_iff w_frames).mpr ⟨w_running, w_runnable, w_alone, w_named, w_hears, w_ripe, w_room, w_tables⟩
theorem atStart : AtStart classFile x code maxLocals ret World_1 tables_1 room_1 Calls_1 rest_1 Pre_1 launch0 p0 e0 about1 theMethod args0 below0 :=
  ⟨lists_1, trivial, launch0.admits_env _ _ _, launch0.least_env, fairChoices_fair.cas, fairChoices_fair.clock, w_frames, w_args, w_heap, w_applies, ⟨w_consts, trivial⟩, w_rest, w_case⟩
end start1
theorem witness_1 : WitnessClaimed_1 := ⟨start1.p0, start1.e0, start1.about1, start1.theMethod, start1.args0, start1.below0, start1.atStart⟩
end Jvm.Pilot.@@N@@
