import JvmDerived
import JvmDerived.Pilot.@@N@@Statement
import JvmDerived.Pilot.@@N@@Code
set_option linter.unusedVariables false
set_option linter.unusedSimpArgs false
namespace Jvm.RoadKit
open Sem ClassFile Op Lib Jvm.Stand Jvm.Free Jvm.LawKit
section New
variable {p : Program} {l : Launch} {e : Env} {R : Room} {s : State} {m : MethodId} {args : Array Value} {below : List Frame} {meth : Method} {c : Code} {T : State} {locs : List Loc} {cells slots : Nat}
theorem retI (X : Stand p l e R s m args below meth c T locs cells slots) (hx : p.tables.exec = Jvm.exec) {pc : Nat} {Ls : Array Slot} {z : Int32} {rest : List Value} (hret : meth.sig.returnType = some .int) (hd : decode c.code pc = .ok (.ireturn, 1)) {fs : List Frame}
    (hl : ∀ (f : JFrame) (acts : List Action), f.method = m → f.locked = none → f.entered = [] → (doReturn e (T.setTop f) acts (some (.int z))).1 = T.setFrames fs) : Steps p.tables e below (T.setTop (mkF m pc Ls (.int z :: rest))) (T.setFrames fs) :=
  retOut X hx (w := .int z) (t := .int) hret rfl (Or.inl ⟨rfl, Or.inl rfl, _, rfl⟩) hd hl
end New
end Jvm.RoadKit
namespace Jvm.Own
open Sem ClassFile Op Lib Jvm.Stand Jvm.Free Jvm.LawKit Jvm.RoadKit
/-- from A on the run comes to B -/
abbrev Go (tb : Tables) (e : Env) (below : List Frame) (A B : State) : Prop := ∀ t, Steps tb e below B t → Steps tb e below A t
theorem gc {tb : Tables} {e : Env} {below : List Frame} {A B C : State} (h : Go tb e below A B) (k : ∀ t, Steps tb e below C t → Steps tb e below B t) : Go tb e below A C := fun t q => h t (k t q)
theorem gcT {tb : Tables} {e : Env} {below : List Frame} {A B C : State} (h : Go tb e below A B) (k : Steps tb e below B C) : Go tb e below A C := fun t q => h t (k.trans q)
theorem lremM {p : Program} {l : Launch} {e : Env} {R : Room} {s : State} {m : MethodId} {args : Array Value} {below : List Frame} {meth : Method} {c : Code} {T : State} {locs : List Loc} {cells slots : Nat} {g : JFrame} {target : State} (X : Stand p l e R s m args below meth c T locs cells slots) (hx : p.tables.exec = Jvm.exec) (hg : g.method = m) {x y : Int64} {rest : List Value} (hd : decode c.code g.pc = .ok (.lrem, 1)) (hs : g.stack = .long y :: .long x :: rest) (hy : y ≠ 0)
    (hr : Steps p.tables e below (T.setTop { g with pc := g.pc + 1, stack := .long (x % y) :: rest }) target) : Steps p.tables e below (T.setTop g) target :=
  XS.lrem X.here hx hg hd hs hy (by rw [lrem_mod]; exact hr)
theorem eqInt {s : State} {args : Array Value} {a : Term} {c : Int32} (h : (Cond.eq a (.int c)).value args s none s [] = some true) : a.eval args s none [] s = some (.int c) := by
  obtain ⟨x, y, hx, hy, k1, k2⟩ := cmp_v (Or.inl h)
  cases hy
  obtain ⟨z, rfl⟩ := k2
  simp [Cond.value, hx, Term.eval] at h
  subst h; exact hx
theorem neqInt {s : State} {args : Array Value} {a : Term} {c x : Int32} (hx : a.eval args s none [] s = some (.int x)) (h : (Cond.not (Cond.eq a (.int c))).value args s none s [] = some true) : ¬ x = c := by
  intro q
  have h2 := not_v h
  subst q
  simp [Cond.value, hx, Term.eval] at h2
theorem elAt {s : State} {args : Array Value} {t u : Term} {a w : Addr} {cl : Cell} {ty : FieldType} {i : Int32} (ht : t.eval args s none [] s = some (.ref a)) (A : Arr s s.heap a cl ty) (h : (Cond.eq (.elem t (.int i)) u).value args s none s [] = some true) (hu : u.eval args s none [] s = some (.ref w)) {j : Nat} (hj : i.toNatClampNeg = j) : cl.slots[j]? = some (.ref w) := by
  obtain ⟨x, y, hx, hy, k1, k2⟩ := cmp_v (Or.inl h)
  rw [hu] at hy; cases hy
  have hr : x.isRef = true := k2.2
  have e := gotT (eq_R hx hu hr rfl) h
  subst e
  have q := (elem_in hx ht (Term.int_eval i) A.1).2
  rw [hj] at q; exact q
theorem arvOf {s : State} {args : Array Value} {t : Term} {a : Addr} {cl : Cell} {ty : FieldType} {z : Int32} {vs : List Value} {dv : Value} (hf : Fit s) (ev : t.eval args s none [] s = some (.ref a)) (A : Arr s s.heap a cl ty) (hl : (Term.length t).eval args s none [] s = some (.int z)) (hz : ¬ z < 0) (hn : z.toNatClampNeg = vs.length) (H : HasL cl 0 vs) : Arv s s.heap a cl.cls ty z vs dv := by
  have ha : s.arrayAt? a = some cl := Arr.fin (Vm.Alike.refl _) A
  by_cases q : cl.slots.size < 2 ^ 31
  · rw [len_f ev ha q] at hl
    cases hl
    exact Arv.start hf A q rfl hz hn H
  · simp [Term.eval, ev, ha, q] at hl
theorem selPriv {s : State} {args : Array Value} {C : String} {z y : MethodName} (w : (Cond.selects C z z).before args s = true) (hc : z.cls = y.cls) (hp : s.PrivateAt y) (hi : (Cond.instanceMethod y).before args s = true) (hy : y.cls ≠ "java/lang/invoke/MethodHandle" ∧ y.cls ≠ "java/lang/invoke/VarHandle") : (Cond.selects y.cls y y).before args s = true := by
  obtain ⟨c2, r2, m2, -, -, q3, -, kP, hkP, hkPi⟩ := Cond.selects_spec w
  exact selects_self_of_private (hc ▸ findClass_of_methodNamed q3) hkP hkPi hp hi hy
end Jvm.Own
namespace Jvm.Pilot.@@N@@
open Jvm Jvm.ClassFile Sem Op Lib Jvm.Free Jvm.Stand Jvm.LawKit Jvm.RoadKit Jvm.Own Bundle Jvm.Pilot.@@N@@.Jvm.D
theorem own_w {Z : State} {a0 : Array Value} (hw : ∀ d ∈ tables_1, d.before a0 Z = true) (i : Nat) {d : Jvm.Cond} (h : tables_1[i]? = some d) : d.before a0 Z = true := hw _ (List.mem_of_getElem? h)
abbrev own_x0 (c : Int32) : Int32 := nar .byte ((c >>> (0 : Int32)).toInt8.toInt32)
abbrev own_x8 (c : Int32) : Int32 := nar .byte ((c >>> (8 : Int32)).toInt8.toInt32)
abbrev own_xl (c : Int32) : Int32 := nar .byte (c.toInt8.toInt32)

def own_c8 (b : Int32) : Int32 := nar .char ((b &&& (255 : Int32)).toUInt32.toUInt16.toUInt32.toInt32)
def own_c16 (b0 b1 : Int32) : Int32 := nar .char ((((b0 &&& (255 : Int32)) <<< (0 : Int32)) ||| ((b1 &&& (255 : Int32)) <<< (8 : Int32))).toUInt32.toUInt16.toUInt32.toInt32)
theorem own_255 (i : Nat) : (255#32).getLsbD i = decide (i < 8) := by
  rw [BitVec.getLsbD_ofNat, show (255 : Nat) = 2 ^ 8 - 1 from rfl, Nat.testBit_two_pow_sub_one]
  by_cases h : i < 8 <;> simp [h]
  omega
theorem own_narb (x : Int32) : (nar .byte x &&& (255 : Int32)).toBitVec = x.toBitVec &&& 255#32 := by
  apply BitVec.eq_of_getLsbD_eq
  intro i hi
  simp [nar, own_255, BitVec.getLsbD_signExtend]
  by_cases h : i < 8 <;> simp [h, hi]
theorem own_nb8 (x : Int32) : nar .byte (x.toInt8.toInt32) &&& (255 : Int32) = x &&& 255 := by
  apply Int32.toBitVec_inj.mp
  rw [own_narb]
  apply BitVec.eq_of_getLsbD_eq
  intro i hi
  simp [own_255, BitVec.getLsbD_signExtend]
  by_cases h : i < 8 <;> simp [h, hi]
theorem own_narc (x : Int32) (h1 : ¬ x < 0) (h2 : ¬ (65535 : Int32) < x) : nar .char x = x := by
  have h := c_i2c x
  rw [Int32.lt_iff_toInt_lt] at h1 h2
  rw [show (0 : Int32).toInt = 0 from rfl] at h1
  rw [show (65535 : Int32).toInt = 65535 from rfl] at h2
  apply Int32.toInt_inj.mp
  show (x.toUInt32.toUInt16.toUInt32.toInt32).toInt = x.toInt
  omega
theorem own_narcr (x : Int32) : ¬ nar .char x < 0 ∧ ¬ (65535 : Int32) < nar .char x := by
  have h := c_i2c x
  rw [Int32.lt_iff_toInt_lt, Int32.lt_iff_toInt_lt]
  rw [show (0 : Int32).toInt = 0 from rfl, show (65535 : Int32).toInt = 65535 from rfl]
  show ¬ (x.toUInt32.toUInt16.toUInt32.toInt32).toInt < 0 ∧ ¬ 65535 < (x.toUInt32.toUInt16.toUInt32.toInt32).toInt
  omega
theorem own_m255 (x : Int32) (h1 : ¬ x < 0) (h2 : ¬ (255 : Int32) < x) : x &&& (255 : Int32) = x := by
  have h := c_mask x 255 8 (by decide) (by decide)
  rw [Int32.lt_iff_toInt_lt] at h1 h2
  rw [show (0 : Int32).toInt = 0 from rfl] at h1
  rw [show (255 : Int32).toInt = 255 from rfl] at h2
  apply Int32.toInt_inj.mp
  rw [h]; omega
/-- a Latin-1 char comes back -/
theorem own_l8 (c : Int32) (h1 : ¬ c < 0) (h2 : ¬ (255 : Int32) < c) : own_c8 (nar .byte (c.toInt8.toInt32)) = c := by
  have e : nar .byte (c.toInt8.toInt32) &&& (255 : Int32) = c := by rw [own_nb8, own_m255 c h1 h2]
  have h3 : ¬ (65535 : Int32) < c := fun q => h2 (Int32.lt_trans (by decide) q)
  have e2 : c.toUInt32.toUInt16.toUInt32.toInt32 = c := own_narc c h1 h3
  unfold own_c8
  rw [e, e2, own_narc c h1 h3]
theorem own_l16 (c : Int32) (h1 : ¬ c < 0) (h2 : ¬ (65535 : Int32) < c) : own_c16 (nar .byte ((c >>> (0 : Int32)).toInt8.toInt32)) (nar .byte ((c >>> (8 : Int32)).toInt8.toInt32)) = c := by
  unfold own_c16
  rw [own_nb8, own_nb8]
  have e0 : c >>> (0 : Int32) = c := by simp
  rw [e0]
  have e : ((c &&& (255 : Int32)) <<< (0 : Int32)) ||| (((c >>> (8 : Int32)) &&& (255 : Int32)) <<< (8 : Int32)) = c := by
    have hb : ∀ i, 16 ≤ i → c.toBitVec.getLsbD i = false := by
      intro i hi
      rw [Int32.lt_iff_toInt_lt] at h1 h2
      rw [show (0 : Int32).toInt = 0 from rfl] at h1
      rw [show (65535 : Int32).toInt = 65535 from rfl] at h2
      have h3 : c.toInt = c.toBitVec.toInt := rfl
      have h4 : c.toBitVec.toNat < 65536 := by
        rw [h3, BitVec.toInt_eq_toNat_cond] at h1 h2
        split at h1 <;> simp_all <;> omega
      rw [BitVec.getLsbD, Nat.testBit_lt_two_pow]
      exact Nat.lt_of_lt_of_le h4 (Nat.le_trans (by decide : 65536 ≤ 2 ^ 16) (Nat.pow_le_pow_right (by decide) hi))
    apply Int32.toBitVec_inj.mp
    apply BitVec.eq_of_getLsbD_eq
    intro i hi
    have key : 8 ≤ i → 8 + (i - 8) = i := fun h => by omega
    simp [own_255, BitVec.getLsbD_sshiftRight]
    rcases Nat.lt_or_ge i 8 with a | a
    · simp [a]
    · rcases Nat.lt_or_ge i 16 with b | b
      · have q1 : ¬ i < 8 := by omega
        have q2 : i - 8 < 8 := by omega
        have q3 : i - 8 < 32 := by omega
        simp [hi, q1, q2, q3, key a]
      · have q1 : ¬ i < 8 := by omega
        have q2 : ¬ (i - 8 < 8) := by omega
        rw [hb i b]; simp [q1, q2]
  rw [e]
  have e2 : c.toUInt32.toUInt16.toUInt32.toInt32 = c := own_narc c h1 h2
  rw [e2, own_narc c h1 h2]

theorem own_nar2 (x : Int32) : nar .char (nar .char x) = nar .char x := own_narc _ (own_narcr x).1 (own_narcr x).2
def own_G (Z : State) (cs1 : Int32) (fm : Value) : Prop := Sta Z Z.heap "java/lang/String" "COMPACT_STRINGS" "Z" (.int cs1) ∧ ¬ (cs1 = (0 : Int32)) ∧ Sta Z Z.heap "jdk/internal/util/Preconditions" "SIOOBE_FORMATTER" "Ljava/util/function/BiFunction;" fm ∧ fm.isRef = true ∧ Sta Z Z.heap "java/lang/StringUTF16" "$assertionsDisabled" "Z" (.int (1 : Int32)) ∧ Sta Z Z.heap "java/lang/StringUTF16" "HI_BYTE_SHIFT" "I" (.int (0 : Int32)) ∧ Sta Z Z.heap "java/lang/StringUTF16" "LO_BYTE_SHIFT" "I" (.int (8 : Int32))
def own_at (cs : List Int32) (i : Nat) : Int32 := cs.getD i 0
def own_nl (cs : List Int32) : Nat → Nat
  | 0 => 0
  | i + 1 => own_nl cs i + (if own_at cs i = 10 then 1 else 0)
theorem own_nl_s (cs : List Int32) (i : Nat) : own_nl cs (i + 1) = own_nl cs i + (if own_at cs i = 10 then 1 else 0) := rfl
theorem own_nl_le (cs : List Int32) : ∀ i, own_nl cs i ≤ i := by
  intro i; induction i with
  | zero => exact Nat.le_refl _
  | succ i ih => rw [own_nl_s]; split <;> omega
theorem own_nl_mono (cs : List Int32) : ∀ k i, own_nl cs i ≤ own_nl cs (i + k) := by
  intro k i; induction k with
  | zero => exact Nat.le_refl _
  | succ k ih => rw [← Nat.add_assoc, own_nl_s]; omega
theorem own_nl_lt (cs : List Int32) {i n : Nat} (h : i < n) (q : own_at cs i = 10) : 1 + own_nl cs i < 1 + own_nl cs n := by
  have h1 := own_nl_mono cs (n - (i + 1)) (i + 1)
  rw [show i + 1 + (n - (i + 1)) = n by omega, own_nl_s, if_pos q] at h1
  omega
def own_st (cs : List Int32) (n : Nat) : Nat → List Int32
  | 0 => List.replicate (1 + own_nl cs n) 0
  | i + 1 => if own_at cs i = 10 then (own_st cs n i).set (1 + own_nl cs i) (Int32.ofNat (i + 1)) else own_st cs n i
theorem own_st_len (cs : List Int32) (n : Nat) : ∀ i, (own_st cs n i).length = 1 + own_nl cs n := by
  intro i; induction i with
  | zero => simp [own_st]
  | succ i ih => unfold own_st; split <;> simp [ih]
theorem own_lt32 {a b : Nat} (ha : a < 32) (hb : b < 32) : (Int32.ofNat a < Int32.ofNat b ↔ a < b) := by
  have : ∀ x y : Fin 32, (Int32.ofNat x.val < Int32.ofNat y.val ↔ x.val < y.val) := by decide +kernel
  exact this ⟨a, ha⟩ ⟨b, hb⟩
theorem own_cl32 {a : Nat} (ha : a < 32) : (Int32.ofNat a).toNatClampNeg = a := by
  have : ∀ x : Fin 32, (Int32.ofNat x.val).toNatClampNeg = x.val := by decide +kernel
  exact this ⟨a, ha⟩
theorem own_nn32 {a : Nat} (ha : a < 32) : ¬ Int32.ofNat a < (0 : Int32) := by
  have : ∀ x : Fin 32, ¬ Int32.ofNat x.val < (0 : Int32) := by decide +kernel
  exact this ⟨a, ha⟩
theorem own_up1 (a : Nat) : Int32.ofNat (a + 1) = Int32.ofNat a + (1 : Int32) := by
  apply Int32.toBitVec_inj.mp
  simp

def own_hi (c : Int32) : Int32 := if c < (55296 : Int32) then 0 else if c < (56320 : Int32) then 1 else 0
def own_lo (c : Int32) : Int32 := if c < (56320 : Int32) then 0 else if c < (57344 : Int32) then 1 else 0
theorem own_lt1 (c : Int32) (a b : Int32) (h : b.toInt = a.toInt + 1) : a < c ↔ ¬ c < b := by
  rw [Int32.lt_iff_toInt_lt, Int32.lt_iff_toInt_lt]; omega
theorem own_excl (c : Int32) : own_lo c = 0 ∨ own_hi c = 0 := by
  unfold own_lo own_hi
  by_cases h : c < (56320 : Int32)
  · exact Or.inl (if_pos h)
  · right; simp [h]
theorem own_hi01 (c : Int32) : own_hi c = 0 ∨ own_hi c = 1 := by unfold own_hi; (repeat' split) <;> simp
theorem own_hiL {c : Int32} (h : ¬ (255 : Int32) < c) : own_hi c = 0 := by
  have : c < (55296 : Int32) := by
    rw [Int32.lt_iff_toInt_lt] at h ⊢
    rw [show (255 : Int32).toInt = 255 from rfl] at h
    rw [show (55296 : Int32).toInt = 55296 from rfl]; omega
  unfold own_hi; rw [if_pos this]
def own_pr (c c' : Int32) : Int32 := if own_hi c = 0 then 0 else if own_lo c' = 0 then 0 else 1
def own_cp2 (c0 c1 c2 c3 : Int32) : Int32 := (2 : Int32) - own_pr c0 c1
def own_cp3 (c0 c1 c2 c3 : Int32) : Int32 := (3 : Int32) - own_pr c0 c1 - own_pr c1 c2
def own_cp4 (c0 c1 c2 c3 : Int32) : Int32 := (4 : Int32) - own_pr c0 c1 - own_pr c1 c2 - own_pr c2 c3
def own_chv (o c0 c1 c2 c3 : Int32) : Int32 := if o = 0 then 1 else if o = 1 then 2 else if o = 2 then own_cp2 c0 c1 c2 c3 + 1 else if o = 3 then own_cp3 c0 c1 c2 c3 + 1 else own_cp4 c0 c1 c2 c3 + 1

theorem own_prp (q c c' : Int32) : (if own_hi c = 0 then q else (if own_lo c' = 0 then q else (q + (1 : Int32)))) = q + own_pr c c' := by
  unfold own_pr; split
  · simp
  · split <;> simp
theorem own_pr01 (c c' : Int32) : own_pr c c' = 0 ∨ own_pr c c' = 1 := by unfold own_pr; (repeat' split) <;> simp
theorem own_fin {o x0 x1 x2 x3 pr1 pr2 pr3 : Int32} (ho : o = 0 ∨ o = 1 ∨ o = 2 ∨ o = 3 ∨ o = 4)
    (h1 : pr1 = (if o < (2 : Int32) then (0 : Int32) else (if (own_hi x0) = (0 : Int32) then (0 : Int32) else (if (own_lo x1) = (0 : Int32) then (0 : Int32) else (1 : Int32)))))
    (h2 : pr2 = (if o < (3 : Int32) then pr1 else (if (own_hi x1) = (0 : Int32) then pr1 else (if (own_lo x2) = (0 : Int32) then pr1 else (pr1 + (1 : Int32))))))
    (h3 : pr3 = (if o < (4 : Int32) then pr2 else (if (own_hi x2) = (0 : Int32) then pr2 else (if (own_lo x3) = (0 : Int32) then pr2 else (pr2 + (1 : Int32)))))) :
    own_chv o x0 x1 x2 x3 = ((o - pr3) + (1 : Int32)) := by
  rw [own_prp] at h2 h3
  rw [h3, h2, h1, show (if (own_hi x0) = (0 : Int32) then (0 : Int32) else (if (own_lo x1) = (0 : Int32) then (0 : Int32) else (1 : Int32))) = own_pr x0 x1 from rfl]
  unfold own_chv own_cp2 own_cp3 own_cp4
  rcases own_pr01 x0 x1 with a | a <;> rcases own_pr01 x1 x2 with b | b <;> rcases own_pr01 x2 x3 with c | c <;> rw [a, b, c] <;> rcases ho with r | r | r | r | r <;> rw [r] <;> decide

theorem own_rem5 (x : Int32) : (x &&& 2147483647) % 5 = 0 ∨ (x &&& 2147483647) % 5 = 1 ∨ (x &&& 2147483647) % 5 = 2 ∨ (x &&& 2147483647) % 5 = 3 ∨ (x &&& 2147483647) % 5 = 4 := by
  have h0 := c_mask x 2147483647 31 (by decide) (by decide)
  have h1 := (c_irem (x &&& 2147483647) 5 5 (by decide)).1 (by omega)
  have h2 : ((x &&& 2147483647) % 5).toInt = 0 ∨ ((x &&& 2147483647) % 5).toInt = 1 ∨ ((x &&& 2147483647) % 5).toInt = 2 ∨ ((x &&& 2147483647) % 5).toInt = 3 ∨ ((x &&& 2147483647) % 5).toInt = 4 := by omega
  rcases h2 with h | h | h | h | h
  · exact Or.inl (Int32.toInt_inj.mp h)
  · exact Or.inr (Or.inl (Int32.toInt_inj.mp h))
  · exact Or.inr (Or.inr (Or.inl (Int32.toInt_inj.mp h)))
  · exact Or.inr (Or.inr (Or.inr (Or.inl (Int32.toInt_inj.mp h))))
  · exact Or.inr (Or.inr (Or.inr (Or.inr (Int32.toInt_inj.mp h))))

theorem d12_0 : decode jdk_42_method_154_code 0 = .ok (.getstatic 38, 3) := by decide +kernel
theorem d12_3 : decode jdk_42_method_154_code 3 = .ok (.ifCond .eq 14, 3) := by decide +kernel
theorem d12_6 : decode jdk_42_method_154_code 6 = .ok (.aload_n 0, 1) := by decide +kernel
theorem d12_7 : decode jdk_42_method_154_code 7 = .ok (.getfield 15, 3) := by decide +kernel
theorem d12_10 : decode jdk_42_method_154_code 10 = .ok (.ifCond .ne 7, 3) := by decide +kernel
theorem d12_13 : decode jdk_42_method_154_code 13 = .ok (.iconst 1, 1) := by decide +kernel
theorem d12_14 : decode jdk_42_method_154_code 14 = .ok (.goto 4, 3) := by decide +kernel
theorem d12_18 : decode jdk_42_method_154_code 18 = .ok (.ireturn, 1) := by decide +kernel
theorem pn12 : plainFor (⟨"java/lang/String", "isLatin1", "()Z"⟩ : MethodName) = true := plainFor_of_name (by first | (simp [plainName, overriddenIn]; done) | decide +kernel)
theorem ef_rm12_0 (m : MethodId) (a1 : Addr) (cs1 : Int32) (fm : Value) : entryFrame m #[(.ref a1)] 1 = mkF m 0 #[.val (.ref a1)] [] := by first | (simp [entryFrame, mkF, argsToLocals, Value.category]; done) | rfl
def Q12_0 (Z : State) (a1 : Addr) (cs1 : Int32) (fm : Value) (h0 : Heap) (n0 : Nat) (v : Option Value) (h : Heap) (L : List Loc) : Prop := v = some (.int (1 : Int32)) ∧ Fr n0 L ∧ (h = h0)
set_option maxRecDepth 65536 in
set_option maxHeartbeats 40000000 in
theorem rm12_0 (l : Launch) (Z : State) (a0 : Array Value) (hw : ∀ d ∈ tables_1, d.before a0 Z = true) (ws : List Jvm.Cond) (a1 : Addr) (cs1 : Int32) (fm : Value) (h0 : Heap) (n0 : Nat) (Z0 : n0 ≤ h0.size) (O1 : Old Z n0 h0) (G : own_G Z cs1 fm) (F1 : Fld Z h0 a1 "java/lang/String" "coder" "B" (.int (0 : Int32))) :
  MetFree l (⟨"java/lang/String", "isLatin1", "()Z"⟩ : MethodName) (head1 (Jvm.Cond.code (⟨"java/lang/String", "isLatin1", "()Z"⟩ : MethodName) jdk_42_method_154_code 1 (some .boolean) :: ws) ({ frames := 0, cells := 0, slots := 0, locals := 0 } : Room)) (fun a U => a = #[(.ref a1)] ∧ Z.Warmed39 U.vm ∧ U.heap = h0) (fun _ _ _ _ _ => True) (fun _ U o U' => ∃ v L, o = .returned v ∧ Q12_0 Z a1 cs1 fm h0 n0 v U'.heap L ∧ FrameEnd U o U' L ({ frames := 0, cells := 0, slots := 0, locals := 0 } : Room).cells ({ frames := 0, cells := 0, slots := 0, locals := 0 } : Room).slots) := by
 refine MetFree.of_bodySF pn12 hisR ?_
 intro p e s m args below meth c s₁ Bd hml0 hP hK
 obtain ⟨rfl, hZ, hh⟩ := hP
 have hx := Bd.exec
 have hby := Bd.bytes
 have hml : c.maxLocals = 1 := hml0
 have hown : s.vm.findClass "java/lang/String" = some m.cls := findClass_of_methodNamed Bd.named
 have hnm := (name_of_methodNamed Bd.named Bd.method).1
 have X0 : Stand p l e ({ frames := 0, cells := 0, slots := 0, locals := 0 } : Room) s m #[(.ref a1)] below meth c s₁ [] 0 0 := Stand.of_body Bd
 have e0 : s₁.heap = h0 := by rw [← hh, Bd.state]; rfl
 have N0 := Fr.nil n0
 have p0 : Go p.tables e below (s₁.setTop (entryFrame m #[(.ref a1)] 1)) (s₁.setTop (mkF m 0 #[.val (.ref a1)] [])) := fun t_ k_ => castTop (ef_rm12_0 m a1 cs1 fm) k_
 obtain ⟨T101, X101, e101, st101⟩ := getS2 X0 hx hZ hown (host := "") (Or.inl (own_w hw 19 rfl)) Via.refl e0 (G.1.ext O1.2) (g := (mkF m 0 #[.val (.ref a1)] [])) rfl (hb hby d12_0)
 have c102 : ¬ (cs1 = (0 : Int32)) := G.2.1
 have p103 : Go p.tables e below _ (T101.setTop (mkF m 7 #[.val (.ref a1)] [(.ref a1)])) := fun t_ k_ => (gc p0 st101) t_ (by
  refine XS.ifNo X101.here hx rfl (hb hby d12_3) rfl ((if0 _ _).trans (feq c102).1) ?_
  refine XS.aloadN X101.here hx rfl (hb hby d12_6) rfl rfl ?_
  exact k_)
 obtain ⟨T104, X104, e104, st104⟩ := getF X101 hx hZ hown (host := "") (Or.inl (own_w hw 31 rfl)) Via.refl e101 F1 (g := (mkF m 7 #[.val (.ref a1)] [(.ref a1)])) rfl rfl (hb hby d12_7)
 have p105 : Go p.tables e below _ (T104.setTop (mkF m 18 #[.val (.ref a1)] [(.int (1 : Int32))])) := fun t_ k_ => (gc p103 st104) t_ (by
  refine XS.ifNo X104.here hx rfl (hb hby d12_10) rfl ((if0 _ _).trans (teq (by decide : ((0 : Int32) = (0 : Int32)))).2) ?_
  refine XS.iconst X104.here hx rfl (hb hby d12_13) ?_
  refine XS.goto X104.here hx rfl (pc0 := 14) (pc' := 18) rfl (hb hby d12_14) (by decide) (by decide) ?_
  exact k_)
 obtain ⟨fs, hr, hrun, hended, hW, hsame⟩ := X104.leave (v := some (.int (1 : Int32))) (fun h => by rw [Bd.returns] at h; cases h)
 refine ⟨_, _, p105 _ (retN X104 hx (t := .boolean) Bd.returns (by simp) (hb hby d12_18) hr), hrun, hended, _, _, rfl, ?_, ⟨_, rfl⟩, hW, hsame.mono (by decide) (by decide)⟩
 show Q12_0 Z a1 cs1 fm h0 n0 _ T104.heap _
 rw [e104]
 exact ⟨rfl, N0, rfl⟩
theorem d10_0 : decode jdk_42_method_152_code 0 = .ok (.getstatic 38, 3) := by decide +kernel
theorem d10_3 : decode jdk_42_method_152_code 3 = .ok (.ifCond .eq 10, 3) := by decide +kernel
theorem d10_6 : decode jdk_42_method_152_code 6 = .ok (.aload_n 0, 1) := by decide +kernel
theorem d10_7 : decode jdk_42_method_152_code 7 = .ok (.getfield 15, 3) := by decide +kernel
theorem d10_10 : decode jdk_42_method_152_code 10 = .ok (.goto 4, 3) := by decide +kernel
theorem d10_14 : decode jdk_42_method_152_code 14 = .ok (.ireturn, 1) := by decide +kernel
theorem pn10 : plainFor (⟨"java/lang/String", "coder", "()B"⟩ : MethodName) = true := plainFor_of_name (by first | (simp [plainName, overriddenIn]; done) | decide +kernel)
theorem ef_rm10_0 (m : MethodId) (a1 : Addr) (cs1 : Int32) (fm : Value) : entryFrame m #[(.ref a1)] 1 = mkF m 0 #[.val (.ref a1)] [] := by first | (simp [entryFrame, mkF, argsToLocals, Value.category]; done) | rfl
def Q10_0 (Z : State) (a1 : Addr) (cs1 : Int32) (fm : Value) (h0 : Heap) (n0 : Nat) (v : Option Value) (h : Heap) (L : List Loc) : Prop := v = some (.int (0 : Int32)) ∧ Fr n0 L ∧ (h = h0)
set_option maxRecDepth 65536 in
set_option maxHeartbeats 40000000 in
theorem rm10_0 (l : Launch) (Z : State) (a0 : Array Value) (hw : ∀ d ∈ tables_1, d.before a0 Z = true) (ws : List Jvm.Cond) (a1 : Addr) (cs1 : Int32) (fm : Value) (h0 : Heap) (n0 : Nat) (Z0 : n0 ≤ h0.size) (O1 : Old Z n0 h0) (G : own_G Z cs1 fm) (F1 : Fld Z h0 a1 "java/lang/String" "coder" "B" (.int (0 : Int32))) :
  MetFree l (⟨"java/lang/String", "coder", "()B"⟩ : MethodName) (head1 (Jvm.Cond.code (⟨"java/lang/String", "coder", "()B"⟩ : MethodName) jdk_42_method_152_code 1 (some .byte) :: ws) ({ frames := 0, cells := 0, slots := 0, locals := 0 } : Room)) (fun a U => a = #[(.ref a1)] ∧ Z.Warmed39 U.vm ∧ U.heap = h0) (fun _ _ _ _ _ => True) (fun _ U o U' => ∃ v L, o = .returned v ∧ Q10_0 Z a1 cs1 fm h0 n0 v U'.heap L ∧ FrameEnd U o U' L ({ frames := 0, cells := 0, slots := 0, locals := 0 } : Room).cells ({ frames := 0, cells := 0, slots := 0, locals := 0 } : Room).slots) := by
 refine MetFree.of_bodySF pn10 hisR ?_
 intro p e s m args below meth c s₁ Bd hml0 hP hK
 obtain ⟨rfl, hZ, hh⟩ := hP
 have hx := Bd.exec
 have hby := Bd.bytes
 have hml : c.maxLocals = 1 := hml0
 have hown : s.vm.findClass "java/lang/String" = some m.cls := findClass_of_methodNamed Bd.named
 have hnm := (name_of_methodNamed Bd.named Bd.method).1
 have X0 : Stand p l e ({ frames := 0, cells := 0, slots := 0, locals := 0 } : Room) s m #[(.ref a1)] below meth c s₁ [] 0 0 := Stand.of_body Bd
 have e0 : s₁.heap = h0 := by rw [← hh, Bd.state]; rfl
 have N0 := Fr.nil n0
 have p0 : Go p.tables e below (s₁.setTop (entryFrame m #[(.ref a1)] 1)) (s₁.setTop (mkF m 0 #[.val (.ref a1)] [])) := fun t_ k_ => castTop (ef_rm10_0 m a1 cs1 fm) k_
 obtain ⟨T101, X101, e101, st101⟩ := getS2 X0 hx hZ hown (host := "") (Or.inl (own_w hw 19 rfl)) Via.refl e0 (G.1.ext O1.2) (g := (mkF m 0 #[.val (.ref a1)] [])) rfl (hb hby d10_0)
 have c102 : ¬ (cs1 = (0 : Int32)) := G.2.1
 have p103 : Go p.tables e below _ (T101.setTop (mkF m 7 #[.val (.ref a1)] [(.ref a1)])) := fun t_ k_ => (gc p0 st101) t_ (by
  refine XS.ifNo X101.here hx rfl (hb hby d10_3) rfl ((if0 _ _).trans (feq c102).1) ?_
  refine XS.aloadN X101.here hx rfl (hb hby d10_6) rfl rfl ?_
  exact k_)
 obtain ⟨T104, X104, e104, st104⟩ := getF X101 hx hZ hown (host := "") (Or.inl (own_w hw 31 rfl)) Via.refl e101 F1 (g := (mkF m 7 #[.val (.ref a1)] [(.ref a1)])) rfl rfl (hb hby d10_7)
 have p105 : Go p.tables e below _ (T104.setTop (mkF m 14 #[.val (.ref a1)] [(.int (0 : Int32))])) := fun t_ k_ => (gc p103 st104) t_ (by
  refine XS.goto X104.here hx rfl (pc0 := 10) (pc' := 14) rfl (hb hby d10_10) (by decide) (by decide) ?_
  exact k_)
 obtain ⟨fs, hr, hrun, hended, hW, hsame⟩ := X104.leave (v := some (.int (0 : Int32))) (fun h => by rw [Bd.returns] at h; cases h)
 refine ⟨_, _, p105 _ (retN X104 hx (t := .byte) Bd.returns (by simp) (hb hby d10_14) hr), hrun, hended, _, _, rfl, ?_, ⟨_, rfl⟩, hW, hsame.mono (by decide) (by decide)⟩
 show Q10_0 Z a1 cs1 fm h0 n0 _ T104.heap _
 rw [e104]
 exact ⟨rfl, N0, rfl⟩
theorem d9_0 : decode jdk_42_method_54_code 0 = .ok (.aload_n 0, 1) := by decide +kernel
theorem d9_1 : decode jdk_42_method_54_code 1 = .ok (.getfield 9, 3) := by decide +kernel
theorem d9_4 : decode jdk_42_method_54_code 4 = .ok (.arraylength, 1) := by decide +kernel
theorem d9_5 : decode jdk_42_method_54_code 5 = .ok (.aload_n 0, 1) := by decide +kernel
theorem d9_6 : decode jdk_42_method_54_code 6 = .ok (.invokevirtual 335, 3) := by decide +kernel
theorem d9_9 : decode jdk_42_method_54_code 9 = .ok (.ishr, 1) := by decide +kernel
theorem d9_10 : decode jdk_42_method_54_code 10 = .ok (.ireturn, 1) := by decide +kernel
theorem pd0 : parseMethodDescriptor "()B" = some ⟨[], some .byte⟩ := by decide +kernel
theorem pn9 : plainFor (⟨"java/lang/String", "length", "()I"⟩ : MethodName) = true := plainFor_of_name (by first | (simp [plainName, overriddenIn]; done) | decide +kernel)
theorem ef_rm9_0 (m : MethodId) (a1 : Addr) (n1 : Int32) (bv : Addr) (kv : ClassId) (z : Int32) (vs : List Value) (cs1 : Int32) (fm : Value) : entryFrame m #[(.ref a1)] 1 = mkF m 0 #[.val (.ref a1)] [] := by first | (simp [entryFrame, mkF, argsToLocals, Value.category]; done) | rfl
def Q9_0 (Z : State) (a1 : Addr) (n1 : Int32) (bv : Addr) (kv : ClassId) (z : Int32) (vs : List Value) (cs1 : Int32) (fm : Value) (h0 : Heap) (n0 : Nat) (v : Option Value) (h : Heap) (L : List Loc) : Prop := v = some (.int n1) ∧ Fr n0 L ∧ (h = h0)
set_option maxRecDepth 65536 in
set_option maxHeartbeats 40000000 in
theorem rm9_0 (l : Launch) (Z : State) (a0 : Array Value) (hw : ∀ d ∈ tables_1, d.before a0 Z = true) (ws : List Jvm.Cond) (a1 : Addr) (n1 : Int32) (bv : Addr) (kv : ClassId) (z : Int32) (vs : List Value) (cs1 : Int32) (fm : Value) (h0 : Heap) (n0 : Nat) (Z0 : n0 ≤ h0.size) (O1 : Old Z n0 h0) (G : own_G Z cs1 fm) (E1 : Exa Z h0 a1 "java/lang/String") (F1 : Fld Z h0 a1 "java/lang/String" "coder" "B" (.int (0 : Int32))) (F2 : Fld Z h0 a1 "java/lang/String" "value" "[B" (.ref bv)) (V1 : Arv Z h0 bv kv .byte z vs (.int (0 : Int32))) (hz : (z >>> (0 : Int32)) = n1) :
  MetFree l (⟨"java/lang/String", "length", "()I"⟩ : MethodName) (head1 (Jvm.Cond.code (⟨"java/lang/String", "length", "()I"⟩ : MethodName) jdk_42_method_54_code 1 (some .int) :: ws) ({ frames := 1, cells := 0, slots := 0, locals := 13 } : Room)) (fun a U => a = #[(.ref a1)] ∧ Z.Warmed39 U.vm ∧ U.heap = h0) (fun _ _ _ _ _ => True) (fun _ U o U' => ∃ v L, o = .returned v ∧ Q9_0 Z a1 n1 bv kv z vs cs1 fm h0 n0 v U'.heap L ∧ FrameEnd U o U' L ({ frames := 1, cells := 0, slots := 0, locals := 13 } : Room).cells ({ frames := 1, cells := 0, slots := 0, locals := 13 } : Room).slots) := by
 refine MetFree.of_bodySF pn9 hisR ?_
 intro p e s m args below meth c s₁ Bd hml0 hP hK
 obtain ⟨rfl, hZ, hh⟩ := hP
 have hx := Bd.exec
 have hby := Bd.bytes
 have hml : c.maxLocals = 1 := hml0
 have hown : s.vm.findClass "java/lang/String" = some m.cls := findClass_of_methodNamed Bd.named
 have hnm := (name_of_methodNamed Bd.named Bd.method).1
 have X0 : Stand p l e ({ frames := 1, cells := 0, slots := 0, locals := 13 } : Room) s m #[(.ref a1)] below meth c s₁ [] 0 0 := Stand.of_body Bd
 have e0 : s₁.heap = h0 := by rw [← hh, Bd.state]; rfl
 have N0 := Fr.nil n0
 have p0 : Go p.tables e below (s₁.setTop (entryFrame m #[(.ref a1)] 1)) (s₁.setTop (mkF m 0 #[.val (.ref a1)] [])) := fun t_ k_ => castTop (ef_rm9_0 m a1 n1 bv kv z vs cs1 fm) k_
 have p101 : Go p.tables e below _ (s₁.setTop (mkF m 1 #[.val (.ref a1)] [(.ref a1)])) := fun t_ k_ => p0 t_ (by
  refine XS.aloadN X0.here hx rfl (hb hby d9_0) rfl rfl ?_
  exact k_)
 obtain ⟨T102, X102, e102, st102⟩ := getF X0 hx hZ hown (host := "") (Or.inl (own_w hw 33 rfl)) Via.refl e0 F2 (g := (mkF m 1 #[.val (.ref a1)] [(.ref a1)])) rfl rfl (hb hby d9_1)
 obtain ⟨cl103, Ar103, -, S103, Ng103, -, -⟩ := id V1
 have p104 : Go p.tables e below _ (T102.setTop (mkF m 6 #[.val (.ref a1)] [(.ref a1), (.int z)])) := fun t_ k_ => (gc p101 st102) t_ (by
  refine X102.arraylength hx (by rw [e102]; exact Ar103.1) (State.isArrayOf_alike hZ.alike Ar103.2.1) (g := (mkF m 4 #[.val (.ref a1)] [(.ref bv)])) rfl rfl (hb hby d9_4) _ ?_
  rw [len_of S103 Ng103]
  show Steps p.tables e below (T102.setTop (mkF m 5 #[.val (.ref a1)] [(.int z)])) _
  refine XS.aloadN X102.here hx rfl (hb hby d9_5) rfl rfl ?_
  exact k_)
 obtain ⟨cq105, kq105, q105a, q105b, q105c⟩ := isOf hZ e102 E1
 obtain ⟨_, _, ⟨T105, L105, k105, n105⟩, -, X105, ⟨Lc105, hQ105, l105, y105, z105⟩, st105⟩ := X102.virtualBack hx (y := (⟨"java/lang/String", "coder", "()B"⟩ : MethodName)) (z := (⟨"java/lang/String", "coder", "()B"⟩ : MethodName)) hown (mvT hZ (own_w hw 50 rfl)) (mvT hZ (own_w hw 51 rfl)) (notFace_of_selects (args := #[]) (mvT hZ (own_w hw 53 rfl))) (mvT hZ (own_w hw 53 rfl)) (mvT hZ (own_w hw 52 rfl)) (by decide) (backOf (W := 1) (rm10_0 l Z a0 hw [] a1 cs1 fm h0 n0 (Nat.le_trans Z0 (Keep.refl h0 []).1) O1 G F1) hZ (own_w hw 54 rfl) (own_w hw 8 rfl) (by decide) (by decide)) q105a q105c (g := (mkF m 6 #[.val (.ref a1)] [(.ref a1), (.int z)])) rfl (by rw [hml]; rfl) (Steps.refl _) (argsL := []) (rest := [(.int z)]) (lenOf pd0 rfl) rfl (by show 2 * 0 + _ ≤ _; exact Nat.le_of_eq rfl) (hb hby d9_6) (fun _ _ => ⟨rfl, e102, (by decide : 0 + 0 ≤ _), (by decide : 0 + 0 ≤ _)⟩)
 dsimp only [Pt.U, Pt.locs, Pt.cells, Pt.slots] at X105 l105 y105 z105 st105 hQ105
 subst l105 y105 z105
 obtain ⟨rfl, N105q, q105_hh⟩ := hQ105
 have N105 := Fr.app N0 N105q
 have p106 : Go p.tables e below _ (T105.setTop (mkF m 10 #[.val (.ref a1)] [(.int (z >>> (0 : Int32)))])) := fun t_ k_ => (gcT p104 st105) t_ (by
  refine XS.ishr X105.here hx rfl (hb hby d9_9) rfl ?_
  exact k_)
 obtain ⟨fs, hr, hrun, hended, hW, hsame⟩ := X105.leave (v := some (.int (z >>> (0 : Int32)))) (fun h => by rw [Bd.returns] at h; cases h)
 refine ⟨_, _, p106 _ (retI X105 hx Bd.returns (hb hby d9_10) hr), hrun, hended, _, _, rfl, ?_, ⟨_, rfl⟩, hW, hsame.mono (by decide) (by decide)⟩
 show Q9_0 Z a1 n1 bv kv z vs cs1 fm h0 n0 _ T105.heap _
 rw [q105_hh]
 exact ⟨congrArg (fun q => some (Value.int q)) hz, N105, rfl⟩
theorem d12_17 : decode jdk_42_method_154_code 17 = .ok (.iconst 0, 1) := by decide +kernel
theorem ef_rm12_1 (m : MethodId) (a1 : Addr) (cs1 : Int32) (fm : Value) : entryFrame m #[(.ref a1)] 1 = mkF m 0 #[.val (.ref a1)] [] := by first | (simp [entryFrame, mkF, argsToLocals, Value.category]; done) | rfl
def Q12_1 (Z : State) (a1 : Addr) (cs1 : Int32) (fm : Value) (h0 : Heap) (n0 : Nat) (v : Option Value) (h : Heap) (L : List Loc) : Prop := v = some (.int (0 : Int32)) ∧ Fr n0 L ∧ (h = h0)
set_option maxRecDepth 65536 in
set_option maxHeartbeats 40000000 in
theorem rm12_1 (l : Launch) (Z : State) (a0 : Array Value) (hw : ∀ d ∈ tables_1, d.before a0 Z = true) (ws : List Jvm.Cond) (a1 : Addr) (cs1 : Int32) (fm : Value) (h0 : Heap) (n0 : Nat) (Z0 : n0 ≤ h0.size) (O1 : Old Z n0 h0) (G : own_G Z cs1 fm) (F1 : Fld Z h0 a1 "java/lang/String" "coder" "B" (.int (1 : Int32))) :
  MetFree l (⟨"java/lang/String", "isLatin1", "()Z"⟩ : MethodName) (head1 (Jvm.Cond.code (⟨"java/lang/String", "isLatin1", "()Z"⟩ : MethodName) jdk_42_method_154_code 1 (some .boolean) :: ws) ({ frames := 0, cells := 0, slots := 0, locals := 0 } : Room)) (fun a U => a = #[(.ref a1)] ∧ Z.Warmed39 U.vm ∧ U.heap = h0) (fun _ _ _ _ _ => True) (fun _ U o U' => ∃ v L, o = .returned v ∧ Q12_1 Z a1 cs1 fm h0 n0 v U'.heap L ∧ FrameEnd U o U' L ({ frames := 0, cells := 0, slots := 0, locals := 0 } : Room).cells ({ frames := 0, cells := 0, slots := 0, locals := 0 } : Room).slots) := by
 refine MetFree.of_bodySF pn12 hisR ?_
 intro p e s m args below meth c s₁ Bd hml0 hP hK
 obtain ⟨rfl, hZ, hh⟩ := hP
 have hx := Bd.exec
 have hby := Bd.bytes
 have hml : c.maxLocals = 1 := hml0
 have hown : s.vm.findClass "java/lang/String" = some m.cls := findClass_of_methodNamed Bd.named
 have hnm := (name_of_methodNamed Bd.named Bd.method).1
 have X0 : Stand p l e ({ frames := 0, cells := 0, slots := 0, locals := 0 } : Room) s m #[(.ref a1)] below meth c s₁ [] 0 0 := Stand.of_body Bd
 have e0 : s₁.heap = h0 := by rw [← hh, Bd.state]; rfl
 have N0 := Fr.nil n0
 have p0 : Go p.tables e below (s₁.setTop (entryFrame m #[(.ref a1)] 1)) (s₁.setTop (mkF m 0 #[.val (.ref a1)] [])) := fun t_ k_ => castTop (ef_rm12_1 m a1 cs1 fm) k_
 obtain ⟨T101, X101, e101, st101⟩ := getS2 X0 hx hZ hown (host := "") (Or.inl (own_w hw 19 rfl)) Via.refl e0 (G.1.ext O1.2) (g := (mkF m 0 #[.val (.ref a1)] [])) rfl (hb hby d12_0)
 have c102 : ¬ (cs1 = (0 : Int32)) := G.2.1
 have p103 : Go p.tables e below _ (T101.setTop (mkF m 7 #[.val (.ref a1)] [(.ref a1)])) := fun t_ k_ => (gc p0 st101) t_ (by
  refine XS.ifNo X101.here hx rfl (hb hby d12_3) rfl ((if0 _ _).trans (feq c102).1) ?_
  refine XS.aloadN X101.here hx rfl (hb hby d12_6) rfl rfl ?_
  exact k_)
 obtain ⟨T104, X104, e104, st104⟩ := getF X101 hx hZ hown (host := "") (Or.inl (own_w hw 31 rfl)) Via.refl e101 F1 (g := (mkF m 7 #[.val (.ref a1)] [(.ref a1)])) rfl rfl (hb hby d12_7)
 have p105 : Go p.tables e below _ (T104.setTop (mkF m 18 #[.val (.ref a1)] [(.int (0 : Int32))])) := fun t_ k_ => (gc p103 st104) t_ (by
  refine XS.ifYes X104.here hx rfl (pc0 := 10) (pc' := 17) rfl (hb hby d12_10) rfl ((if0 _ _).trans (feq (by decide : ¬ ((1 : Int32) = (0 : Int32)))).2) (by decide) (by decide) ?_
  refine XS.iconst X104.here hx rfl (hb hby d12_17) ?_
  exact k_)
 obtain ⟨fs, hr, hrun, hended, hW, hsame⟩ := X104.leave (v := some (.int (0 : Int32))) (fun h => by rw [Bd.returns] at h; cases h)
 refine ⟨_, _, p105 _ (retN X104 hx (t := .boolean) Bd.returns (by simp) (hb hby d12_18) hr), hrun, hended, _, _, rfl, ?_, ⟨_, rfl⟩, hW, hsame.mono (by decide) (by decide)⟩
 show Q12_1 Z a1 cs1 fm h0 n0 _ T104.heap _
 rw [e104]
 exact ⟨rfl, N0, rfl⟩
theorem ef_rm10_1 (m : MethodId) (a1 : Addr) (cs1 : Int32) (fm : Value) : entryFrame m #[(.ref a1)] 1 = mkF m 0 #[.val (.ref a1)] [] := by first | (simp [entryFrame, mkF, argsToLocals, Value.category]; done) | rfl
def Q10_1 (Z : State) (a1 : Addr) (cs1 : Int32) (fm : Value) (h0 : Heap) (n0 : Nat) (v : Option Value) (h : Heap) (L : List Loc) : Prop := v = some (.int (1 : Int32)) ∧ Fr n0 L ∧ (h = h0)
set_option maxRecDepth 65536 in
set_option maxHeartbeats 40000000 in
theorem rm10_1 (l : Launch) (Z : State) (a0 : Array Value) (hw : ∀ d ∈ tables_1, d.before a0 Z = true) (ws : List Jvm.Cond) (a1 : Addr) (cs1 : Int32) (fm : Value) (h0 : Heap) (n0 : Nat) (Z0 : n0 ≤ h0.size) (O1 : Old Z n0 h0) (G : own_G Z cs1 fm) (F1 : Fld Z h0 a1 "java/lang/String" "coder" "B" (.int (1 : Int32))) :
  MetFree l (⟨"java/lang/String", "coder", "()B"⟩ : MethodName) (head1 (Jvm.Cond.code (⟨"java/lang/String", "coder", "()B"⟩ : MethodName) jdk_42_method_152_code 1 (some .byte) :: ws) ({ frames := 0, cells := 0, slots := 0, locals := 0 } : Room)) (fun a U => a = #[(.ref a1)] ∧ Z.Warmed39 U.vm ∧ U.heap = h0) (fun _ _ _ _ _ => True) (fun _ U o U' => ∃ v L, o = .returned v ∧ Q10_1 Z a1 cs1 fm h0 n0 v U'.heap L ∧ FrameEnd U o U' L ({ frames := 0, cells := 0, slots := 0, locals := 0 } : Room).cells ({ frames := 0, cells := 0, slots := 0, locals := 0 } : Room).slots) := by
 refine MetFree.of_bodySF pn10 hisR ?_
 intro p e s m args below meth c s₁ Bd hml0 hP hK
 obtain ⟨rfl, hZ, hh⟩ := hP
 have hx := Bd.exec
 have hby := Bd.bytes
 have hml : c.maxLocals = 1 := hml0
 have hown : s.vm.findClass "java/lang/String" = some m.cls := findClass_of_methodNamed Bd.named
 have hnm := (name_of_methodNamed Bd.named Bd.method).1
 have X0 : Stand p l e ({ frames := 0, cells := 0, slots := 0, locals := 0 } : Room) s m #[(.ref a1)] below meth c s₁ [] 0 0 := Stand.of_body Bd
 have e0 : s₁.heap = h0 := by rw [← hh, Bd.state]; rfl
 have N0 := Fr.nil n0
 have p0 : Go p.tables e below (s₁.setTop (entryFrame m #[(.ref a1)] 1)) (s₁.setTop (mkF m 0 #[.val (.ref a1)] [])) := fun t_ k_ => castTop (ef_rm10_1 m a1 cs1 fm) k_
 obtain ⟨T101, X101, e101, st101⟩ := getS2 X0 hx hZ hown (host := "") (Or.inl (own_w hw 19 rfl)) Via.refl e0 (G.1.ext O1.2) (g := (mkF m 0 #[.val (.ref a1)] [])) rfl (hb hby d10_0)
 have c102 : ¬ (cs1 = (0 : Int32)) := G.2.1
 have p103 : Go p.tables e below _ (T101.setTop (mkF m 7 #[.val (.ref a1)] [(.ref a1)])) := fun t_ k_ => (gc p0 st101) t_ (by
  refine XS.ifNo X101.here hx rfl (hb hby d10_3) rfl ((if0 _ _).trans (feq c102).1) ?_
  refine XS.aloadN X101.here hx rfl (hb hby d10_6) rfl rfl ?_
  exact k_)
 obtain ⟨T104, X104, e104, st104⟩ := getF X101 hx hZ hown (host := "") (Or.inl (own_w hw 31 rfl)) Via.refl e101 F1 (g := (mkF m 7 #[.val (.ref a1)] [(.ref a1)])) rfl rfl (hb hby d10_7)
 have p105 : Go p.tables e below _ (T104.setTop (mkF m 14 #[.val (.ref a1)] [(.int (1 : Int32))])) := fun t_ k_ => (gc p103 st104) t_ (by
  refine XS.goto X104.here hx rfl (pc0 := 10) (pc' := 14) rfl (hb hby d10_10) (by decide) (by decide) ?_
  exact k_)
 obtain ⟨fs, hr, hrun, hended, hW, hsame⟩ := X104.leave (v := some (.int (1 : Int32))) (fun h => by rw [Bd.returns] at h; cases h)
 refine ⟨_, _, p105 _ (retN X104 hx (t := .byte) Bd.returns (by simp) (hb hby d10_14) hr), hrun, hended, _, _, rfl, ?_, ⟨_, rfl⟩, hW, hsame.mono (by decide) (by decide)⟩
 show Q10_1 Z a1 cs1 fm h0 n0 _ T104.heap _
 rw [e104]
 exact ⟨rfl, N0, rfl⟩
theorem ef_rm9_1 (m : MethodId) (a1 : Addr) (n1 : Int32) (bv : Addr) (kv : ClassId) (z : Int32) (vs : List Value) (cs1 : Int32) (fm : Value) : entryFrame m #[(.ref a1)] 1 = mkF m 0 #[.val (.ref a1)] [] := by first | (simp [entryFrame, mkF, argsToLocals, Value.category]; done) | rfl
def Q9_1 (Z : State) (a1 : Addr) (n1 : Int32) (bv : Addr) (kv : ClassId) (z : Int32) (vs : List Value) (cs1 : Int32) (fm : Value) (h0 : Heap) (n0 : Nat) (v : Option Value) (h : Heap) (L : List Loc) : Prop := v = some (.int n1) ∧ Fr n0 L ∧ (h = h0)
set_option maxRecDepth 65536 in
set_option maxHeartbeats 40000000 in
theorem rm9_1 (l : Launch) (Z : State) (a0 : Array Value) (hw : ∀ d ∈ tables_1, d.before a0 Z = true) (ws : List Jvm.Cond) (a1 : Addr) (n1 : Int32) (bv : Addr) (kv : ClassId) (z : Int32) (vs : List Value) (cs1 : Int32) (fm : Value) (h0 : Heap) (n0 : Nat) (Z0 : n0 ≤ h0.size) (O1 : Old Z n0 h0) (G : own_G Z cs1 fm) (E1 : Exa Z h0 a1 "java/lang/String") (F1 : Fld Z h0 a1 "java/lang/String" "coder" "B" (.int (1 : Int32))) (F2 : Fld Z h0 a1 "java/lang/String" "value" "[B" (.ref bv)) (V1 : Arv Z h0 bv kv .byte z vs (.int (0 : Int32))) (hz : (z >>> (1 : Int32)) = n1) :
  MetFree l (⟨"java/lang/String", "length", "()I"⟩ : MethodName) (head1 (Jvm.Cond.code (⟨"java/lang/String", "length", "()I"⟩ : MethodName) jdk_42_method_54_code 1 (some .int) :: ws) ({ frames := 1, cells := 0, slots := 0, locals := 13 } : Room)) (fun a U => a = #[(.ref a1)] ∧ Z.Warmed39 U.vm ∧ U.heap = h0) (fun _ _ _ _ _ => True) (fun _ U o U' => ∃ v L, o = .returned v ∧ Q9_1 Z a1 n1 bv kv z vs cs1 fm h0 n0 v U'.heap L ∧ FrameEnd U o U' L ({ frames := 1, cells := 0, slots := 0, locals := 13 } : Room).cells ({ frames := 1, cells := 0, slots := 0, locals := 13 } : Room).slots) := by
 refine MetFree.of_bodySF pn9 hisR ?_
 intro p e s m args below meth c s₁ Bd hml0 hP hK
 obtain ⟨rfl, hZ, hh⟩ := hP
 have hx := Bd.exec
 have hby := Bd.bytes
 have hml : c.maxLocals = 1 := hml0
 have hown : s.vm.findClass "java/lang/String" = some m.cls := findClass_of_methodNamed Bd.named
 have hnm := (name_of_methodNamed Bd.named Bd.method).1
 have X0 : Stand p l e ({ frames := 1, cells := 0, slots := 0, locals := 13 } : Room) s m #[(.ref a1)] below meth c s₁ [] 0 0 := Stand.of_body Bd
 have e0 : s₁.heap = h0 := by rw [← hh, Bd.state]; rfl
 have N0 := Fr.nil n0
 have p0 : Go p.tables e below (s₁.setTop (entryFrame m #[(.ref a1)] 1)) (s₁.setTop (mkF m 0 #[.val (.ref a1)] [])) := fun t_ k_ => castTop (ef_rm9_1 m a1 n1 bv kv z vs cs1 fm) k_
 have p101 : Go p.tables e below _ (s₁.setTop (mkF m 1 #[.val (.ref a1)] [(.ref a1)])) := fun t_ k_ => p0 t_ (by
  refine XS.aloadN X0.here hx rfl (hb hby d9_0) rfl rfl ?_
  exact k_)
 obtain ⟨T102, X102, e102, st102⟩ := getF X0 hx hZ hown (host := "") (Or.inl (own_w hw 33 rfl)) Via.refl e0 F2 (g := (mkF m 1 #[.val (.ref a1)] [(.ref a1)])) rfl rfl (hb hby d9_1)
 obtain ⟨cl103, Ar103, -, S103, Ng103, -, -⟩ := id V1
 have p104 : Go p.tables e below _ (T102.setTop (mkF m 6 #[.val (.ref a1)] [(.ref a1), (.int z)])) := fun t_ k_ => (gc p101 st102) t_ (by
  refine X102.arraylength hx (by rw [e102]; exact Ar103.1) (State.isArrayOf_alike hZ.alike Ar103.2.1) (g := (mkF m 4 #[.val (.ref a1)] [(.ref bv)])) rfl rfl (hb hby d9_4) _ ?_
  rw [len_of S103 Ng103]
  show Steps p.tables e below (T102.setTop (mkF m 5 #[.val (.ref a1)] [(.int z)])) _
  refine XS.aloadN X102.here hx rfl (hb hby d9_5) rfl rfl ?_
  exact k_)
 obtain ⟨cq105, kq105, q105a, q105b, q105c⟩ := isOf hZ e102 E1
 obtain ⟨_, _, ⟨T105, L105, k105, n105⟩, -, X105, ⟨Lc105, hQ105, l105, y105, z105⟩, st105⟩ := X102.virtualBack hx (y := (⟨"java/lang/String", "coder", "()B"⟩ : MethodName)) (z := (⟨"java/lang/String", "coder", "()B"⟩ : MethodName)) hown (mvT hZ (own_w hw 50 rfl)) (mvT hZ (own_w hw 51 rfl)) (notFace_of_selects (args := #[]) (mvT hZ (own_w hw 53 rfl))) (mvT hZ (own_w hw 53 rfl)) (mvT hZ (own_w hw 52 rfl)) (by decide) (backOf (W := 1) (rm10_1 l Z a0 hw [] a1 cs1 fm h0 n0 (Nat.le_trans Z0 (Keep.refl h0 []).1) O1 G F1) hZ (own_w hw 54 rfl) (own_w hw 8 rfl) (by decide) (by decide)) q105a q105c (g := (mkF m 6 #[.val (.ref a1)] [(.ref a1), (.int z)])) rfl (by rw [hml]; rfl) (Steps.refl _) (argsL := []) (rest := [(.int z)]) (lenOf pd0 rfl) rfl (by show 2 * 0 + _ ≤ _; exact Nat.le_of_eq rfl) (hb hby d9_6) (fun _ _ => ⟨rfl, e102, (by decide : 0 + 0 ≤ _), (by decide : 0 + 0 ≤ _)⟩)
 dsimp only [Pt.U, Pt.locs, Pt.cells, Pt.slots] at X105 l105 y105 z105 st105 hQ105
 subst l105 y105 z105
 obtain ⟨rfl, N105q, q105_hh⟩ := hQ105
 have N105 := Fr.app N0 N105q
 have p106 : Go p.tables e below _ (T105.setTop (mkF m 10 #[.val (.ref a1)] [(.int (z >>> (1 : Int32)))])) := fun t_ k_ => (gcT p104 st105) t_ (by
  refine XS.ishr X105.here hx rfl (hb hby d9_9) rfl ?_
  exact k_)
 obtain ⟨fs, hr, hrun, hended, hW, hsame⟩ := X105.leave (v := some (.int (z >>> (1 : Int32)))) (fun h => by rw [Bd.returns] at h; cases h)
 refine ⟨_, _, p106 _ (retI X105 hx Bd.returns (hb hby d9_10) hr), hrun, hended, _, _, rfl, ?_, ⟨_, rfl⟩, hW, hsame.mono (by decide) (by decide)⟩
 show Q9_1 Z a1 n1 bv kv z vs cs1 fm h0 n0 _ T105.heap _
 rw [q105_hh]
 exact ⟨congrArg (fun q => some (Value.int q)) hz, N105, rfl⟩
theorem d15_0 : decode jdk_41_method_11_code 0 = .ok (.iload_n 0, 1) := by decide +kernel
theorem d15_1 : decode jdk_41_method_11_code 1 = .ok (.ifCond .lt 8, 3) := by decide +kernel
theorem d15_4 : decode jdk_41_method_11_code 4 = .ok (.iload_n 0, 1) := by decide +kernel
theorem d15_5 : decode jdk_41_method_11_code 5 = .ok (.iload_n 1, 1) := by decide +kernel
theorem d15_6 : decode jdk_41_method_11_code 6 = .ok (.if_icmp .lt 10, 3) := by decide +kernel
theorem d15_16 : decode jdk_41_method_11_code 16 = .ok (.iload_n 0, 1) := by decide +kernel
theorem d15_17 : decode jdk_41_method_11_code 17 = .ok (.ireturn, 1) := by decide +kernel
theorem pn15 : plainFor (⟨"jdk/internal/util/Preconditions", "checkIndex", "(IILjava/util/function/BiFunction;)I"⟩ : MethodName) = true := plainFor_of_name (by first | (simp [plainName, overriddenIn]; done) | decide +kernel)
theorem ef_rm15 (m : MethodId) (p1 : Int32) (p2 : Int32) (fm : Value) (hfm : fm.isRef = true) : entryFrame m #[(.int p1), (.int p2), fm] 3 = mkF m 0 #[.val (.int p1), .val (.int p2), .val fm] [] := by
 rcases ref_cases hfm with rfl | ⟨a_, rfl⟩ <;> rfl
def Q15 (Z : State) (p1 : Int32) (p2 : Int32) (fm : Value) (h0 : Heap) (n0 : Nat) (v : Option Value) (h : Heap) (L : List Loc) : Prop := v = some (.int p1) ∧ Fr n0 L ∧ (h = h0)
set_option maxRecDepth 65536 in
set_option maxHeartbeats 40000000 in
theorem rm15 (l : Launch) (Z : State) (a0 : Array Value) (hw : ∀ d ∈ tables_1, d.before a0 Z = true) (ws : List Jvm.Cond) (p1 : Int32) (p2 : Int32) (fm : Value) (h0 : Heap) (n0 : Nat) (Z0 : n0 ≤ h0.size) (hfm : fm.isRef = true) (h1 : ¬ (p1 < (0 : Int32))) (h2 : p1 < p2) :
  MetFree l (⟨"jdk/internal/util/Preconditions", "checkIndex", "(IILjava/util/function/BiFunction;)I"⟩ : MethodName) (head1 (Jvm.Cond.code (⟨"jdk/internal/util/Preconditions", "checkIndex", "(IILjava/util/function/BiFunction;)I"⟩ : MethodName) jdk_41_method_11_code 3 (some .int) :: ws) ({ frames := 0, cells := 0, slots := 0, locals := 0 } : Room)) (fun a U => a = #[(.int p1), (.int p2), fm] ∧ Z.Warmed39 U.vm ∧ U.heap = h0) (fun _ _ _ _ _ => True) (fun _ U o U' => ∃ v L, o = .returned v ∧ Q15 Z p1 p2 fm h0 n0 v U'.heap L ∧ FrameEnd U o U' L ({ frames := 0, cells := 0, slots := 0, locals := 0 } : Room).cells ({ frames := 0, cells := 0, slots := 0, locals := 0 } : Room).slots) := by
 refine MetFree.of_bodySF pn15 hisR ?_
 intro p e s m args below meth c s₁ Bd hml0 hP hK
 obtain ⟨rfl, hZ, hh⟩ := hP
 have hx := Bd.exec
 have hby := Bd.bytes
 have hml : c.maxLocals = 3 := hml0
 have hown : s.vm.findClass "jdk/internal/util/Preconditions" = some m.cls := findClass_of_methodNamed Bd.named
 have hnm := (name_of_methodNamed Bd.named Bd.method).1
 have X0 : Stand p l e ({ frames := 0, cells := 0, slots := 0, locals := 0 } : Room) s m #[(.int p1), (.int p2), fm] below meth c s₁ [] 0 0 := Stand.of_body Bd
 have e0 : s₁.heap = h0 := by rw [← hh, Bd.state]; rfl
 have N0 := Fr.nil n0
 have p0 : Go p.tables e below (s₁.setTop (entryFrame m #[(.int p1), (.int p2), fm] 3)) (s₁.setTop (mkF m 0 #[.val (.int p1), .val (.int p2), .val fm] [])) := fun t_ k_ => castTop (ef_rm15 m p1 p2 fm hfm) k_
 have p101 : Go p.tables e below _ (s₁.setTop (mkF m 1 #[.val (.int p1), .val (.int p2), .val fm] [(.int p1)])) := fun t_ k_ => p0 t_ (by
  refine XS.iloadN X0.here hx rfl (hb hby d15_0) rfl ?_
  exact k_)
 have c102 : ¬ (p1 < (0 : Int32)) := h1
 have p103 : Go p.tables e below _ (s₁.setTop (mkF m 6 #[.val (.int p1), .val (.int p2), .val fm] [(.int p2), (.int p1)])) := fun t_ k_ => p101 t_ (by
  refine XS.ifNo X0.here hx rfl (hb hby d15_1) rfl ((if0 _ _).trans (flt c102).1) ?_
  refine XS.iloadN X0.here hx rfl (hb hby d15_4) rfl ?_
  refine XS.iloadN X0.here hx rfl (hb hby d15_5) rfl ?_
  exact k_)
 have c104 : (p1 < p2) := h2
 have p105 : Go p.tables e below _ (s₁.setTop (mkF m 17 #[.val (.int p1), .val (.int p2), .val fm] [(.int p1)])) := fun t_ k_ => p103 t_ (by
  refine XS.icmpYes X0.here hx rfl (pc0 := 6) (pc' := 16) rfl (hb hby d15_6) rfl (tlt c104).1 (by decide) (by decide) ?_
  refine XS.iloadN X0.here hx rfl (hb hby d15_16) rfl ?_
  exact k_)
 obtain ⟨fs, hr, hrun, hended, hW, hsame⟩ := X0.leave (v := some (.int p1)) (fun h => by rw [Bd.returns] at h; cases h)
 refine ⟨_, _, p105 _ (retI X0 hx Bd.returns (hb hby d15_17) hr), hrun, hended, _, _, rfl, ?_, ⟨_, rfl⟩, hW, hsame.mono (by decide) (by decide)⟩
 show Q15 Z p1 p2 fm h0 n0 _ s₁.heap _
 rw [e0]
 exact ⟨rfl, N0, rfl⟩
theorem d14_0 : decode jdk_42_method_155_code 0 = .ok (.iload_n 0, 1) := by decide +kernel
theorem d14_1 : decode jdk_42_method_155_code 1 = .ok (.iload_n 1, 1) := by decide +kernel
theorem d14_2 : decode jdk_42_method_155_code 2 = .ok (.getstatic 1053, 3) := by decide +kernel
theorem d14_5 : decode jdk_42_method_155_code 5 = .ok (.invokestatic 1059, 3) := by decide +kernel
theorem d14_8 : decode jdk_42_method_155_code 8 = .ok (.pop, 1) := by decide +kernel
theorem d14_9 : decode jdk_42_method_155_code 9 = .ok (.return_, 1) := by decide +kernel
theorem pd1 : parseMethodDescriptor "(IILjava/util/function/BiFunction;)I" = some ⟨[.int, .int, (.object "java/util/function/BiFunction")], some .int⟩ := by decide +kernel
theorem pn14 : plainFor (⟨"java/lang/String", "checkIndex", "(II)V"⟩ : MethodName) = true := plainFor_of_name (by first | (simp [plainName, overriddenIn]; done) | decide +kernel)
theorem ef_rm14 (m : MethodId) (p1 : Int32) (p2 : Int32) (cs1 : Int32) (fm : Value) : entryFrame m #[(.int p1), (.int p2)] 2 = mkF m 0 #[.val (.int p1), .val (.int p2)] [] := by first | (simp [entryFrame, mkF, argsToLocals, Value.category]; done) | rfl
def Q14 (Z : State) (p1 : Int32) (p2 : Int32) (cs1 : Int32) (fm : Value) (h0 : Heap) (n0 : Nat) (v : Option Value) (h : Heap) (L : List Loc) : Prop := v = none ∧ Fr n0 L ∧ (h = h0)
set_option maxRecDepth 65536 in
set_option maxHeartbeats 40000000 in
theorem rm14 (l : Launch) (Z : State) (a0 : Array Value) (hw : ∀ d ∈ tables_1, d.before a0 Z = true) (ws : List Jvm.Cond) (p1 : Int32) (p2 : Int32) (cs1 : Int32) (fm : Value) (h0 : Heap) (n0 : Nat) (Z0 : n0 ≤ h0.size) (O1 : Old Z n0 h0) (G : own_G Z cs1 fm) (h1 : ¬ (p1 < (0 : Int32))) (h2 : p1 < p2) :
  MetFree l (⟨"java/lang/String", "checkIndex", "(II)V"⟩ : MethodName) (head1 (Jvm.Cond.code (⟨"java/lang/String", "checkIndex", "(II)V"⟩ : MethodName) jdk_42_method_155_code 2 none :: ws) ({ frames := 1, cells := 0, slots := 0, locals := 14 } : Room)) (fun a U => a = #[(.int p1), (.int p2)] ∧ Z.Warmed39 U.vm ∧ U.heap = h0) (fun _ _ _ _ _ => True) (fun _ U o U' => ∃ v L, o = .returned v ∧ Q14 Z p1 p2 cs1 fm h0 n0 v U'.heap L ∧ FrameEnd U o U' L ({ frames := 1, cells := 0, slots := 0, locals := 14 } : Room).cells ({ frames := 1, cells := 0, slots := 0, locals := 14 } : Room).slots) := by
 refine MetFree.of_bodySF pn14 hisR ?_
 intro p e s m args below meth c s₁ Bd hml0 hP hK
 obtain ⟨rfl, hZ, hh⟩ := hP
 have hx := Bd.exec
 have hby := Bd.bytes
 have hml : c.maxLocals = 2 := hml0
 have hown : s.vm.findClass "java/lang/String" = some m.cls := findClass_of_methodNamed Bd.named
 have hnm := (name_of_methodNamed Bd.named Bd.method).1
 have X0 : Stand p l e ({ frames := 1, cells := 0, slots := 0, locals := 14 } : Room) s m #[(.int p1), (.int p2)] below meth c s₁ [] 0 0 := Stand.of_body Bd
 have e0 : s₁.heap = h0 := by rw [← hh, Bd.state]; rfl
 have N0 := Fr.nil n0
 have p0 : Go p.tables e below (s₁.setTop (entryFrame m #[(.int p1), (.int p2)] 2)) (s₁.setTop (mkF m 0 #[.val (.int p1), .val (.int p2)] [])) := fun t_ k_ => castTop (ef_rm14 m p1 p2 cs1 fm) k_
 have p101 : Go p.tables e below _ (s₁.setTop (mkF m 2 #[.val (.int p1), .val (.int p2)] [(.int p2), (.int p1)])) := fun t_ k_ => p0 t_ (by
  refine XS.iloadN X0.here hx rfl (hb hby d14_0) rfl ?_
  refine XS.iloadN X0.here hx rfl (hb hby d14_1) rfl ?_
  exact k_)
 obtain ⟨T102, X102, e102, st102⟩ := getS2 X0 hx hZ hown (host := "") (Or.inl (own_w hw 72 rfl)) Via.refl e0 (G.2.2.1.ext O1.2) (g := (mkF m 2 #[.val (.int p1), .val (.int p2)] [(.int p2), (.int p1)])) rfl (hb hby d14_2)
 obtain ⟨_, _, ⟨T103, L103, k103, n103⟩, -, X103, ⟨Lc103, hQ103, l103, y103, z103⟩, st103⟩ := Jvm.LawKit.callS X102 hx (y := (⟨"jdk/internal/util/Preconditions", "checkIndex", "(IILjava/util/function/BiFunction;)I"⟩ : MethodName)) hown (mvT hZ (own_w hw 74 rfl)) (mvT hZ (own_w hw 75 rfl)) (mvT hZ (own_w hw 73 rfl)) (mvT hZ (own_w hw 76 rfl)) (by decide) (backOf (W := 0) (rm15 l Z a0 hw [] p1 p2 fm h0 n0 (Nat.le_trans Z0 (Keep.refl h0 []).1) G.2.2.2.1 h1 h2) hZ (own_w hw 76 rfl) (own_w hw 73 rfl) (by decide) (by decide)) (g := (mkF m 5 #[.val (.int p1), .val (.int p2)] [fm, (.int p2), (.int p1)])) rfl (by rw [hml]; rfl) (argsL := [(.int p1), (.int p2), fm]) (rest := []) (lenOf pd1 rfl) rfl (by show 2 * 0 + _ ≤ _; exact Nat.le_of_eq rfl) (hb hby d14_5) (fun _ _ => ⟨rfl, e102, (by decide : 0 + 0 ≤ _), (by decide : 0 + 0 ≤ _)⟩)
 dsimp only [Pt.U, Pt.locs, Pt.cells, Pt.slots] at X103 l103 y103 z103 st103 hQ103
 subst l103 y103 z103
 obtain ⟨rfl, N103q, q103_hh⟩ := hQ103
 have N103 := Fr.app N0 N103q
 have p104 : Go p.tables e below _ (T103.setTop (mkF m 9 #[.val (.int p1), .val (.int p2)] [])) := fun t_ k_ => (gc (gc p101 st102) st103) t_ (by
  refine XS.pop X103.here hx rfl (hb hby d14_8) rfl rfl ?_
  exact k_)
 obtain ⟨fs, hr, hrun, hended, hW, hsame⟩ := X103.leave (v := none) (fun _ => rfl)
 refine ⟨_, _, p104 _ (X103.returnOut hx Bd.returns (hb hby d14_9) hr), hrun, hended, _, _, rfl, ?_, ⟨_, rfl⟩, hW, hsame.mono (by decide) (by decide)⟩
 show Q14 Z p1 p2 cs1 fm h0 n0 _ T103.heap _
 rw [q103_hh]
 exact ⟨rfl, N103, rfl⟩
theorem d13_0 : decode jdk_43_method_2_code 0 = .ok (.iload_n 1, 1) := by decide +kernel
theorem d13_1 : decode jdk_43_method_2_code 1 = .ok (.aload_n 0, 1) := by decide +kernel
theorem d13_2 : decode jdk_43_method_2_code 2 = .ok (.arraylength, 1) := by decide +kernel
theorem d13_3 : decode jdk_43_method_2_code 3 = .ok (.invokestatic 9, 3) := by decide +kernel
theorem d13_6 : decode jdk_43_method_2_code 6 = .ok (.aload_n 0, 1) := by decide +kernel
theorem d13_7 : decode jdk_43_method_2_code 7 = .ok (.iload_n 1, 1) := by decide +kernel
theorem d13_8 : decode jdk_43_method_2_code 8 = .ok (.baload, 1) := by decide +kernel
theorem d13_9 : decode jdk_43_method_2_code 9 = .ok (.sipush 255, 3) := by decide +kernel
theorem d13_12 : decode jdk_43_method_2_code 12 = .ok (.iand, 1) := by decide +kernel
theorem d13_13 : decode jdk_43_method_2_code 13 = .ok (.i2c, 1) := by decide +kernel
theorem d13_14 : decode jdk_43_method_2_code 14 = .ok (.ireturn, 1) := by decide +kernel
theorem pd2 : parseMethodDescriptor "(II)V" = some ⟨[.int, .int], none⟩ := by decide +kernel
theorem pn13 : plainFor (⟨"java/lang/StringLatin1", "charAt", "([BI)C"⟩ : MethodName) = true := plainFor_of_name (by first | (simp [plainName, overriddenIn]; done) | decide +kernel)
theorem ef_rm13 (m : MethodId) (a1 : Addr) (p2 : Int32) (kv : ClassId) (z : Int32) (vs : List Value) (b : Int32) (cc : Int32) (cs1 : Int32) (fm : Value) : entryFrame m #[(.ref a1), (.int p2)] 2 = mkF m 0 #[.val (.ref a1), .val (.int p2)] [] := by first | (simp [entryFrame, mkF, argsToLocals, Value.category]; done) | rfl
def Q13 (Z : State) (a1 : Addr) (p2 : Int32) (kv : ClassId) (z : Int32) (vs : List Value) (b : Int32) (cc : Int32) (cs1 : Int32) (fm : Value) (h0 : Heap) (n0 : Nat) (v : Option Value) (h : Heap) (L : List Loc) : Prop := v = some (.int cc) ∧ Fr n0 L ∧ (h = h0)
set_option maxRecDepth 65536 in
set_option maxHeartbeats 40000000 in
theorem rm13 (l : Launch) (Z : State) (a0 : Array Value) (hw : ∀ d ∈ tables_1, d.before a0 Z = true) (ws : List Jvm.Cond) (a1 : Addr) (p2 : Int32) (kv : ClassId) (z : Int32) (vs : List Value) (b : Int32) (cc : Int32) (cs1 : Int32) (fm : Value) (h0 : Heap) (n0 : Nat) (Z0 : n0 ≤ h0.size) (O1 : Old Z n0 h0) (G : own_G Z cs1 fm) (V1 : Arv Z h0 a1 kv .byte z vs (.int (0 : Int32))) (h1 : ¬ (p2 < (0 : Int32))) (h2 : p2 < z) (hg : vs.getD (p2).toNatClampNeg (.int (0 : Int32)) = .int b) (hc : own_c8 b = cc) :
  MetFree l (⟨"java/lang/StringLatin1", "charAt", "([BI)C"⟩ : MethodName) (head1 (Jvm.Cond.code (⟨"java/lang/StringLatin1", "charAt", "([BI)C"⟩ : MethodName) jdk_43_method_2_code 2 (some .char) :: ws) ({ frames := 2, cells := 0, slots := 0, locals := 27 } : Room)) (fun a U => a = #[(.ref a1), (.int p2)] ∧ Z.Warmed39 U.vm ∧ U.heap = h0) (fun _ _ _ _ _ => True) (fun _ U o U' => ∃ v L, o = .returned v ∧ Q13 Z a1 p2 kv z vs b cc cs1 fm h0 n0 v U'.heap L ∧ FrameEnd U o U' L ({ frames := 2, cells := 0, slots := 0, locals := 27 } : Room).cells ({ frames := 2, cells := 0, slots := 0, locals := 27 } : Room).slots) := by
 refine MetFree.of_bodySF pn13 hisR ?_
 intro p e s m args below meth c s₁ Bd hml0 hP hK
 obtain ⟨rfl, hZ, hh⟩ := hP
 have hx := Bd.exec
 have hby := Bd.bytes
 have hml : c.maxLocals = 2 := hml0
 have hown : s.vm.findClass "java/lang/StringLatin1" = some m.cls := findClass_of_methodNamed Bd.named
 have hnm := (name_of_methodNamed Bd.named Bd.method).1
 have X0 : Stand p l e ({ frames := 2, cells := 0, slots := 0, locals := 27 } : Room) s m #[(.ref a1), (.int p2)] below meth c s₁ [] 0 0 := Stand.of_body Bd
 have e0 : s₁.heap = h0 := by rw [← hh, Bd.state]; rfl
 have N0 := Fr.nil n0
 have p0 : Go p.tables e below (s₁.setTop (entryFrame m #[(.ref a1), (.int p2)] 2)) (s₁.setTop (mkF m 0 #[.val (.ref a1), .val (.int p2)] [])) := fun t_ k_ => castTop (ef_rm13 m a1 p2 kv z vs b cc cs1 fm) k_
 have p101 : Go p.tables e below _ (s₁.setTop (mkF m 2 #[.val (.ref a1), .val (.int p2)] [(.ref a1), (.int p2)])) := fun t_ k_ => p0 t_ (by
  refine XS.iloadN X0.here hx rfl (hb hby d13_0) rfl ?_
  refine XS.aloadN X0.here hx rfl (hb hby d13_1) rfl rfl ?_
  exact k_)
 obtain ⟨cl102, Ar102, -, S102, Ng102, -, -⟩ := id V1
 have p103 : Go p.tables e below _ (s₁.setTop (mkF m 3 #[.val (.ref a1), .val (.int p2)] [(.int z), (.int p2)])) := fun t_ k_ => p101 t_ (by
  refine X0.arraylength hx (by rw [e0]; exact Ar102.1) (State.isArrayOf_alike hZ.alike Ar102.2.1) (g := (mkF m 2 #[.val (.ref a1), .val (.int p2)] [(.ref a1), (.int p2)])) rfl rfl (hb hby d13_2) _ ?_
  rw [len_of S102 Ng102]
  show Steps p.tables e below (s₁.setTop (mkF m 3 #[.val (.ref a1), .val (.int p2)] [(.int z), (.int p2)])) _
  exact k_)
 obtain ⟨_, _, ⟨T104, L104, k104, n104⟩, -, X104, ⟨Lc104, hQ104, l104, y104, z104⟩, st104⟩ := Jvm.LawKit.callS X0 hx (y := (⟨"java/lang/String", "checkIndex", "(II)V"⟩ : MethodName)) hown (mvT hZ (own_w hw 69 rfl)) (mvT hZ (own_w hw 70 rfl)) (mvT hZ (own_w hw 8 rfl)) (mvT hZ (own_w hw 71 rfl)) (by decide) (backOf (W := 0) (rm14 l Z a0 hw [] p2 z cs1 fm h0 n0 (Nat.le_trans Z0 (Keep.refl h0 []).1) O1 G h1 h2) hZ (own_w hw 71 rfl) (own_w hw 8 rfl) (by decide) (by decide)) (g := (mkF m 3 #[.val (.ref a1), .val (.int p2)] [(.int z), (.int p2)])) rfl (by rw [hml]; rfl) (argsL := [(.int p2), (.int z)]) (rest := []) (lenOf pd2 rfl) rfl (by show 2 * 0 + _ ≤ _; exact Nat.le_of_eq rfl) (hb hby d13_3) (fun _ _ => ⟨rfl, e0, (by decide : 0 + 0 ≤ _), (by decide : 0 + 0 ≤ _)⟩)
 dsimp only [Pt.U, Pt.locs, Pt.cells, Pt.slots] at X104 l104 y104 z104 st104 hQ104
 subst l104 y104 z104
 obtain ⟨rfl, N104q, q104_hh⟩ := hQ104
 have N104 := Fr.app N0 N104q
 have p105 : Go p.tables e below _ (T104.setTop (mkF m 8 #[.val (.ref a1), .val (.int p2)] [(.int p2), (.ref a1)])) := fun t_ k_ => (gc p103 st104) t_ (by
  refine XS.aloadN X104.here hx rfl (hb hby d13_6) rfl rfl ?_
  refine XS.iloadN X104.here hx rfl (hb hby d13_7) rfl ?_
  exact k_)
 obtain ⟨cl106, Ar106, q106, S106, Ng106, H106, G106⟩ := id V1
 have hin106 := inb_of S106 (j := p2) ⟨h1, h2⟩
 have hat106 := H106.at (v := (.int b)) hin106 hg
 have p107 : Go p.tables e below _ (T104.setTop (mkF m 14 #[.val (.ref a1), .val (.int p2)] [(.int ((b &&& (255 : Int32)).toUInt32.toUInt16.toUInt32.toInt32))])) := fun t_ k_ => p105 t_ (by
  refine X104.baloadBytes hx (j := p2) (v := (.int b)) (by rw [q104_hh]; exact Ar106.1) (State.isArrayOf_alike hZ.alike Ar106.2.1) Ar106.2.2 hin106 hat106 (g := (mkF m 8 #[.val (.ref a1), .val (.int p2)] [(.int p2), (.ref a1)])) rfl rfl (hb hby d13_8) _ ?_
  refine XS.sipush X104.here hx rfl (hb hby d13_9) ?_
  refine XS.iand X104.here hx rfl (hb hby d13_12) rfl ?_
  refine XS.i2c X104.here hx rfl (hb hby d13_13) rfl ?_
  exact k_)
 obtain ⟨fs, hr, hrun, hended, hW, hsame⟩ := X104.leave (v := some (.int (nar .char ((b &&& (255 : Int32)).toUInt32.toUInt16.toUInt32.toInt32)))) (fun h => by rw [Bd.returns] at h; cases h)
 refine ⟨_, _, p107 _ (retN X104 hx (t := .char) Bd.returns (by simp) (hb hby d13_14) hr), hrun, hended, _, _, rfl, ?_, ⟨_, rfl⟩, hW, hsame.mono (by decide) (by decide)⟩
 show Q13 Z a1 p2 kv z vs b cc cs1 fm h0 n0 _ T104.heap _
 rw [q104_hh]
 exact ⟨congrArg (fun q => some (Value.int q)) hc, N104, rfl⟩
theorem d11_0 : decode jdk_42_method_56_code 0 = .ok (.aload_n 0, 1) := by decide +kernel
theorem d11_1 : decode jdk_42_method_56_code 1 = .ok (.invokevirtual 492, 3) := by decide +kernel
theorem d11_4 : decode jdk_42_method_56_code 4 = .ok (.ifCond .eq 12, 3) := by decide +kernel
theorem d11_7 : decode jdk_42_method_56_code 7 = .ok (.aload_n 0, 1) := by decide +kernel
theorem d11_8 : decode jdk_42_method_56_code 8 = .ok (.getfield 9, 3) := by decide +kernel
theorem d11_11 : decode jdk_42_method_56_code 11 = .ok (.iload_n 1, 1) := by decide +kernel
theorem d11_12 : decode jdk_42_method_56_code 12 = .ok (.invokestatic 495, 3) := by decide +kernel
theorem d11_15 : decode jdk_42_method_56_code 15 = .ok (.ireturn, 1) := by decide +kernel
theorem pd3 : parseMethodDescriptor "()Z" = some ⟨[], some .boolean⟩ := by decide +kernel
theorem pd4 : parseMethodDescriptor "([BI)C" = some ⟨[(.array .byte), .int], some .char⟩ := by decide +kernel
theorem pn11 : plainFor (⟨"java/lang/String", "charAt", "(I)C"⟩ : MethodName) = true := plainFor_of_name (by first | (simp [plainName, overriddenIn]; done) | decide +kernel)
theorem ef_rm11_0 (m : MethodId) (a1 : Addr) (p2 : Int32) (bv : Addr) (kv : ClassId) (z : Int32) (vs : List Value) (b : Int32) (cc : Int32) (cs1 : Int32) (fm : Value) : entryFrame m #[(.ref a1), (.int p2)] 2 = mkF m 0 #[.val (.ref a1), .val (.int p2)] [] := by first | (simp [entryFrame, mkF, argsToLocals, Value.category]; done) | rfl
def Q11_0 (Z : State) (a1 : Addr) (p2 : Int32) (bv : Addr) (kv : ClassId) (z : Int32) (vs : List Value) (b : Int32) (cc : Int32) (cs1 : Int32) (fm : Value) (h0 : Heap) (n0 : Nat) (v : Option Value) (h : Heap) (L : List Loc) : Prop := v = some (.int cc) ∧ Fr n0 L ∧ (h = h0)
set_option maxRecDepth 65536 in
set_option maxHeartbeats 40000000 in
theorem rm11_0 (l : Launch) (Z : State) (a0 : Array Value) (hw : ∀ d ∈ tables_1, d.before a0 Z = true) (ws : List Jvm.Cond) (a1 : Addr) (p2 : Int32) (bv : Addr) (kv : ClassId) (z : Int32) (vs : List Value) (b : Int32) (cc : Int32) (cs1 : Int32) (fm : Value) (h0 : Heap) (n0 : Nat) (Z0 : n0 ≤ h0.size) (O1 : Old Z n0 h0) (G : own_G Z cs1 fm) (E1 : Exa Z h0 a1 "java/lang/String") (F1 : Fld Z h0 a1 "java/lang/String" "coder" "B" (.int (0 : Int32))) (F2 : Fld Z h0 a1 "java/lang/String" "value" "[B" (.ref bv)) (V1 : Arv Z h0 bv kv .byte z vs (.int (0 : Int32))) (h1 : ¬ (p2 < (0 : Int32))) (h2 : p2 < z) (hg : vs.getD (p2).toNatClampNeg (.int (0 : Int32)) = .int b) (hc : own_c8 b = cc) :
  MetFree l (⟨"java/lang/String", "charAt", "(I)C"⟩ : MethodName) (head1 (Jvm.Cond.code (⟨"java/lang/String", "charAt", "(I)C"⟩ : MethodName) jdk_42_method_56_code 2 (some .char) :: ws) ({ frames := 3, cells := 0, slots := 0, locals := 40 } : Room)) (fun a U => a = #[(.ref a1), (.int p2)] ∧ Z.Warmed39 U.vm ∧ U.heap = h0) (fun _ _ _ _ _ => True) (fun _ U o U' => ∃ v L, o = .returned v ∧ Q11_0 Z a1 p2 bv kv z vs b cc cs1 fm h0 n0 v U'.heap L ∧ FrameEnd U o U' L ({ frames := 3, cells := 0, slots := 0, locals := 40 } : Room).cells ({ frames := 3, cells := 0, slots := 0, locals := 40 } : Room).slots) := by
 refine MetFree.of_bodySF pn11 hisR ?_
 intro p e s m args below meth c s₁ Bd hml0 hP hK
 obtain ⟨rfl, hZ, hh⟩ := hP
 have hx := Bd.exec
 have hby := Bd.bytes
 have hml : c.maxLocals = 2 := hml0
 have hown : s.vm.findClass "java/lang/String" = some m.cls := findClass_of_methodNamed Bd.named
 have hnm := (name_of_methodNamed Bd.named Bd.method).1
 have X0 : Stand p l e ({ frames := 3, cells := 0, slots := 0, locals := 40 } : Room) s m #[(.ref a1), (.int p2)] below meth c s₁ [] 0 0 := Stand.of_body Bd
 have e0 : s₁.heap = h0 := by rw [← hh, Bd.state]; rfl
 have N0 := Fr.nil n0
 have p0 : Go p.tables e below (s₁.setTop (entryFrame m #[(.ref a1), (.int p2)] 2)) (s₁.setTop (mkF m 0 #[.val (.ref a1), .val (.int p2)] [])) := fun t_ k_ => castTop (ef_rm11_0 m a1 p2 bv kv z vs b cc cs1 fm) k_
 have p101 : Go p.tables e below _ (s₁.setTop (mkF m 1 #[.val (.ref a1), .val (.int p2)] [(.ref a1)])) := fun t_ k_ => p0 t_ (by
  refine XS.aloadN X0.here hx rfl (hb hby d11_0) rfl rfl ?_
  exact k_)
 obtain ⟨cq102, kq102, q102a, q102b, q102c⟩ := isOf hZ e0 E1
 obtain ⟨_, _, ⟨T102, L102, k102, n102⟩, -, X102, ⟨Lc102, hQ102, l102, y102, z102⟩, st102⟩ := X0.virtualBack hx (y := (⟨"java/lang/String", "isLatin1", "()Z"⟩ : MethodName)) (z := (⟨"java/lang/String", "isLatin1", "()Z"⟩ : MethodName)) hown (mvT hZ (own_w hw 60 rfl)) (mvT hZ (own_w hw 61 rfl)) (notFace_of_selects (args := #[]) (mvT hZ (own_w hw 63 rfl))) (mvT hZ (own_w hw 63 rfl)) (mvT hZ (own_w hw 62 rfl)) (by decide) (backOf (W := 0) (rm12_0 l Z a0 hw [] a1 cs1 fm h0 n0 (Nat.le_trans Z0 (Keep.refl h0 []).1) O1 G F1) hZ (own_w hw 64 rfl) (own_w hw 8 rfl) (by decide) (by decide)) q102a q102c (g := (mkF m 1 #[.val (.ref a1), .val (.int p2)] [(.ref a1)])) rfl (by rw [hml]; rfl) (Steps.refl _) (argsL := []) (rest := []) (lenOf pd3 rfl) rfl (by show 2 * 0 + _ ≤ _; exact Nat.le_of_eq rfl) (hb hby d11_1) (fun _ _ => ⟨rfl, e0, (by decide : 0 + 0 ≤ _), (by decide : 0 + 0 ≤ _)⟩)
 dsimp only [Pt.U, Pt.locs, Pt.cells, Pt.slots] at X102 l102 y102 z102 st102 hQ102
 subst l102 y102 z102
 obtain ⟨rfl, N102q, q102_hh⟩ := hQ102
 have N102 := Fr.app N0 N102q
 have p103 : Go p.tables e below _ (T102.setTop (mkF m 8 #[.val (.ref a1), .val (.int p2)] [(.ref a1)])) := fun t_ k_ => (gcT p101 st102) t_ (by
  refine XS.ifNo X102.here hx rfl (hb hby d11_4) rfl ((if0 _ _).trans (feq (by decide : ¬ ((1 : Int32) = (0 : Int32)))).1) ?_
  refine XS.aloadN X102.here hx rfl (hb hby d11_7) rfl rfl ?_
  exact k_)
 obtain ⟨T104, X104, e104, st104⟩ := getF X102 hx hZ hown (host := "") (Or.inl (own_w hw 33 rfl)) Via.refl q102_hh F2 (g := (mkF m 8 #[.val (.ref a1), .val (.int p2)] [(.ref a1)])) rfl rfl (hb hby d11_8)
 have p105 : Go p.tables e below _ (T104.setTop (mkF m 12 #[.val (.ref a1), .val (.int p2)] [(.int p2), (.ref bv)])) := fun t_ k_ => (gc p103 st104) t_ (by
  refine XS.iloadN X104.here hx rfl (hb hby d11_11) rfl ?_
  exact k_)
 obtain ⟨_, _, ⟨T106, L106, k106, n106⟩, -, X106, ⟨Lc106, hQ106, l106, y106, z106⟩, st106⟩ := Jvm.LawKit.callS X104 hx (y := (⟨"java/lang/StringLatin1", "charAt", "([BI)C"⟩ : MethodName)) hown (mvT hZ (own_w hw 65 rfl)) (mvT hZ (own_w hw 66 rfl)) (mvT hZ (own_w hw 67 rfl)) (mvT hZ (own_w hw 68 rfl)) (by decide) (backOf (W := 0) (rm13 l Z a0 hw [] bv p2 kv z vs b cc cs1 fm h0 n0 (Nat.le_trans Z0 (Keep.refl h0 []).1) O1 G V1 h1 h2 hg hc) hZ (own_w hw 68 rfl) (own_w hw 67 rfl) (by decide) (by decide)) (g := (mkF m 12 #[.val (.ref a1), .val (.int p2)] [(.int p2), (.ref bv)])) rfl (by rw [hml]; rfl) (argsL := [(.ref bv), (.int p2)]) (rest := []) (lenOf pd4 rfl) rfl (by show 2 * 0 + _ ≤ _; exact Nat.le_of_eq rfl) (hb hby d11_12) (fun _ _ => ⟨rfl, e104, (by decide : 0 + 0 ≤ _), (by decide : 0 + 0 ≤ _)⟩)
 dsimp only [Pt.U, Pt.locs, Pt.cells, Pt.slots] at X106 l106 y106 z106 st106 hQ106
 subst l106 y106 z106
 obtain ⟨rfl, N106q, q106_hh⟩ := hQ106
 have N106 := Fr.app N102 N106q
 obtain ⟨fs, hr, hrun, hended, hW, hsame⟩ := X106.leave (v := some (.int (nar .char cc))) (fun h => by rw [Bd.returns] at h; cases h)
 refine ⟨_, _, (gc p105 st106) _ (retN X106 hx (t := .char) Bd.returns (by simp) (hb hby d11_15) hr), hrun, hended, _, _, rfl, ?_, ⟨_, rfl⟩, hW, hsame.mono (by decide) (by decide)⟩
 show Q11_0 Z a1 p2 bv kv z vs b cc cs1 fm h0 n0 _ T106.heap _
 rw [q106_hh]
 exact ⟨by rw [← hc]; exact congrArg (fun q => some (Value.int q)) (own_nar2 _), N106, rfl⟩
theorem d28_0 : decode jdk_52_method_6_code 0 = .ok (.aload_n 0, 1) := by decide +kernel
theorem d28_1 : decode jdk_52_method_6_code 1 = .ok (.arraylength, 1) := by decide +kernel
theorem d28_2 : decode jdk_52_method_6_code 2 = .ok (.iconst 1, 1) := by decide +kernel
theorem d28_3 : decode jdk_52_method_6_code 3 = .ok (.ishr, 1) := by decide +kernel
theorem d28_4 : decode jdk_52_method_6_code 4 = .ok (.ireturn, 1) := by decide +kernel
theorem pn28 : plainFor (⟨"java/lang/StringUTF16", "length", "([B)I"⟩ : MethodName) = true := plainFor_of_name (by first | (simp [plainName, overriddenIn]; done) | decide +kernel)
theorem ef_rm28 (m : MethodId) (a1 : Addr) (kv : ClassId) (z : Int32) (vs : List Value) : entryFrame m #[(.ref a1)] 1 = mkF m 0 #[.val (.ref a1)] [] := by first | (simp [entryFrame, mkF, argsToLocals, Value.category]; done) | rfl
def Q28 (Z : State) (a1 : Addr) (kv : ClassId) (z : Int32) (vs : List Value) (h0 : Heap) (n0 : Nat) (v : Option Value) (h : Heap) (L : List Loc) : Prop := v = some (.int (z >>> (1 : Int32))) ∧ Fr n0 L ∧ (h = h0)
set_option maxRecDepth 65536 in
set_option maxHeartbeats 40000000 in
theorem rm28 (l : Launch) (Z : State) (a0 : Array Value) (hw : ∀ d ∈ tables_1, d.before a0 Z = true) (ws : List Jvm.Cond) (a1 : Addr) (kv : ClassId) (z : Int32) (vs : List Value) (h0 : Heap) (n0 : Nat) (Z0 : n0 ≤ h0.size) (V1 : Arv Z h0 a1 kv .byte z vs (.int (0 : Int32))) :
  MetFree l (⟨"java/lang/StringUTF16", "length", "([B)I"⟩ : MethodName) (head1 (Jvm.Cond.code (⟨"java/lang/StringUTF16", "length", "([B)I"⟩ : MethodName) jdk_52_method_6_code 1 (some .int) :: ws) ({ frames := 0, cells := 0, slots := 0, locals := 0 } : Room)) (fun a U => a = #[(.ref a1)] ∧ Z.Warmed39 U.vm ∧ U.heap = h0) (fun _ _ _ _ _ => True) (fun _ U o U' => ∃ v L, o = .returned v ∧ Q28 Z a1 kv z vs h0 n0 v U'.heap L ∧ FrameEnd U o U' L ({ frames := 0, cells := 0, slots := 0, locals := 0 } : Room).cells ({ frames := 0, cells := 0, slots := 0, locals := 0 } : Room).slots) := by
 refine MetFree.of_bodySF pn28 hisR ?_
 intro p e s m args below meth c s₁ Bd hml0 hP hK
 obtain ⟨rfl, hZ, hh⟩ := hP
 have hx := Bd.exec
 have hby := Bd.bytes
 have hml : c.maxLocals = 1 := hml0
 have hown : s.vm.findClass "java/lang/StringUTF16" = some m.cls := findClass_of_methodNamed Bd.named
 have hnm := (name_of_methodNamed Bd.named Bd.method).1
 have X0 : Stand p l e ({ frames := 0, cells := 0, slots := 0, locals := 0 } : Room) s m #[(.ref a1)] below meth c s₁ [] 0 0 := Stand.of_body Bd
 have e0 : s₁.heap = h0 := by rw [← hh, Bd.state]; rfl
 have N0 := Fr.nil n0
 have p0 : Go p.tables e below (s₁.setTop (entryFrame m #[(.ref a1)] 1)) (s₁.setTop (mkF m 0 #[.val (.ref a1)] [])) := fun t_ k_ => castTop (ef_rm28 m a1 kv z vs) k_
 have p101 : Go p.tables e below _ (s₁.setTop (mkF m 1 #[.val (.ref a1)] [(.ref a1)])) := fun t_ k_ => p0 t_ (by
  refine XS.aloadN X0.here hx rfl (hb hby d28_0) rfl rfl ?_
  exact k_)
 obtain ⟨cl102, Ar102, -, S102, Ng102, -, -⟩ := id V1
 have p103 : Go p.tables e below _ (s₁.setTop (mkF m 4 #[.val (.ref a1)] [(.int (z >>> (1 : Int32)))])) := fun t_ k_ => p101 t_ (by
  refine X0.arraylength hx (by rw [e0]; exact Ar102.1) (State.isArrayOf_alike hZ.alike Ar102.2.1) (g := (mkF m 1 #[.val (.ref a1)] [(.ref a1)])) rfl rfl (hb hby d28_1) _ ?_
  rw [len_of S102 Ng102]
  show Steps p.tables e below (s₁.setTop (mkF m 2 #[.val (.ref a1)] [(.int z)])) _
  refine XS.iconst X0.here hx rfl (hb hby d28_2) ?_
  refine XS.ishr X0.here hx rfl (hb hby d28_3) rfl ?_
  exact k_)
 obtain ⟨fs, hr, hrun, hended, hW, hsame⟩ := X0.leave (v := some (.int (z >>> (1 : Int32)))) (fun h => by rw [Bd.returns] at h; cases h)
 refine ⟨_, _, p103 _ (retI X0 hx Bd.returns (hb hby d28_4) hr), hrun, hended, _, _, rfl, ?_, ⟨_, rfl⟩, hW, hsame.mono (by decide) (by decide)⟩
 show Q28 Z a1 kv z vs h0 n0 _ s₁.heap _
 rw [e0]
 exact ⟨rfl, N0, rfl⟩
theorem d25_0 : decode jdk_52_method_5_code 0 = .ok (.getstatic 44, 3) := by decide +kernel
theorem d25_3 : decode jdk_52_method_5_code 3 = .ok (.ifCond .ne 25, 3) := by decide +kernel
theorem d25_28 : decode jdk_52_method_5_code 28 = .ok (.iload_n 1, 1) := by decide +kernel
theorem d25_29 : decode jdk_52_method_5_code 29 = .ok (.iconst 1, 1) := by decide +kernel
theorem d25_30 : decode jdk_52_method_5_code 30 = .ok (.ishl, 1) := by decide +kernel
theorem d25_31 : decode jdk_52_method_5_code 31 = .ok (.istore_n 1, 1) := by decide +kernel
theorem d25_32 : decode jdk_52_method_5_code 32 = .ok (.aload_n 0, 1) := by decide +kernel
theorem d25_33 : decode jdk_52_method_5_code 33 = .ok (.iload_n 1, 1) := by decide +kernel
theorem d25_34 : decode jdk_52_method_5_code 34 = .ok (.iinc 1 1, 3) := by decide +kernel
theorem d25_37 : decode jdk_52_method_5_code 37 = .ok (.baload, 1) := by decide +kernel
theorem d25_38 : decode jdk_52_method_5_code 38 = .ok (.sipush 255, 3) := by decide +kernel
theorem d25_41 : decode jdk_52_method_5_code 41 = .ok (.iand, 1) := by decide +kernel
theorem d25_42 : decode jdk_52_method_5_code 42 = .ok (.getstatic 59, 3) := by decide +kernel
theorem d25_45 : decode jdk_52_method_5_code 45 = .ok (.ishl, 1) := by decide +kernel
theorem d25_46 : decode jdk_52_method_5_code 46 = .ok (.aload_n 0, 1) := by decide +kernel
theorem d25_47 : decode jdk_52_method_5_code 47 = .ok (.iload_n 1, 1) := by decide +kernel
theorem d25_48 : decode jdk_52_method_5_code 48 = .ok (.baload, 1) := by decide +kernel
theorem d25_49 : decode jdk_52_method_5_code 49 = .ok (.sipush 255, 3) := by decide +kernel
theorem d25_52 : decode jdk_52_method_5_code 52 = .ok (.iand, 1) := by decide +kernel
theorem d25_53 : decode jdk_52_method_5_code 53 = .ok (.getstatic 63, 3) := by decide +kernel
theorem d25_56 : decode jdk_52_method_5_code 56 = .ok (.ishl, 1) := by decide +kernel
theorem d25_57 : decode jdk_52_method_5_code 57 = .ok (.ior, 1) := by decide +kernel
theorem d25_58 : decode jdk_52_method_5_code 58 = .ok (.i2c, 1) := by decide +kernel
theorem d25_59 : decode jdk_52_method_5_code 59 = .ok (.ireturn, 1) := by decide +kernel
theorem pn25 : plainFor (⟨"java/lang/StringUTF16", "getChar", "([BI)C"⟩ : MethodName) = true := plainFor_of_name (by first | (simp [plainName, overriddenIn]; done) | decide +kernel)
theorem ef_rm25 (m : MethodId) (a1 : Addr) (p2 : Int32) (kv : ClassId) (z : Int32) (vs : List Value) (b0 : Int32) (b1 : Int32) (cc : Int32) (cs1 : Int32) (fm : Value) : entryFrame m #[(.ref a1), (.int p2)] 2 = mkF m 0 #[.val (.ref a1), .val (.int p2)] [] := by first | (simp [entryFrame, mkF, argsToLocals, Value.category]; done) | rfl
def Q25 (Z : State) (a1 : Addr) (p2 : Int32) (kv : ClassId) (z : Int32) (vs : List Value) (b0 : Int32) (b1 : Int32) (cc : Int32) (cs1 : Int32) (fm : Value) (h0 : Heap) (n0 : Nat) (v : Option Value) (h : Heap) (L : List Loc) : Prop := v = some (.int cc) ∧ Fr n0 L ∧ (h = h0)
set_option maxRecDepth 65536 in
set_option maxHeartbeats 40000000 in
theorem rm25 (l : Launch) (Z : State) (a0 : Array Value) (hw : ∀ d ∈ tables_1, d.before a0 Z = true) (ws : List Jvm.Cond) (a1 : Addr) (p2 : Int32) (kv : ClassId) (z : Int32) (vs : List Value) (b0 : Int32) (b1 : Int32) (cc : Int32) (cs1 : Int32) (fm : Value) (h0 : Heap) (n0 : Nat) (Z0 : n0 ≤ h0.size) (O1 : Old Z n0 h0) (G : own_G Z cs1 fm) (V1 : Arv Z h0 a1 kv .byte z vs (.int (0 : Int32))) (i0 : ¬ (p2 <<< (1 : Int32)) < 0 ∧ (p2 <<< (1 : Int32)) < z) (i1 : ¬ ((p2 <<< (1 : Int32)) + (1 : Int32)) < 0 ∧ ((p2 <<< (1 : Int32)) + (1 : Int32)) < z) (g0 : vs.getD ((p2 <<< (1 : Int32))).toNatClampNeg (.int (0 : Int32)) = .int b0) (g1 : vs.getD (((p2 <<< (1 : Int32)) + (1 : Int32))).toNatClampNeg (.int (0 : Int32)) = .int b1) (hc : own_c16 b0 b1 = cc) :
  MetFree l (⟨"java/lang/StringUTF16", "getChar", "([BI)C"⟩ : MethodName) (head1 (Jvm.Cond.code (⟨"java/lang/StringUTF16", "getChar", "([BI)C"⟩ : MethodName) jdk_52_method_5_code 2 (some .char) :: ws) ({ frames := 0, cells := 0, slots := 0, locals := 0 } : Room)) (fun a U => a = #[(.ref a1), (.int p2)] ∧ Z.Warmed39 U.vm ∧ U.heap = h0) (fun _ _ _ _ _ => True) (fun _ U o U' => ∃ v L, o = .returned v ∧ Q25 Z a1 p2 kv z vs b0 b1 cc cs1 fm h0 n0 v U'.heap L ∧ FrameEnd U o U' L ({ frames := 0, cells := 0, slots := 0, locals := 0 } : Room).cells ({ frames := 0, cells := 0, slots := 0, locals := 0 } : Room).slots) := by
 refine MetFree.of_bodySF pn25 hisR ?_
 intro p e s m args below meth c s₁ Bd hml0 hP hK
 obtain ⟨rfl, hZ, hh⟩ := hP
 have hx := Bd.exec
 have hby := Bd.bytes
 have hml : c.maxLocals = 2 := hml0
 have hown : s.vm.findClass "java/lang/StringUTF16" = some m.cls := findClass_of_methodNamed Bd.named
 have hnm := (name_of_methodNamed Bd.named Bd.method).1
 have X0 : Stand p l e ({ frames := 0, cells := 0, slots := 0, locals := 0 } : Room) s m #[(.ref a1), (.int p2)] below meth c s₁ [] 0 0 := Stand.of_body Bd
 have e0 : s₁.heap = h0 := by rw [← hh, Bd.state]; rfl
 have N0 := Fr.nil n0
 have p0 : Go p.tables e below (s₁.setTop (entryFrame m #[(.ref a1), (.int p2)] 2)) (s₁.setTop (mkF m 0 #[.val (.ref a1), .val (.int p2)] [])) := fun t_ k_ => castTop (ef_rm25 m a1 p2 kv z vs b0 b1 cc cs1 fm) k_
 obtain ⟨T101, X101, e101, st101⟩ := getS2 X0 hx hZ hown (host := "") (Or.inl (own_w hw 116 rfl)) Via.refl e0 (G.2.2.2.2.1.ext O1.2) (g := (mkF m 0 #[.val (.ref a1), .val (.int p2)] [])) rfl (hb hby d25_0)
 have p102 : Go p.tables e below _ (T101.setTop (mkF m 37 #[.val (.ref a1), .val (.int ((p2 <<< (1 : Int32)) + (1 : Int32)))] [(.int (p2 <<< (1 : Int32))), (.ref a1)])) := fun t_ k_ => (gc p0 st101) t_ (by
  refine XS.ifYes X101.here hx rfl (pc0 := 3) (pc' := 28) rfl (hb hby d25_3) rfl ((if0 _ _).trans (feq (by decide : ¬ ((1 : Int32) = (0 : Int32)))).2) (by decide) (by decide) ?_
  refine XS.iloadN X101.here hx rfl (hb hby d25_28) rfl ?_
  refine XS.iconst X101.here hx rfl (hb hby d25_29) ?_
  refine XS.ishl X101.here hx rfl (hb hby d25_30) rfl ?_
  refine XS.istoreN X101.here hx rfl (hb hby d25_31) rfl (l' := #[.val (.ref a1), .val (.int (p2 <<< (1 : Int32)))]) rfl ?_
  refine XS.aloadN X101.here hx rfl (hb hby d25_32) rfl rfl ?_
  refine XS.iloadN X101.here hx rfl (hb hby d25_33) rfl ?_
  refine XS.iinc X101.here hx rfl (hb hby d25_34) rfl (l' := #[.val (.ref a1), .val (.int ((p2 <<< (1 : Int32)) + (1 : Int32)))]) rfl ?_
  exact k_)
 obtain ⟨cl103, Ar103, q103, S103, Ng103, H103, G103⟩ := id V1
 have hin103 := inb_of S103 (j := (p2 <<< (1 : Int32))) i0
 have hat103 := H103.at (v := (.int b0)) hin103 g0
 have p104 : Go p.tables e below _ (T101.setTop (mkF m 42 #[.val (.ref a1), .val (.int ((p2 <<< (1 : Int32)) + (1 : Int32)))] [(.int (b0 &&& (255 : Int32)))])) := fun t_ k_ => p102 t_ (by
  refine X101.baloadBytes hx (j := (p2 <<< (1 : Int32))) (v := (.int b0)) (by rw [e101]; exact Ar103.1) (State.isArrayOf_alike hZ.alike Ar103.2.1) Ar103.2.2 hin103 hat103 (g := (mkF m 37 #[.val (.ref a1), .val (.int ((p2 <<< (1 : Int32)) + (1 : Int32)))] [(.int (p2 <<< (1 : Int32))), (.ref a1)])) rfl rfl (hb hby d25_37) _ ?_
  refine XS.sipush X101.here hx rfl (hb hby d25_38) ?_
  refine XS.iand X101.here hx rfl (hb hby d25_41) rfl ?_
  exact k_)
 obtain ⟨T105, X105, e105, st105⟩ := getS2 X101 hx hZ hown (host := "") (Or.inl (own_w hw 117 rfl)) Via.refl e101 (G.2.2.2.2.2.1.ext O1.2) (g := (mkF m 42 #[.val (.ref a1), .val (.int ((p2 <<< (1 : Int32)) + (1 : Int32)))] [(.int (b0 &&& (255 : Int32)))])) rfl (hb hby d25_42)
 have p106 : Go p.tables e below _ (T105.setTop (mkF m 48 #[.val (.ref a1), .val (.int ((p2 <<< (1 : Int32)) + (1 : Int32)))] [(.int ((p2 <<< (1 : Int32)) + (1 : Int32))), (.ref a1), (.int ((b0 &&& (255 : Int32)) <<< (0 : Int32)))])) := fun t_ k_ => (gc p104 st105) t_ (by
  refine XS.ishl X105.here hx rfl (hb hby d25_45) rfl ?_
  refine XS.aloadN X105.here hx rfl (hb hby d25_46) rfl rfl ?_
  refine XS.iloadN X105.here hx rfl (hb hby d25_47) rfl ?_
  exact k_)
 obtain ⟨cl107, Ar107, q107, S107, Ng107, H107, G107⟩ := id V1
 have hin107 := inb_of S107 (j := ((p2 <<< (1 : Int32)) + (1 : Int32))) i1
 have hat107 := H107.at (v := (.int b1)) hin107 g1
 have p108 : Go p.tables e below _ (T105.setTop (mkF m 53 #[.val (.ref a1), .val (.int ((p2 <<< (1 : Int32)) + (1 : Int32)))] [(.int (b1 &&& (255 : Int32))), (.int ((b0 &&& (255 : Int32)) <<< (0 : Int32)))])) := fun t_ k_ => p106 t_ (by
  refine X105.baloadBytes hx (j := ((p2 <<< (1 : Int32)) + (1 : Int32))) (v := (.int b1)) (by rw [e105]; exact Ar107.1) (State.isArrayOf_alike hZ.alike Ar107.2.1) Ar107.2.2 hin107 hat107 (g := (mkF m 48 #[.val (.ref a1), .val (.int ((p2 <<< (1 : Int32)) + (1 : Int32)))] [(.int ((p2 <<< (1 : Int32)) + (1 : Int32))), (.ref a1), (.int ((b0 &&& (255 : Int32)) <<< (0 : Int32)))])) rfl rfl (hb hby d25_48) _ ?_
  refine XS.sipush X105.here hx rfl (hb hby d25_49) ?_
  refine XS.iand X105.here hx rfl (hb hby d25_52) rfl ?_
  exact k_)
 obtain ⟨T109, X109, e109, st109⟩ := getS2 X105 hx hZ hown (host := "") (Or.inl (own_w hw 118 rfl)) Via.refl e105 (G.2.2.2.2.2.2.ext O1.2) (g := (mkF m 53 #[.val (.ref a1), .val (.int ((p2 <<< (1 : Int32)) + (1 : Int32)))] [(.int (b1 &&& (255 : Int32))), (.int ((b0 &&& (255 : Int32)) <<< (0 : Int32)))])) rfl (hb hby d25_53)
 have p110 : Go p.tables e below _ (T109.setTop (mkF m 59 #[.val (.ref a1), .val (.int ((p2 <<< (1 : Int32)) + (1 : Int32)))] [(.int ((((b0 &&& (255 : Int32)) <<< (0 : Int32)) ||| ((b1 &&& (255 : Int32)) <<< (8 : Int32))).toUInt32.toUInt16.toUInt32.toInt32))])) := fun t_ k_ => (gc p108 st109) t_ (by
  refine XS.ishl X109.here hx rfl (hb hby d25_56) rfl ?_
  refine XS.ior X109.here hx rfl (hb hby d25_57) rfl ?_
  refine XS.i2c X109.here hx rfl (hb hby d25_58) rfl ?_
  exact k_)
 obtain ⟨fs, hr, hrun, hended, hW, hsame⟩ := X109.leave (v := some (.int (nar .char ((((b0 &&& (255 : Int32)) <<< (0 : Int32)) ||| ((b1 &&& (255 : Int32)) <<< (8 : Int32))).toUInt32.toUInt16.toUInt32.toInt32)))) (fun h => by rw [Bd.returns] at h; cases h)
 refine ⟨_, _, p110 _ (retN X109 hx (t := .char) Bd.returns (by simp) (hb hby d25_59) hr), hrun, hended, _, _, rfl, ?_, ⟨_, rfl⟩, hW, hsame.mono (by decide) (by decide)⟩
 show Q25 Z a1 p2 kv z vs b0 b1 cc cs1 fm h0 n0 _ T109.heap _
 rw [e109]
 exact ⟨congrArg (fun q => some (Value.int q)) hc, N0, rfl⟩
theorem d27_0 : decode jdk_52_method_91_code 0 = .ok (.iload_n 0, 1) := by decide +kernel
theorem d27_1 : decode jdk_52_method_91_code 1 = .ok (.aload_n 1, 1) := by decide +kernel
theorem d27_2 : decode jdk_52_method_91_code 2 = .ok (.invokestatic 48, 3) := by decide +kernel
theorem d27_5 : decode jdk_52_method_91_code 5 = .ok (.invokestatic 414, 3) := by decide +kernel
theorem d27_8 : decode jdk_52_method_91_code 8 = .ok (.return_, 1) := by decide +kernel
theorem pd5 : parseMethodDescriptor "([B)I" = some ⟨[(.array .byte)], some .int⟩ := by decide +kernel
theorem pn27 : plainFor (⟨"java/lang/StringUTF16", "checkIndex", "(I[B)V"⟩ : MethodName) = true := plainFor_of_name (by first | (simp [plainName, overriddenIn]; done) | decide +kernel)
theorem ef_rm27 (m : MethodId) (p1 : Int32) (a2 : Addr) (kv : ClassId) (z : Int32) (vs : List Value) (cs1 : Int32) (fm : Value) : entryFrame m #[(.int p1), (.ref a2)] 2 = mkF m 0 #[.val (.int p1), .val (.ref a2)] [] := by first | (simp [entryFrame, mkF, argsToLocals, Value.category]; done) | rfl
def Q27 (Z : State) (p1 : Int32) (a2 : Addr) (kv : ClassId) (z : Int32) (vs : List Value) (cs1 : Int32) (fm : Value) (h0 : Heap) (n0 : Nat) (v : Option Value) (h : Heap) (L : List Loc) : Prop := v = none ∧ Fr n0 L ∧ (h = h0)
set_option maxRecDepth 65536 in
set_option maxHeartbeats 40000000 in
theorem rm27 (l : Launch) (Z : State) (a0 : Array Value) (hw : ∀ d ∈ tables_1, d.before a0 Z = true) (ws : List Jvm.Cond) (p1 : Int32) (a2 : Addr) (kv : ClassId) (z : Int32) (vs : List Value) (cs1 : Int32) (fm : Value) (h0 : Heap) (n0 : Nat) (Z0 : n0 ≤ h0.size) (O1 : Old Z n0 h0) (G : own_G Z cs1 fm) (V1 : Arv Z h0 a2 kv .byte z vs (.int (0 : Int32))) (h1 : ¬ (p1 < (0 : Int32))) (h2 : p1 < (z >>> (1 : Int32))) :
  MetFree l (⟨"java/lang/StringUTF16", "checkIndex", "(I[B)V"⟩ : MethodName) (head1 (Jvm.Cond.code (⟨"java/lang/StringUTF16", "checkIndex", "(I[B)V"⟩ : MethodName) jdk_52_method_91_code 2 none :: ws) ({ frames := 2, cells := 0, slots := 0, locals := 27 } : Room)) (fun a U => a = #[(.int p1), (.ref a2)] ∧ Z.Warmed39 U.vm ∧ U.heap = h0) (fun _ _ _ _ _ => True) (fun _ U o U' => ∃ v L, o = .returned v ∧ Q27 Z p1 a2 kv z vs cs1 fm h0 n0 v U'.heap L ∧ FrameEnd U o U' L ({ frames := 2, cells := 0, slots := 0, locals := 27 } : Room).cells ({ frames := 2, cells := 0, slots := 0, locals := 27 } : Room).slots) := by
 refine MetFree.of_bodySF pn27 hisR ?_
 intro p e s m args below meth c s₁ Bd hml0 hP hK
 obtain ⟨rfl, hZ, hh⟩ := hP
 have hx := Bd.exec
 have hby := Bd.bytes
 have hml : c.maxLocals = 2 := hml0
 have hown : s.vm.findClass "java/lang/StringUTF16" = some m.cls := findClass_of_methodNamed Bd.named
 have hnm := (name_of_methodNamed Bd.named Bd.method).1
 have X0 : Stand p l e ({ frames := 2, cells := 0, slots := 0, locals := 27 } : Room) s m #[(.int p1), (.ref a2)] below meth c s₁ [] 0 0 := Stand.of_body Bd
 have e0 : s₁.heap = h0 := by rw [← hh, Bd.state]; rfl
 have N0 := Fr.nil n0
 have p0 : Go p.tables e below (s₁.setTop (entryFrame m #[(.int p1), (.ref a2)] 2)) (s₁.setTop (mkF m 0 #[.val (.int p1), .val (.ref a2)] [])) := fun t_ k_ => castTop (ef_rm27 m p1 a2 kv z vs cs1 fm) k_
 have p101 : Go p.tables e below _ (s₁.setTop (mkF m 2 #[.val (.int p1), .val (.ref a2)] [(.ref a2), (.int p1)])) := fun t_ k_ => p0 t_ (by
  refine XS.iloadN X0.here hx rfl (hb hby d27_0) rfl ?_
  refine XS.aloadN X0.here hx rfl (hb hby d27_1) rfl rfl ?_
  exact k_)
 obtain ⟨_, _, ⟨T102, L102, k102, n102⟩, -, X102, ⟨Lc102, hQ102, l102, y102, z102⟩, st102⟩ := Jvm.LawKit.callS X0 hx (y := (⟨"java/lang/StringUTF16", "length", "([B)I"⟩ : MethodName)) hown (mvT hZ (own_w hw 128 rfl)) (mvT hZ (own_w hw 129 rfl)) (mvT hZ (own_w hw 22 rfl)) (mvT hZ (own_w hw 130 rfl)) (by decide) (backOf (W := 1) (rm28 l Z a0 hw [] a2 kv z vs h0 n0 (Nat.le_trans Z0 (Keep.refl h0 []).1) V1) hZ (own_w hw 130 rfl) (own_w hw 22 rfl) (by decide) (by decide)) (g := (mkF m 2 #[.val (.int p1), .val (.ref a2)] [(.ref a2), (.int p1)])) rfl (by rw [hml]; rfl) (argsL := [(.ref a2)]) (rest := [(.int p1)]) (lenOf pd5 rfl) rfl (by show 2 * 0 + _ ≤ _; exact Nat.le_of_eq rfl) (hb hby d27_2) (fun _ _ => ⟨rfl, e0, (by decide : 0 + 0 ≤ _), (by decide : 0 + 0 ≤ _)⟩)
 dsimp only [Pt.U, Pt.locs, Pt.cells, Pt.slots] at X102 l102 y102 z102 st102 hQ102
 subst l102 y102 z102
 obtain ⟨rfl, N102q, q102_hh⟩ := hQ102
 have N102 := Fr.app N0 N102q
 obtain ⟨_, _, ⟨T103, L103, k103, n103⟩, -, X103, ⟨Lc103, hQ103, l103, y103, z103⟩, st103⟩ := Jvm.LawKit.callS X102 hx (y := (⟨"java/lang/String", "checkIndex", "(II)V"⟩ : MethodName)) hown (mvT hZ (own_w hw 131 rfl)) (mvT hZ (own_w hw 70 rfl)) (mvT hZ (own_w hw 8 rfl)) (mvT hZ (own_w hw 71 rfl)) (by decide) (backOf (W := 0) (rm14 l Z a0 hw [] p1 (z >>> (1 : Int32)) cs1 fm h0 n0 (Nat.le_trans Z0 (Keep.refl h0 []).1) O1 G h1 h2) hZ (own_w hw 71 rfl) (own_w hw 8 rfl) (by decide) (by decide)) (g := (mkF m 5 #[.val (.int p1), .val (.ref a2)] [(.int (z >>> (1 : Int32))), (.int p1)])) rfl (by rw [hml]; rfl) (argsL := [(.int p1), (.int (z >>> (1 : Int32)))]) (rest := []) (lenOf pd2 rfl) rfl (by show 2 * 0 + _ ≤ _; exact Nat.le_of_eq rfl) (hb hby d27_5) (fun _ _ => ⟨rfl, q102_hh, (by decide : 0 + 0 ≤ _), (by decide : 0 + 0 ≤ _)⟩)
 dsimp only [Pt.U, Pt.locs, Pt.cells, Pt.slots] at X103 l103 y103 z103 st103 hQ103
 subst l103 y103 z103
 obtain ⟨rfl, N103q, q103_hh⟩ := hQ103
 have N103 := Fr.app N102 N103q
 obtain ⟨fs, hr, hrun, hended, hW, hsame⟩ := X103.leave (v := none) (fun _ => rfl)
 refine ⟨_, _, (gc (gc p101 st102) st103) _ (X103.returnOut hx Bd.returns (hb hby d27_8) hr), hrun, hended, _, _, rfl, ?_, ⟨_, rfl⟩, hW, hsame.mono (by decide) (by decide)⟩
 show Q27 Z p1 a2 kv z vs cs1 fm h0 n0 _ T103.heap _
 rw [q103_hh]
 exact ⟨rfl, N103, rfl⟩
theorem d26_0 : decode jdk_52_method_83_code 0 = .ok (.iload_n 1, 1) := by decide +kernel
theorem d26_1 : decode jdk_52_method_83_code 1 = .ok (.aload_n 0, 1) := by decide +kernel
theorem d26_2 : decode jdk_52_method_83_code 2 = .ok (.invokestatic 67, 3) := by decide +kernel
theorem d26_5 : decode jdk_52_method_83_code 5 = .ok (.aload_n 0, 1) := by decide +kernel
theorem d26_6 : decode jdk_52_method_83_code 6 = .ok (.iload_n 1, 1) := by decide +kernel
theorem d26_7 : decode jdk_52_method_83_code 7 = .ok (.invokestatic 71, 3) := by decide +kernel
theorem d26_10 : decode jdk_52_method_83_code 10 = .ok (.ireturn, 1) := by decide +kernel
theorem pd6 : parseMethodDescriptor "(I[B)V" = some ⟨[.int, (.array .byte)], none⟩ := by decide +kernel
theorem pn26 : plainFor (⟨"java/lang/StringUTF16", "charAt", "([BI)C"⟩ : MethodName) = true := plainFor_of_name (by first | (simp [plainName, overriddenIn]; done) | decide +kernel)
theorem ef_rm26 (m : MethodId) (a1 : Addr) (p2 : Int32) (kv : ClassId) (z : Int32) (vs : List Value) (b0 : Int32) (b1 : Int32) (cc : Int32) (cs1 : Int32) (fm : Value) : entryFrame m #[(.ref a1), (.int p2)] 2 = mkF m 0 #[.val (.ref a1), .val (.int p2)] [] := by first | (simp [entryFrame, mkF, argsToLocals, Value.category]; done) | rfl
def Q26 (Z : State) (a1 : Addr) (p2 : Int32) (kv : ClassId) (z : Int32) (vs : List Value) (b0 : Int32) (b1 : Int32) (cc : Int32) (cs1 : Int32) (fm : Value) (h0 : Heap) (n0 : Nat) (v : Option Value) (h : Heap) (L : List Loc) : Prop := v = some (.int cc) ∧ Fr n0 L ∧ (h = h0)
set_option maxRecDepth 65536 in
set_option maxHeartbeats 40000000 in
theorem rm26 (l : Launch) (Z : State) (a0 : Array Value) (hw : ∀ d ∈ tables_1, d.before a0 Z = true) (ws : List Jvm.Cond) (a1 : Addr) (p2 : Int32) (kv : ClassId) (z : Int32) (vs : List Value) (b0 : Int32) (b1 : Int32) (cc : Int32) (cs1 : Int32) (fm : Value) (h0 : Heap) (n0 : Nat) (Z0 : n0 ≤ h0.size) (O1 : Old Z n0 h0) (G : own_G Z cs1 fm) (V1 : Arv Z h0 a1 kv .byte z vs (.int (0 : Int32))) (h1 : ¬ (p2 < (0 : Int32))) (h2 : p2 < (z >>> (1 : Int32))) (i0 : ¬ (p2 <<< (1 : Int32)) < 0 ∧ (p2 <<< (1 : Int32)) < z) (i1 : ¬ ((p2 <<< (1 : Int32)) + (1 : Int32)) < 0 ∧ ((p2 <<< (1 : Int32)) + (1 : Int32)) < z) (g0 : vs.getD ((p2 <<< (1 : Int32))).toNatClampNeg (.int (0 : Int32)) = .int b0) (g1 : vs.getD (((p2 <<< (1 : Int32)) + (1 : Int32))).toNatClampNeg (.int (0 : Int32)) = .int b1) (hc : own_c16 b0 b1 = cc) :
  MetFree l (⟨"java/lang/StringUTF16", "charAt", "([BI)C"⟩ : MethodName) (head1 (Jvm.Cond.code (⟨"java/lang/StringUTF16", "charAt", "([BI)C"⟩ : MethodName) jdk_52_method_83_code 2 (some .char) :: ws) ({ frames := 3, cells := 0, slots := 0, locals := 40 } : Room)) (fun a U => a = #[(.ref a1), (.int p2)] ∧ Z.Warmed39 U.vm ∧ U.heap = h0) (fun _ _ _ _ _ => True) (fun _ U o U' => ∃ v L, o = .returned v ∧ Q26 Z a1 p2 kv z vs b0 b1 cc cs1 fm h0 n0 v U'.heap L ∧ FrameEnd U o U' L ({ frames := 3, cells := 0, slots := 0, locals := 40 } : Room).cells ({ frames := 3, cells := 0, slots := 0, locals := 40 } : Room).slots) := by
 refine MetFree.of_bodySF pn26 hisR ?_
 intro p e s m args below meth c s₁ Bd hml0 hP hK
 obtain ⟨rfl, hZ, hh⟩ := hP
 have hx := Bd.exec
 have hby := Bd.bytes
 have hml : c.maxLocals = 2 := hml0
 have hown : s.vm.findClass "java/lang/StringUTF16" = some m.cls := findClass_of_methodNamed Bd.named
 have hnm := (name_of_methodNamed Bd.named Bd.method).1
 have X0 : Stand p l e ({ frames := 3, cells := 0, slots := 0, locals := 40 } : Room) s m #[(.ref a1), (.int p2)] below meth c s₁ [] 0 0 := Stand.of_body Bd
 have e0 : s₁.heap = h0 := by rw [← hh, Bd.state]; rfl
 have N0 := Fr.nil n0
 have p0 : Go p.tables e below (s₁.setTop (entryFrame m #[(.ref a1), (.int p2)] 2)) (s₁.setTop (mkF m 0 #[.val (.ref a1), .val (.int p2)] [])) := fun t_ k_ => castTop (ef_rm26 m a1 p2 kv z vs b0 b1 cc cs1 fm) k_
 have p101 : Go p.tables e below _ (s₁.setTop (mkF m 2 #[.val (.ref a1), .val (.int p2)] [(.ref a1), (.int p2)])) := fun t_ k_ => p0 t_ (by
  refine XS.iloadN X0.here hx rfl (hb hby d26_0) rfl ?_
  refine XS.aloadN X0.here hx rfl (hb hby d26_1) rfl rfl ?_
  exact k_)
 obtain ⟨_, _, ⟨T102, L102, k102, n102⟩, -, X102, ⟨Lc102, hQ102, l102, y102, z102⟩, st102⟩ := Jvm.LawKit.callS X0 hx (y := (⟨"java/lang/StringUTF16", "checkIndex", "(I[B)V"⟩ : MethodName)) hown (mvT hZ (own_w hw 125 rfl)) (mvT hZ (own_w hw 126 rfl)) (mvT hZ (own_w hw 22 rfl)) (mvT hZ (own_w hw 127 rfl)) (by decide) (backOf (W := 0) (rm27 l Z a0 hw [] p2 a1 kv z vs cs1 fm h0 n0 (Nat.le_trans Z0 (Keep.refl h0 []).1) O1 G V1 h1 h2) hZ (own_w hw 127 rfl) (own_w hw 22 rfl) (by decide) (by decide)) (g := (mkF m 2 #[.val (.ref a1), .val (.int p2)] [(.ref a1), (.int p2)])) rfl (by rw [hml]; rfl) (argsL := [(.int p2), (.ref a1)]) (rest := []) (lenOf pd6 rfl) rfl (by show 2 * 0 + _ ≤ _; exact Nat.le_of_eq rfl) (hb hby d26_2) (fun _ _ => ⟨rfl, e0, (by decide : 0 + 0 ≤ _), (by decide : 0 + 0 ≤ _)⟩)
 dsimp only [Pt.U, Pt.locs, Pt.cells, Pt.slots] at X102 l102 y102 z102 st102 hQ102
 subst l102 y102 z102
 obtain ⟨rfl, N102q, q102_hh⟩ := hQ102
 have N102 := Fr.app N0 N102q
 have p103 : Go p.tables e below _ (T102.setTop (mkF m 7 #[.val (.ref a1), .val (.int p2)] [(.int p2), (.ref a1)])) := fun t_ k_ => (gc p101 st102) t_ (by
  refine XS.aloadN X102.here hx rfl (hb hby d26_5) rfl rfl ?_
  refine XS.iloadN X102.here hx rfl (hb hby d26_6) rfl ?_
  exact k_)
 obtain ⟨_, _, ⟨T104, L104, k104, n104⟩, -, X104, ⟨Lc104, hQ104, l104, y104, z104⟩, st104⟩ := Jvm.LawKit.callS X102 hx (y := (⟨"java/lang/StringUTF16", "getChar", "([BI)C"⟩ : MethodName)) hown (mvT hZ (own_w hw 119 rfl)) (mvT hZ (own_w hw 120 rfl)) (mvT hZ (own_w hw 22 rfl)) (mvT hZ (own_w hw 121 rfl)) (by decide) (backOf (W := 0) (rm25 l Z a0 hw [] a1 p2 kv z vs b0 b1 cc cs1 fm h0 n0 (Nat.le_trans Z0 (Keep.refl h0 []).1) O1 G V1 i0 i1 g0 g1 hc) hZ (own_w hw 121 rfl) (own_w hw 22 rfl) (by decide) (by decide)) (g := (mkF m 7 #[.val (.ref a1), .val (.int p2)] [(.int p2), (.ref a1)])) rfl (by rw [hml]; rfl) (argsL := [(.ref a1), (.int p2)]) (rest := []) (lenOf pd4 rfl) rfl (by show 2 * 0 + _ ≤ _; exact Nat.le_of_eq rfl) (hb hby d26_7) (fun _ _ => ⟨rfl, q102_hh, (by decide : 0 + 0 ≤ _), (by decide : 0 + 0 ≤ _)⟩)
 dsimp only [Pt.U, Pt.locs, Pt.cells, Pt.slots] at X104 l104 y104 z104 st104 hQ104
 subst l104 y104 z104
 obtain ⟨rfl, N104q, q104_hh⟩ := hQ104
 have N104 := Fr.app N102 N104q
 obtain ⟨fs, hr, hrun, hended, hW, hsame⟩ := X104.leave (v := some (.int (nar .char cc))) (fun h => by rw [Bd.returns] at h; cases h)
 refine ⟨_, _, (gc p103 st104) _ (retN X104 hx (t := .char) Bd.returns (by simp) (hb hby d26_10) hr), hrun, hended, _, _, rfl, ?_, ⟨_, rfl⟩, hW, hsame.mono (by decide) (by decide)⟩
 show Q26 Z a1 p2 kv z vs b0 b1 cc cs1 fm h0 n0 _ T104.heap _
 rw [q104_hh]
 exact ⟨by rw [← hc]; exact congrArg (fun q => some (Value.int q)) (own_nar2 _), N104, rfl⟩
theorem d11_16 : decode jdk_42_method_56_code 16 = .ok (.aload_n 0, 1) := by decide +kernel
theorem d11_17 : decode jdk_42_method_56_code 17 = .ok (.getfield 9, 3) := by decide +kernel
theorem d11_20 : decode jdk_42_method_56_code 20 = .ok (.iload_n 1, 1) := by decide +kernel
theorem d11_21 : decode jdk_42_method_56_code 21 = .ok (.invokestatic 498, 3) := by decide +kernel
theorem d11_24 : decode jdk_42_method_56_code 24 = .ok (.ireturn, 1) := by decide +kernel
theorem ef_rm11_1 (m : MethodId) (a1 : Addr) (p2 : Int32) (bv : Addr) (kv : ClassId) (z : Int32) (vs : List Value) (b0 : Int32) (b1 : Int32) (cc : Int32) (cs1 : Int32) (fm : Value) : entryFrame m #[(.ref a1), (.int p2)] 2 = mkF m 0 #[.val (.ref a1), .val (.int p2)] [] := by first | (simp [entryFrame, mkF, argsToLocals, Value.category]; done) | rfl
def Q11_1 (Z : State) (a1 : Addr) (p2 : Int32) (bv : Addr) (kv : ClassId) (z : Int32) (vs : List Value) (b0 : Int32) (b1 : Int32) (cc : Int32) (cs1 : Int32) (fm : Value) (h0 : Heap) (n0 : Nat) (v : Option Value) (h : Heap) (L : List Loc) : Prop := v = some (.int cc) ∧ Fr n0 L ∧ (h = h0)
set_option maxRecDepth 65536 in
set_option maxHeartbeats 40000000 in
theorem rm11_1 (l : Launch) (Z : State) (a0 : Array Value) (hw : ∀ d ∈ tables_1, d.before a0 Z = true) (ws : List Jvm.Cond) (a1 : Addr) (p2 : Int32) (bv : Addr) (kv : ClassId) (z : Int32) (vs : List Value) (b0 : Int32) (b1 : Int32) (cc : Int32) (cs1 : Int32) (fm : Value) (h0 : Heap) (n0 : Nat) (Z0 : n0 ≤ h0.size) (O1 : Old Z n0 h0) (G : own_G Z cs1 fm) (E1 : Exa Z h0 a1 "java/lang/String") (F1 : Fld Z h0 a1 "java/lang/String" "coder" "B" (.int (1 : Int32))) (F2 : Fld Z h0 a1 "java/lang/String" "value" "[B" (.ref bv)) (V1 : Arv Z h0 bv kv .byte z vs (.int (0 : Int32))) (h1 : ¬ (p2 < (0 : Int32))) (h2 : p2 < (z >>> (1 : Int32))) (i0 : ¬ (p2 <<< (1 : Int32)) < 0 ∧ (p2 <<< (1 : Int32)) < z) (i1 : ¬ ((p2 <<< (1 : Int32)) + (1 : Int32)) < 0 ∧ ((p2 <<< (1 : Int32)) + (1 : Int32)) < z) (g0 : vs.getD ((p2 <<< (1 : Int32))).toNatClampNeg (.int (0 : Int32)) = .int b0) (g1 : vs.getD (((p2 <<< (1 : Int32)) + (1 : Int32))).toNatClampNeg (.int (0 : Int32)) = .int b1) (hc : own_c16 b0 b1 = cc) :
  MetFree l (⟨"java/lang/String", "charAt", "(I)C"⟩ : MethodName) (head1 (Jvm.Cond.code (⟨"java/lang/String", "charAt", "(I)C"⟩ : MethodName) jdk_42_method_56_code 2 (some .char) :: ws) ({ frames := 4, cells := 0, slots := 0, locals := 53 } : Room)) (fun a U => a = #[(.ref a1), (.int p2)] ∧ Z.Warmed39 U.vm ∧ U.heap = h0) (fun _ _ _ _ _ => True) (fun _ U o U' => ∃ v L, o = .returned v ∧ Q11_1 Z a1 p2 bv kv z vs b0 b1 cc cs1 fm h0 n0 v U'.heap L ∧ FrameEnd U o U' L ({ frames := 4, cells := 0, slots := 0, locals := 53 } : Room).cells ({ frames := 4, cells := 0, slots := 0, locals := 53 } : Room).slots) := by
 refine MetFree.of_bodySF pn11 hisR ?_
 intro p e s m args below meth c s₁ Bd hml0 hP hK
 obtain ⟨rfl, hZ, hh⟩ := hP
 have hx := Bd.exec
 have hby := Bd.bytes
 have hml : c.maxLocals = 2 := hml0
 have hown : s.vm.findClass "java/lang/String" = some m.cls := findClass_of_methodNamed Bd.named
 have hnm := (name_of_methodNamed Bd.named Bd.method).1
 have X0 : Stand p l e ({ frames := 4, cells := 0, slots := 0, locals := 53 } : Room) s m #[(.ref a1), (.int p2)] below meth c s₁ [] 0 0 := Stand.of_body Bd
 have e0 : s₁.heap = h0 := by rw [← hh, Bd.state]; rfl
 have N0 := Fr.nil n0
 have p0 : Go p.tables e below (s₁.setTop (entryFrame m #[(.ref a1), (.int p2)] 2)) (s₁.setTop (mkF m 0 #[.val (.ref a1), .val (.int p2)] [])) := fun t_ k_ => castTop (ef_rm11_1 m a1 p2 bv kv z vs b0 b1 cc cs1 fm) k_
 have p101 : Go p.tables e below _ (s₁.setTop (mkF m 1 #[.val (.ref a1), .val (.int p2)] [(.ref a1)])) := fun t_ k_ => p0 t_ (by
  refine XS.aloadN X0.here hx rfl (hb hby d11_0) rfl rfl ?_
  exact k_)
 obtain ⟨cq102, kq102, q102a, q102b, q102c⟩ := isOf hZ e0 E1
 obtain ⟨_, _, ⟨T102, L102, k102, n102⟩, -, X102, ⟨Lc102, hQ102, l102, y102, z102⟩, st102⟩ := X0.virtualBack hx (y := (⟨"java/lang/String", "isLatin1", "()Z"⟩ : MethodName)) (z := (⟨"java/lang/String", "isLatin1", "()Z"⟩ : MethodName)) hown (mvT hZ (own_w hw 60 rfl)) (mvT hZ (own_w hw 61 rfl)) (notFace_of_selects (args := #[]) (mvT hZ (own_w hw 63 rfl))) (mvT hZ (own_w hw 63 rfl)) (mvT hZ (own_w hw 62 rfl)) (by decide) (backOf (W := 0) (rm12_1 l Z a0 hw [] a1 cs1 fm h0 n0 (Nat.le_trans Z0 (Keep.refl h0 []).1) O1 G F1) hZ (own_w hw 64 rfl) (own_w hw 8 rfl) (by decide) (by decide)) q102a q102c (g := (mkF m 1 #[.val (.ref a1), .val (.int p2)] [(.ref a1)])) rfl (by rw [hml]; rfl) (Steps.refl _) (argsL := []) (rest := []) (lenOf pd3 rfl) rfl (by show 2 * 0 + _ ≤ _; exact Nat.le_of_eq rfl) (hb hby d11_1) (fun _ _ => ⟨rfl, e0, (by decide : 0 + 0 ≤ _), (by decide : 0 + 0 ≤ _)⟩)
 dsimp only [Pt.U, Pt.locs, Pt.cells, Pt.slots] at X102 l102 y102 z102 st102 hQ102
 subst l102 y102 z102
 obtain ⟨rfl, N102q, q102_hh⟩ := hQ102
 have N102 := Fr.app N0 N102q
 have p103 : Go p.tables e below _ (T102.setTop (mkF m 17 #[.val (.ref a1), .val (.int p2)] [(.ref a1)])) := fun t_ k_ => (gcT p101 st102) t_ (by
  refine XS.ifYes X102.here hx rfl (pc0 := 4) (pc' := 16) rfl (hb hby d11_4) rfl ((if0 _ _).trans (teq (by decide : ((0 : Int32) = (0 : Int32)))).1) (by decide) (by decide) ?_
  refine XS.aloadN X102.here hx rfl (hb hby d11_16) rfl rfl ?_
  exact k_)
 obtain ⟨T104, X104, e104, st104⟩ := getF X102 hx hZ hown (host := "") (Or.inl (own_w hw 33 rfl)) Via.refl q102_hh F2 (g := (mkF m 17 #[.val (.ref a1), .val (.int p2)] [(.ref a1)])) rfl rfl (hb hby d11_17)
 have p105 : Go p.tables e below _ (T104.setTop (mkF m 21 #[.val (.ref a1), .val (.int p2)] [(.int p2), (.ref bv)])) := fun t_ k_ => (gc p103 st104) t_ (by
  refine XS.iloadN X104.here hx rfl (hb hby d11_20) rfl ?_
  exact k_)
 obtain ⟨_, _, ⟨T106, L106, k106, n106⟩, -, X106, ⟨Lc106, hQ106, l106, y106, z106⟩, st106⟩ := Jvm.LawKit.callS X104 hx (y := (⟨"java/lang/StringUTF16", "charAt", "([BI)C"⟩ : MethodName)) hown (mvT hZ (own_w hw 122 rfl)) (mvT hZ (own_w hw 123 rfl)) (mvT hZ (own_w hw 22 rfl)) (mvT hZ (own_w hw 124 rfl)) (by decide) (backOf (W := 0) (rm26 l Z a0 hw [] bv p2 kv z vs b0 b1 cc cs1 fm h0 n0 (Nat.le_trans Z0 (Keep.refl h0 []).1) O1 G V1 h1 h2 i0 i1 g0 g1 hc) hZ (own_w hw 124 rfl) (own_w hw 22 rfl) (by decide) (by decide)) (g := (mkF m 21 #[.val (.ref a1), .val (.int p2)] [(.int p2), (.ref bv)])) rfl (by rw [hml]; rfl) (argsL := [(.ref bv), (.int p2)]) (rest := []) (lenOf pd4 rfl) rfl (by show 2 * 0 + _ ≤ _; exact Nat.le_of_eq rfl) (hb hby d11_21) (fun _ _ => ⟨rfl, e104, (by decide : 0 + 0 ≤ _), (by decide : 0 + 0 ≤ _)⟩)
 dsimp only [Pt.U, Pt.locs, Pt.cells, Pt.slots] at X106 l106 y106 z106 st106 hQ106
 subst l106 y106 z106
 obtain ⟨rfl, N106q, q106_hh⟩ := hQ106
 have N106 := Fr.app N102 N106q
 obtain ⟨fs, hr, hrun, hended, hW, hsame⟩ := X106.leave (v := some (.int (nar .char cc))) (fun h => by rw [Bd.returns] at h; cases h)
 refine ⟨_, _, (gc p105 st106) _ (retN X106 hx (t := .char) Bd.returns (by simp) (hb hby d11_24) hr), hrun, hended, _, _, rfl, ?_, ⟨_, rfl⟩, hW, hsame.mono (by decide) (by decide)⟩
 show Q11_1 Z a1 p2 bv kv z vs b0 b1 cc cs1 fm h0 n0 _ T106.heap _
 rw [q106_hh]
 exact ⟨by rw [← hc]; exact congrArg (fun q => some (Value.int q)) (own_nar2 _), N106, rfl⟩
theorem d6_0 : decode jdk_52_method_21_code 0 = .ok (.iconst 0, 1) := by decide +kernel
theorem d6_1 : decode jdk_52_method_21_code 1 = .ok (.istore 5, 2) := by decide +kernel
theorem d6_3 : decode jdk_52_method_21_code 3 = .ok (.iload 5, 2) := by decide +kernel
theorem d6_5 : decode jdk_52_method_21_code 5 = .ok (.iload 4, 2) := by decide +kernel
theorem d6_7 : decode jdk_52_method_21_code 7 = .ok (.if_icmp .ge 37, 3) := by decide +kernel
theorem d6_10 : decode jdk_52_method_21_code 10 = .ok (.aload_n 0, 1) := by decide +kernel
theorem d6_11 : decode jdk_52_method_21_code 11 = .ok (.iload_n 1, 1) := by decide +kernel
theorem d6_12 : decode jdk_52_method_21_code 12 = .ok (.caload, 1) := by decide +kernel
theorem d6_13 : decode jdk_52_method_21_code 13 = .ok (.istore 6, 2) := by decide +kernel
theorem d6_15 : decode jdk_52_method_21_code 15 = .ok (.iload 6, 2) := by decide +kernel
theorem d6_17 : decode jdk_52_method_21_code 17 = .ok (.sipush 255, 3) := by decide +kernel
theorem d6_20 : decode jdk_52_method_21_code 20 = .ok (.if_icmp .le 6, 3) := by decide +kernel
theorem d6_26 : decode jdk_52_method_21_code 26 = .ok (.aload_n 2, 1) := by decide +kernel
theorem d6_27 : decode jdk_52_method_21_code 27 = .ok (.iload_n 3, 1) := by decide +kernel
theorem d6_28 : decode jdk_52_method_21_code 28 = .ok (.iload 6, 2) := by decide +kernel
theorem d6_30 : decode jdk_52_method_21_code 30 = .ok (.i2b, 1) := by decide +kernel
theorem d6_31 : decode jdk_52_method_21_code 31 = .ok (.bastore, 1) := by decide +kernel
theorem d6_32 : decode jdk_52_method_21_code 32 = .ok (.iinc 1 1, 3) := by decide +kernel
theorem d6_35 : decode jdk_52_method_21_code 35 = .ok (.iinc 3 1, 3) := by decide +kernel
theorem d6_38 : decode jdk_52_method_21_code 38 = .ok (.iinc 5 1, 3) := by decide +kernel
theorem d6_41 : decode jdk_52_method_21_code 41 = .ok (.goto (-38), 3) := by decide +kernel
theorem d6_44 : decode jdk_52_method_21_code 44 = .ok (.iload 4, 2) := by decide +kernel
theorem d6_46 : decode jdk_52_method_21_code 46 = .ok (.ireturn, 1) := by decide +kernel
theorem pn6 : plainFor (⟨"java/lang/StringUTF16", "compress", "([CI[BII)I"⟩ : MethodName) = true := plainFor_of_name (by first | (simp [plainName, overriddenIn]; done) | decide +kernel)
theorem ef_rm6_L4 (m : MethodId) (a1 : Addr) (a3 : Addr) (k1 : ClassId) (k3 : ClassId) (c0 : Int32) (c1 : Int32) (c2 : Int32) (c3 : Int32) : entryFrame m #[(.ref a1), (.int (0 : Int32)), (.ref a3), (.int (0 : Int32)), (.int (4 : Int32))] 7 = mkF m 0 #[.val (.ref a1), .val (.int (0 : Int32)), .val (.ref a3), .val (.int (0 : Int32)), .val (.int (4 : Int32)), .unset, .unset] [] := by first | (simp [entryFrame, mkF, argsToLocals, Value.category]; done) | rfl
def Q6_L4 (Z : State) (a1 : Addr) (a3 : Addr) (k1 : ClassId) (k3 : ClassId) (c0 : Int32) (c1 : Int32) (c2 : Int32) (c3 : Int32) (h0 : Heap) (n0 : Nat) (v : Option Value) (h : Heap) (L : List Loc) : Prop := v = some (.int (4 : Int32)) ∧ Fr n0 L ∧ (Keep h0 h [a3]) ∧ (Arv Z h a3 k3 .byte (4 : Int32) [(.int (own_xl c0)), (.int (own_xl c1)), (.int (own_xl c2)), (.int (own_xl c3))] (.int (0 : Int32)))
set_option maxRecDepth 65536 in
set_option maxHeartbeats 40000000 in
theorem rm6_L4 (l : Launch) (Z : State) (a0 : Array Value) (hw : ∀ d ∈ tables_1, d.before a0 Z = true) (ws : List Jvm.Cond) (a1 : Addr) (a3 : Addr) (k1 : ClassId) (k3 : ClassId) (c0 : Int32) (c1 : Int32) (c2 : Int32) (c3 : Int32) (h0 : Heap) (n0 : Nat) (Z0 : n0 ≤ h0.size) (V1 : Arv Z h0 a1 k1 .char (4 : Int32) [(.int c0), (.int c1), (.int c2), (.int c3)] (.int (0 : Int32))) (V3 : Arv Z h0 a3 k3 .byte (4 : Int32) [(.int (0 : Int32)), (.int (0 : Int32)), (.int (0 : Int32)), (.int (0 : Int32))] (.int (0 : Int32))) (ne : a1 ≠ a3) (g3 : n0 ≤ a3) (l0 : ¬ ((255 : Int32) < c0)) (l1 : ¬ ((255 : Int32) < c1)) (l2 : ¬ ((255 : Int32) < c2)) (l3 : ¬ ((255 : Int32) < c3)) :
  MetFree l (⟨"java/lang/StringUTF16", "compress", "([CI[BII)I"⟩ : MethodName) (head1 (Jvm.Cond.code (⟨"java/lang/StringUTF16", "compress", "([CI[BII)I"⟩ : MethodName) jdk_52_method_21_code 7 (some .int) :: ws) ({ frames := 0, cells := 0, slots := 0, locals := 0 } : Room)) (fun a U => a = #[(.ref a1), (.int (0 : Int32)), (.ref a3), (.int (0 : Int32)), (.int (4 : Int32))] ∧ Z.Warmed39 U.vm ∧ U.heap = h0) (fun _ _ _ _ _ => True) (fun _ U o U' => ∃ v L, o = .returned v ∧ Q6_L4 Z a1 a3 k1 k3 c0 c1 c2 c3 h0 n0 v U'.heap L ∧ FrameEnd U o U' L ({ frames := 0, cells := 0, slots := 0, locals := 0 } : Room).cells ({ frames := 0, cells := 0, slots := 0, locals := 0 } : Room).slots) := by
 refine MetFree.of_bodySF pn6 hisR ?_
 intro p e s m args below meth c s₁ Bd hml0 hP hK
 obtain ⟨rfl, hZ, hh⟩ := hP
 have hx := Bd.exec
 have hby := Bd.bytes
 have hml : c.maxLocals = 7 := hml0
 have hown : s.vm.findClass "java/lang/StringUTF16" = some m.cls := findClass_of_methodNamed Bd.named
 have hnm := (name_of_methodNamed Bd.named Bd.method).1
 have X0 : Stand p l e ({ frames := 0, cells := 0, slots := 0, locals := 0 } : Room) s m #[(.ref a1), (.int (0 : Int32)), (.ref a3), (.int (0 : Int32)), (.int (4 : Int32))] below meth c s₁ [] 0 0 := Stand.of_body Bd
 have e0 : s₁.heap = h0 := by rw [← hh, Bd.state]; rfl
 have N0 := Fr.nil n0
 have p0 : Go p.tables e below (s₁.setTop (entryFrame m #[(.ref a1), (.int (0 : Int32)), (.ref a3), (.int (0 : Int32)), (.int (4 : Int32))] 7)) (s₁.setTop (mkF m 0 #[.val (.ref a1), .val (.int (0 : Int32)), .val (.ref a3), .val (.int (0 : Int32)), .val (.int (4 : Int32)), .unset, .unset] [])) := fun t_ k_ => castTop (ef_rm6_L4 m a1 a3 k1 k3 c0 c1 c2 c3) k_
 have p101 : Go p.tables e below _ (s₁.setTop (mkF m 12 #[.val (.ref a1), .val (.int (0 : Int32)), .val (.ref a3), .val (.int (0 : Int32)), .val (.int (4 : Int32)), .val (.int (0 : Int32)), .unset] [(.int (0 : Int32)), (.ref a1)])) := fun t_ k_ => p0 t_ (by
  refine XS.iconst X0.here hx rfl (hb hby d6_0) ?_
  refine XS.istore X0.here hx rfl (hb hby d6_1) rfl (l' := #[.val (.ref a1), .val (.int (0 : Int32)), .val (.ref a3), .val (.int (0 : Int32)), .val (.int (4 : Int32)), .val (.int (0 : Int32)), .unset]) rfl ?_
  refine XS.iload X0.here hx rfl (hb hby d6_3) rfl ?_
  refine XS.iload X0.here hx rfl (hb hby d6_5) rfl ?_
  refine XS.icmpNo X0.here hx rfl (hb hby d6_7) rfl (tlt (by decide : ((0 : Int32) < (4 : Int32)))).2.1 ?_
  refine XS.aloadN X0.here hx rfl (hb hby d6_10) rfl rfl ?_
  refine XS.iloadN X0.here hx rfl (hb hby d6_11) rfl ?_
  exact k_)
 obtain ⟨cl102, Ar102, q102, S102, Ng102, H102, G102⟩ := id V1
 have hin102 := inb_of S102 (j := (0 : Int32)) ⟨by decide, by decide⟩
 have hat102 := H102.at (v := (.int c0)) hin102 rfl
 have p103 : Go p.tables e below _ (s₁.setTop (mkF m 20 #[.val (.ref a1), .val (.int (0 : Int32)), .val (.ref a3), .val (.int (0 : Int32)), .val (.int (4 : Int32)), .val (.int (0 : Int32)), .val (.int c0)] [(.int (255 : Int32)), (.int c0)])) := fun t_ k_ => p101 t_ (by
  refine X0.caload hx (j := (0 : Int32)) (v := (.int c0)) (by rw [e0]; exact Ar102.1) (State.isArrayOf_alike hZ.alike Ar102.2.1) Ar102.2.2 hin102 hat102 (g := (mkF m 12 #[.val (.ref a1), .val (.int (0 : Int32)), .val (.ref a3), .val (.int (0 : Int32)), .val (.int (4 : Int32)), .val (.int (0 : Int32)), .unset] [(.int (0 : Int32)), (.ref a1)])) rfl rfl (hb hby d6_12) _ ?_
  refine XS.istore X0.here hx rfl (hb hby d6_13) rfl (l' := #[.val (.ref a1), .val (.int (0 : Int32)), .val (.ref a3), .val (.int (0 : Int32)), .val (.int (4 : Int32)), .val (.int (0 : Int32)), .val (.int c0)]) rfl ?_
  refine XS.iload X0.here hx rfl (hb hby d6_15) rfl ?_
  refine XS.sipush X0.here hx rfl (hb hby d6_17) ?_
  exact k_)
 have c104 : ¬ ((255 : Int32) < c0) := l0
 have p105 : Go p.tables e below _ (s₁.setTop (mkF m 31 #[.val (.ref a1), .val (.int (0 : Int32)), .val (.ref a3), .val (.int (0 : Int32)), .val (.int (4 : Int32)), .val (.int (0 : Int32)), .val (.int c0)] [(.int (c0.toInt8.toInt32)), (.int (0 : Int32)), (.ref a3)])) := fun t_ k_ => p103 t_ (by
  refine XS.icmpYes X0.here hx rfl (pc0 := 20) (pc' := 26) rfl (hb hby d6_20) rfl (flt c104).2.2.2 (by decide) (by decide) ?_
  refine XS.aloadN X0.here hx rfl (hb hby d6_26) rfl rfl ?_
  refine XS.iloadN X0.here hx rfl (hb hby d6_27) rfl ?_
  refine XS.iload X0.here hx rfl (hb hby d6_28) rfl ?_
  refine XS.i2b X0.here hx rfl (hb hby d6_30) rfl ?_
  exact k_)
 obtain ⟨cl106, Ar106, q106, S106, Ng106, H106, G106⟩ := id V3
 have hin106 := inb_of S106 (j := (0 : Int32)) ⟨by decide, by decide⟩
 obtain ⟨T106, h106, X106, e106, W106, st106⟩ := stB X0 hx hZ e0 Ar106 (j := (0 : Int32)) hin106 (g := (mkF m 31 #[.val (.ref a1), .val (.int (0 : Int32)), .val (.ref a3), .val (.int (0 : Int32)), .val (.int (4 : Int32)), .val (.int (0 : Int32)), .val (.int c0)] [(.int (c0.toInt8.toInt32)), (.int (0 : Int32)), (.ref a3)])) rfl rfl (hb hby d6_31)
 have K107 : Keep h0 h106 [a3] := (Keep.refl h0 [a3]).wr W106 (Or.inl (List.mem_of_getElem? (i := 0) rfl))
 have N106 := Fr.snoc X106 N0 g3
 have V106 : Arv Z h106 a3 k3 .byte (4 : Int32) [(.int (own_xl c0)), (.int (0 : Int32)), (.int (0 : Int32)), (.int (0 : Int32))] (.int (0 : Int32)) := Arv.set Ar106 q106 S106 Ng106 H106 G106 (fits_nar_byte _) W106 0 rfl (Nat.le_of_ble_eq_true rfl)
 have p108 : Go p.tables e below _ (T106.setTop (mkF m 12 #[.val (.ref a1), .val (.int (1 : Int32)), .val (.ref a3), .val (.int (1 : Int32)), .val (.int (4 : Int32)), .val (.int (1 : Int32)), .val (.int c0)] [(.int (1 : Int32)), (.ref a1)])) := fun t_ k_ => (gc p105 st106) t_ (by
  refine XS.iinc X106.here hx rfl (hb hby d6_32) rfl (l' := #[.val (.ref a1), .val (.int (1 : Int32)), .val (.ref a3), .val (.int (0 : Int32)), .val (.int (4 : Int32)), .val (.int (0 : Int32)), .val (.int c0)]) rfl ?_
  refine XS.iinc X106.here hx rfl (hb hby d6_35) rfl (l' := #[.val (.ref a1), .val (.int (1 : Int32)), .val (.ref a3), .val (.int (1 : Int32)), .val (.int (4 : Int32)), .val (.int (0 : Int32)), .val (.int c0)]) rfl ?_
  refine XS.iinc X106.here hx rfl (hb hby d6_38) rfl (l' := #[.val (.ref a1), .val (.int (1 : Int32)), .val (.ref a3), .val (.int (1 : Int32)), .val (.int (4 : Int32)), .val (.int (1 : Int32)), .val (.int c0)]) rfl ?_
  refine XS.goto X106.here hx rfl (pc0 := 41) (pc' := 3) rfl (hb hby d6_41) (by decide) (by decide) ?_
  refine XS.iload X106.here hx rfl (hb hby d6_3) rfl ?_
  refine XS.iload X106.here hx rfl (hb hby d6_5) rfl ?_
  refine XS.icmpNo X106.here hx rfl (hb hby d6_7) rfl (tlt (by decide : ((1 : Int32) < (4 : Int32)))).2.1 ?_
  refine XS.aloadN X106.here hx rfl (hb hby d6_10) rfl rfl ?_
  refine XS.iloadN X106.here hx rfl (hb hby d6_11) rfl ?_
  exact k_)
 have f110 := (V1.other W106 ne)
 obtain ⟨cl109, Ar109, q109, S109, Ng109, H109, G109⟩ := id f110
 have hin109 := inb_of S109 (j := (1 : Int32)) ⟨by decide, by decide⟩
 have hat109 := H109.at (v := (.int c1)) hin109 rfl
 have p111 : Go p.tables e below _ (T106.setTop (mkF m 20 #[.val (.ref a1), .val (.int (1 : Int32)), .val (.ref a3), .val (.int (1 : Int32)), .val (.int (4 : Int32)), .val (.int (1 : Int32)), .val (.int c1)] [(.int (255 : Int32)), (.int c1)])) := fun t_ k_ => p108 t_ (by
  refine X106.caload hx (j := (1 : Int32)) (v := (.int c1)) (by rw [e106]; exact Ar109.1) (State.isArrayOf_alike hZ.alike Ar109.2.1) Ar109.2.2 hin109 hat109 (g := (mkF m 12 #[.val (.ref a1), .val (.int (1 : Int32)), .val (.ref a3), .val (.int (1 : Int32)), .val (.int (4 : Int32)), .val (.int (1 : Int32)), .val (.int c0)] [(.int (1 : Int32)), (.ref a1)])) rfl rfl (hb hby d6_12) _ ?_
  refine XS.istore X106.here hx rfl (hb hby d6_13) rfl (l' := #[.val (.ref a1), .val (.int (1 : Int32)), .val (.ref a3), .val (.int (1 : Int32)), .val (.int (4 : Int32)), .val (.int (1 : Int32)), .val (.int c1)]) rfl ?_
  refine XS.iload X106.here hx rfl (hb hby d6_15) rfl ?_
  refine XS.sipush X106.here hx rfl (hb hby d6_17) ?_
  exact k_)
 have c112 : ¬ ((255 : Int32) < c1) := l1
 have p113 : Go p.tables e below _ (T106.setTop (mkF m 31 #[.val (.ref a1), .val (.int (1 : Int32)), .val (.ref a3), .val (.int (1 : Int32)), .val (.int (4 : Int32)), .val (.int (1 : Int32)), .val (.int c1)] [(.int (c1.toInt8.toInt32)), (.int (1 : Int32)), (.ref a3)])) := fun t_ k_ => p111 t_ (by
  refine XS.icmpYes X106.here hx rfl (pc0 := 20) (pc' := 26) rfl (hb hby d6_20) rfl (flt c112).2.2.2 (by decide) (by decide) ?_
  refine XS.aloadN X106.here hx rfl (hb hby d6_26) rfl rfl ?_
  refine XS.iloadN X106.here hx rfl (hb hby d6_27) rfl ?_
  refine XS.iload X106.here hx rfl (hb hby d6_28) rfl ?_
  refine XS.i2b X106.here hx rfl (hb hby d6_30) rfl ?_
  exact k_)
 obtain ⟨cl114, Ar114, q114, S114, Ng114, H114, G114⟩ := id V106
 have hin114 := inb_of S114 (j := (1 : Int32)) ⟨by decide, by decide⟩
 obtain ⟨T114, h114, X114, e114, W114, st114⟩ := stB X106 hx hZ e106 Ar114 (j := (1 : Int32)) hin114 (g := (mkF m 31 #[.val (.ref a1), .val (.int (1 : Int32)), .val (.ref a3), .val (.int (1 : Int32)), .val (.int (4 : Int32)), .val (.int (1 : Int32)), .val (.int c1)] [(.int (c1.toInt8.toInt32)), (.int (1 : Int32)), (.ref a3)])) rfl rfl (hb hby d6_31)
 have K115 : Keep h0 h114 [a3] := K107.wr W114 (Or.inl (List.mem_of_getElem? (i := 0) rfl))
 have N114 := Fr.snoc X114 N106 g3
 have V114 : Arv Z h114 a3 k3 .byte (4 : Int32) [(.int (own_xl c0)), (.int (own_xl c1)), (.int (0 : Int32)), (.int (0 : Int32))] (.int (0 : Int32)) := Arv.set Ar114 q114 S114 Ng114 H114 G114 (fits_nar_byte _) W114 1 rfl (Nat.le_of_ble_eq_true rfl)
 have p116 : Go p.tables e below _ (T114.setTop (mkF m 12 #[.val (.ref a1), .val (.int (2 : Int32)), .val (.ref a3), .val (.int (2 : Int32)), .val (.int (4 : Int32)), .val (.int (2 : Int32)), .val (.int c1)] [(.int (2 : Int32)), (.ref a1)])) := fun t_ k_ => (gc p113 st114) t_ (by
  refine XS.iinc X114.here hx rfl (hb hby d6_32) rfl (l' := #[.val (.ref a1), .val (.int (2 : Int32)), .val (.ref a3), .val (.int (1 : Int32)), .val (.int (4 : Int32)), .val (.int (1 : Int32)), .val (.int c1)]) rfl ?_
  refine XS.iinc X114.here hx rfl (hb hby d6_35) rfl (l' := #[.val (.ref a1), .val (.int (2 : Int32)), .val (.ref a3), .val (.int (2 : Int32)), .val (.int (4 : Int32)), .val (.int (1 : Int32)), .val (.int c1)]) rfl ?_
  refine XS.iinc X114.here hx rfl (hb hby d6_38) rfl (l' := #[.val (.ref a1), .val (.int (2 : Int32)), .val (.ref a3), .val (.int (2 : Int32)), .val (.int (4 : Int32)), .val (.int (2 : Int32)), .val (.int c1)]) rfl ?_
  refine XS.goto X114.here hx rfl (pc0 := 41) (pc' := 3) rfl (hb hby d6_41) (by decide) (by decide) ?_
  refine XS.iload X114.here hx rfl (hb hby d6_3) rfl ?_
  refine XS.iload X114.here hx rfl (hb hby d6_5) rfl ?_
  refine XS.icmpNo X114.here hx rfl (hb hby d6_7) rfl (tlt (by decide : ((2 : Int32) < (4 : Int32)))).2.1 ?_
  refine XS.aloadN X114.here hx rfl (hb hby d6_10) rfl rfl ?_
  refine XS.iloadN X114.here hx rfl (hb hby d6_11) rfl ?_
  exact k_)
 have f118 := (f110.other W114 ne)
 obtain ⟨cl117, Ar117, q117, S117, Ng117, H117, G117⟩ := id f118
 have hin117 := inb_of S117 (j := (2 : Int32)) ⟨by decide, by decide⟩
 have hat117 := H117.at (v := (.int c2)) hin117 rfl
 have p119 : Go p.tables e below _ (T114.setTop (mkF m 20 #[.val (.ref a1), .val (.int (2 : Int32)), .val (.ref a3), .val (.int (2 : Int32)), .val (.int (4 : Int32)), .val (.int (2 : Int32)), .val (.int c2)] [(.int (255 : Int32)), (.int c2)])) := fun t_ k_ => p116 t_ (by
  refine X114.caload hx (j := (2 : Int32)) (v := (.int c2)) (by rw [e114]; exact Ar117.1) (State.isArrayOf_alike hZ.alike Ar117.2.1) Ar117.2.2 hin117 hat117 (g := (mkF m 12 #[.val (.ref a1), .val (.int (2 : Int32)), .val (.ref a3), .val (.int (2 : Int32)), .val (.int (4 : Int32)), .val (.int (2 : Int32)), .val (.int c1)] [(.int (2 : Int32)), (.ref a1)])) rfl rfl (hb hby d6_12) _ ?_
  refine XS.istore X114.here hx rfl (hb hby d6_13) rfl (l' := #[.val (.ref a1), .val (.int (2 : Int32)), .val (.ref a3), .val (.int (2 : Int32)), .val (.int (4 : Int32)), .val (.int (2 : Int32)), .val (.int c2)]) rfl ?_
  refine XS.iload X114.here hx rfl (hb hby d6_15) rfl ?_
  refine XS.sipush X114.here hx rfl (hb hby d6_17) ?_
  exact k_)
 have c120 : ¬ ((255 : Int32) < c2) := l2
 have p121 : Go p.tables e below _ (T114.setTop (mkF m 31 #[.val (.ref a1), .val (.int (2 : Int32)), .val (.ref a3), .val (.int (2 : Int32)), .val (.int (4 : Int32)), .val (.int (2 : Int32)), .val (.int c2)] [(.int (c2.toInt8.toInt32)), (.int (2 : Int32)), (.ref a3)])) := fun t_ k_ => p119 t_ (by
  refine XS.icmpYes X114.here hx rfl (pc0 := 20) (pc' := 26) rfl (hb hby d6_20) rfl (flt c120).2.2.2 (by decide) (by decide) ?_
  refine XS.aloadN X114.here hx rfl (hb hby d6_26) rfl rfl ?_
  refine XS.iloadN X114.here hx rfl (hb hby d6_27) rfl ?_
  refine XS.iload X114.here hx rfl (hb hby d6_28) rfl ?_
  refine XS.i2b X114.here hx rfl (hb hby d6_30) rfl ?_
  exact k_)
 obtain ⟨cl122, Ar122, q122, S122, Ng122, H122, G122⟩ := id V114
 have hin122 := inb_of S122 (j := (2 : Int32)) ⟨by decide, by decide⟩
 obtain ⟨T122, h122, X122, e122, W122, st122⟩ := stB X114 hx hZ e114 Ar122 (j := (2 : Int32)) hin122 (g := (mkF m 31 #[.val (.ref a1), .val (.int (2 : Int32)), .val (.ref a3), .val (.int (2 : Int32)), .val (.int (4 : Int32)), .val (.int (2 : Int32)), .val (.int c2)] [(.int (c2.toInt8.toInt32)), (.int (2 : Int32)), (.ref a3)])) rfl rfl (hb hby d6_31)
 have K123 : Keep h0 h122 [a3] := K115.wr W122 (Or.inl (List.mem_of_getElem? (i := 0) rfl))
 have N122 := Fr.snoc X122 N114 g3
 have V122 : Arv Z h122 a3 k3 .byte (4 : Int32) [(.int (own_xl c0)), (.int (own_xl c1)), (.int (own_xl c2)), (.int (0 : Int32))] (.int (0 : Int32)) := Arv.set Ar122 q122 S122 Ng122 H122 G122 (fits_nar_byte _) W122 2 rfl (Nat.le_of_ble_eq_true rfl)
 have p124 : Go p.tables e below _ (T122.setTop (mkF m 12 #[.val (.ref a1), .val (.int (3 : Int32)), .val (.ref a3), .val (.int (3 : Int32)), .val (.int (4 : Int32)), .val (.int (3 : Int32)), .val (.int c2)] [(.int (3 : Int32)), (.ref a1)])) := fun t_ k_ => (gc p121 st122) t_ (by
  refine XS.iinc X122.here hx rfl (hb hby d6_32) rfl (l' := #[.val (.ref a1), .val (.int (3 : Int32)), .val (.ref a3), .val (.int (2 : Int32)), .val (.int (4 : Int32)), .val (.int (2 : Int32)), .val (.int c2)]) rfl ?_
  refine XS.iinc X122.here hx rfl (hb hby d6_35) rfl (l' := #[.val (.ref a1), .val (.int (3 : Int32)), .val (.ref a3), .val (.int (3 : Int32)), .val (.int (4 : Int32)), .val (.int (2 : Int32)), .val (.int c2)]) rfl ?_
  refine XS.iinc X122.here hx rfl (hb hby d6_38) rfl (l' := #[.val (.ref a1), .val (.int (3 : Int32)), .val (.ref a3), .val (.int (3 : Int32)), .val (.int (4 : Int32)), .val (.int (3 : Int32)), .val (.int c2)]) rfl ?_
  refine XS.goto X122.here hx rfl (pc0 := 41) (pc' := 3) rfl (hb hby d6_41) (by decide) (by decide) ?_
  refine XS.iload X122.here hx rfl (hb hby d6_3) rfl ?_
  refine XS.iload X122.here hx rfl (hb hby d6_5) rfl ?_
  refine XS.icmpNo X122.here hx rfl (hb hby d6_7) rfl (tlt (by decide : ((3 : Int32) < (4 : Int32)))).2.1 ?_
  refine XS.aloadN X122.here hx rfl (hb hby d6_10) rfl rfl ?_
  refine XS.iloadN X122.here hx rfl (hb hby d6_11) rfl ?_
  exact k_)
 have f126 := (f118.other W122 ne)
 obtain ⟨cl125, Ar125, q125, S125, Ng125, H125, G125⟩ := id f126
 have hin125 := inb_of S125 (j := (3 : Int32)) ⟨by decide, by decide⟩
 have hat125 := H125.at (v := (.int c3)) hin125 rfl
 have p127 : Go p.tables e below _ (T122.setTop (mkF m 20 #[.val (.ref a1), .val (.int (3 : Int32)), .val (.ref a3), .val (.int (3 : Int32)), .val (.int (4 : Int32)), .val (.int (3 : Int32)), .val (.int c3)] [(.int (255 : Int32)), (.int c3)])) := fun t_ k_ => p124 t_ (by
  refine X122.caload hx (j := (3 : Int32)) (v := (.int c3)) (by rw [e122]; exact Ar125.1) (State.isArrayOf_alike hZ.alike Ar125.2.1) Ar125.2.2 hin125 hat125 (g := (mkF m 12 #[.val (.ref a1), .val (.int (3 : Int32)), .val (.ref a3), .val (.int (3 : Int32)), .val (.int (4 : Int32)), .val (.int (3 : Int32)), .val (.int c2)] [(.int (3 : Int32)), (.ref a1)])) rfl rfl (hb hby d6_12) _ ?_
  refine XS.istore X122.here hx rfl (hb hby d6_13) rfl (l' := #[.val (.ref a1), .val (.int (3 : Int32)), .val (.ref a3), .val (.int (3 : Int32)), .val (.int (4 : Int32)), .val (.int (3 : Int32)), .val (.int c3)]) rfl ?_
  refine XS.iload X122.here hx rfl (hb hby d6_15) rfl ?_
  refine XS.sipush X122.here hx rfl (hb hby d6_17) ?_
  exact k_)
 have c128 : ¬ ((255 : Int32) < c3) := l3
 have p129 : Go p.tables e below _ (T122.setTop (mkF m 31 #[.val (.ref a1), .val (.int (3 : Int32)), .val (.ref a3), .val (.int (3 : Int32)), .val (.int (4 : Int32)), .val (.int (3 : Int32)), .val (.int c3)] [(.int (c3.toInt8.toInt32)), (.int (3 : Int32)), (.ref a3)])) := fun t_ k_ => p127 t_ (by
  refine XS.icmpYes X122.here hx rfl (pc0 := 20) (pc' := 26) rfl (hb hby d6_20) rfl (flt c128).2.2.2 (by decide) (by decide) ?_
  refine XS.aloadN X122.here hx rfl (hb hby d6_26) rfl rfl ?_
  refine XS.iloadN X122.here hx rfl (hb hby d6_27) rfl ?_
  refine XS.iload X122.here hx rfl (hb hby d6_28) rfl ?_
  refine XS.i2b X122.here hx rfl (hb hby d6_30) rfl ?_
  exact k_)
 obtain ⟨cl130, Ar130, q130, S130, Ng130, H130, G130⟩ := id V122
 have hin130 := inb_of S130 (j := (3 : Int32)) ⟨by decide, by decide⟩
 obtain ⟨T130, h130, X130, e130, W130, st130⟩ := stB X122 hx hZ e122 Ar130 (j := (3 : Int32)) hin130 (g := (mkF m 31 #[.val (.ref a1), .val (.int (3 : Int32)), .val (.ref a3), .val (.int (3 : Int32)), .val (.int (4 : Int32)), .val (.int (3 : Int32)), .val (.int c3)] [(.int (c3.toInt8.toInt32)), (.int (3 : Int32)), (.ref a3)])) rfl rfl (hb hby d6_31)
 have K131 : Keep h0 h130 [a3] := K123.wr W130 (Or.inl (List.mem_of_getElem? (i := 0) rfl))
 have N130 := Fr.snoc X130 N122 g3
 have V130 : Arv Z h130 a3 k3 .byte (4 : Int32) [(.int (own_xl c0)), (.int (own_xl c1)), (.int (own_xl c2)), (.int (own_xl c3))] (.int (0 : Int32)) := Arv.set Ar130 q130 S130 Ng130 H130 G130 (fits_nar_byte _) W130 3 rfl (Nat.le_of_ble_eq_true rfl)
 have p132 : Go p.tables e below _ (T130.setTop (mkF m 46 #[.val (.ref a1), .val (.int (4 : Int32)), .val (.ref a3), .val (.int (4 : Int32)), .val (.int (4 : Int32)), .val (.int (4 : Int32)), .val (.int c3)] [(.int (4 : Int32))])) := fun t_ k_ => (gc p129 st130) t_ (by
  refine XS.iinc X130.here hx rfl (hb hby d6_32) rfl (l' := #[.val (.ref a1), .val (.int (4 : Int32)), .val (.ref a3), .val (.int (3 : Int32)), .val (.int (4 : Int32)), .val (.int (3 : Int32)), .val (.int c3)]) rfl ?_
  refine XS.iinc X130.here hx rfl (hb hby d6_35) rfl (l' := #[.val (.ref a1), .val (.int (4 : Int32)), .val (.ref a3), .val (.int (4 : Int32)), .val (.int (4 : Int32)), .val (.int (3 : Int32)), .val (.int c3)]) rfl ?_
  refine XS.iinc X130.here hx rfl (hb hby d6_38) rfl (l' := #[.val (.ref a1), .val (.int (4 : Int32)), .val (.ref a3), .val (.int (4 : Int32)), .val (.int (4 : Int32)), .val (.int (4 : Int32)), .val (.int c3)]) rfl ?_
  refine XS.goto X130.here hx rfl (pc0 := 41) (pc' := 3) rfl (hb hby d6_41) (by decide) (by decide) ?_
  refine XS.iload X130.here hx rfl (hb hby d6_3) rfl ?_
  refine XS.iload X130.here hx rfl (hb hby d6_5) rfl ?_
  refine XS.icmpYes X130.here hx rfl (pc0 := 7) (pc' := 44) rfl (hb hby d6_7) rfl (flt (by decide : ¬ ((4 : Int32) < (4 : Int32)))).2.1 (by decide) (by decide) ?_
  refine XS.iload X130.here hx rfl (hb hby d6_44) rfl ?_
  exact k_)
 obtain ⟨fs, hr, hrun, hended, hW, hsame⟩ := X130.leave (v := some (.int (4 : Int32))) (fun h => by rw [Bd.returns] at h; cases h)
 refine ⟨_, _, p132 _ (retI X130 hx Bd.returns (hb hby d6_46) hr), hrun, hended, _, _, rfl, ?_, ⟨_, rfl⟩, hW, hsame.mono (by decide) (by decide)⟩
 show Q6_L4 Z a1 a3 k1 k3 c0 c1 c2 c3 h0 n0 _ T130.heap _
 rw [e130]
 exact ⟨rfl, N130, K131, V130⟩
theorem d5_0 : decode jdk_52_method_16_code 0 = .ok (.iload_n 2, 1) := by decide +kernel
theorem d5_1 : decode jdk_52_method_16_code 1 = .ok (.newarray .byte, 2) := by decide +kernel
theorem d5_3 : decode jdk_52_method_16_code 3 = .ok (.astore_n 3, 1) := by decide +kernel
theorem d5_4 : decode jdk_52_method_16_code 4 = .ok (.aload_n 0, 1) := by decide +kernel
theorem d5_5 : decode jdk_52_method_16_code 5 = .ok (.iload_n 1, 1) := by decide +kernel
theorem d5_6 : decode jdk_52_method_16_code 6 = .ok (.aload_n 3, 1) := by decide +kernel
theorem d5_7 : decode jdk_52_method_16_code 7 = .ok (.iconst 0, 1) := by decide +kernel
theorem d5_8 : decode jdk_52_method_16_code 8 = .ok (.iload_n 2, 1) := by decide +kernel
theorem d5_9 : decode jdk_52_method_16_code 9 = .ok (.invokestatic 115, 3) := by decide +kernel
theorem d5_12 : decode jdk_52_method_16_code 12 = .ok (.istore 4, 2) := by decide +kernel
theorem d5_14 : decode jdk_52_method_16_code 14 = .ok (.iload 4, 2) := by decide +kernel
theorem d5_16 : decode jdk_52_method_16_code 16 = .ok (.iload_n 2, 1) := by decide +kernel
theorem d5_17 : decode jdk_52_method_16_code 17 = .ok (.if_icmp .eq 40, 3) := by decide +kernel
theorem d5_57 : decode jdk_52_method_16_code 57 = .ok (.aload_n 3, 1) := by decide +kernel
theorem d5_58 : decode jdk_52_method_16_code 58 = .ok (.areturn, 1) := by decide +kernel
theorem pd7 : parseMethodDescriptor "([CI[BII)I" = some ⟨[(.array .char), .int, (.array .byte), .int, .int], some .int⟩ := by decide +kernel
theorem pn5 : plainFor (⟨"java/lang/StringUTF16", "compress", "([CII)[B"⟩ : MethodName) = true := plainFor_of_name (by first | (simp [plainName, overriddenIn]; done) | decide +kernel)
theorem ef_rm5_L4 (m : MethodId) (a1 : Addr) (k1 : ClassId) (c0 : Int32) (c1 : Int32) (c2 : Int32) (c3 : Int32) : entryFrame m #[(.ref a1), (.int (0 : Int32)), (.int (4 : Int32))] 6 = mkF m 0 #[.val (.ref a1), .val (.int (0 : Int32)), .val (.int (4 : Int32)), .unset, .unset, .unset] [] := by first | (simp [entryFrame, mkF, argsToLocals, Value.category]; done) | rfl
def Q5_L4 (Z : State) (a1 : Addr) (k1 : ClassId) (c0 : Int32) (c1 : Int32) (c2 : Int32) (c3 : Int32) (h0 : Heap) (n0 : Nat) (v : Option Value) (h : Heap) (L : List Loc) : Prop := ∃ (b : Addr) (kb : ClassId), v = some (.ref b) ∧ Fr n0 L ∧ (Keep h0 h []) ∧ (n0 ≤ b) ∧ (h0.size ≤ b) ∧ (Arv Z h b kb .byte (4 : Int32) [(.int (own_xl c0)), (.int (own_xl c1)), (.int (own_xl c2)), (.int (own_xl c3))] (.int (0 : Int32)))
set_option maxRecDepth 65536 in
set_option maxHeartbeats 40000000 in
theorem rm5_L4 (l : Launch) (Z : State) (a0 : Array Value) (hw : ∀ d ∈ tables_1, d.before a0 Z = true) (ws : List Jvm.Cond) (a1 : Addr) (k1 : ClassId) (c0 : Int32) (c1 : Int32) (c2 : Int32) (c3 : Int32) (h0 : Heap) (n0 : Nat) (Z0 : n0 ≤ h0.size) (V1 : Arv Z h0 a1 k1 .char (4 : Int32) [(.int c0), (.int c1), (.int c2), (.int c3)] (.int (0 : Int32))) (l0 : ¬ ((255 : Int32) < c0)) (l1 : ¬ ((255 : Int32) < c1)) (l2 : ¬ ((255 : Int32) < c2)) (l3 : ¬ ((255 : Int32) < c3)) :
  MetFree l (⟨"java/lang/StringUTF16", "compress", "([CII)[B"⟩ : MethodName) (head1 (Jvm.Cond.code (⟨"java/lang/StringUTF16", "compress", "([CII)[B"⟩ : MethodName) jdk_52_method_16_code 6 (some (.array .byte)) :: ws) ({ frames := 1, cells := 1, slots := 4, locals := 18 } : Room)) (fun a U => a = #[(.ref a1), (.int (0 : Int32)), (.int (4 : Int32))] ∧ Z.Warmed39 U.vm ∧ U.heap = h0) (fun _ _ _ _ _ => True) (fun _ U o U' => ∃ v L, o = .returned v ∧ Q5_L4 Z a1 k1 c0 c1 c2 c3 h0 n0 v U'.heap L ∧ FrameEnd U o U' L ({ frames := 1, cells := 1, slots := 4, locals := 18 } : Room).cells ({ frames := 1, cells := 1, slots := 4, locals := 18 } : Room).slots) := by
 refine MetFree.of_bodySF pn5 hisR ?_
 intro p e s m args below meth c s₁ Bd hml0 hP hK
 obtain ⟨rfl, hZ, hh⟩ := hP
 have hx := Bd.exec
 have hby := Bd.bytes
 have hml : c.maxLocals = 6 := hml0
 have hown : s.vm.findClass "java/lang/StringUTF16" = some m.cls := findClass_of_methodNamed Bd.named
 have hnm := (name_of_methodNamed Bd.named Bd.method).1
 have X0 : Stand p l e ({ frames := 1, cells := 1, slots := 4, locals := 18 } : Room) s m #[(.ref a1), (.int (0 : Int32)), (.int (4 : Int32))] below meth c s₁ [] 0 0 := Stand.of_body Bd
 have e0 : s₁.heap = h0 := by rw [← hh, Bd.state]; rfl
 have N0 := Fr.nil n0
 have p0 : Go p.tables e below (s₁.setTop (entryFrame m #[(.ref a1), (.int (0 : Int32)), (.int (4 : Int32))] 6)) (s₁.setTop (mkF m 0 #[.val (.ref a1), .val (.int (0 : Int32)), .val (.int (4 : Int32)), .unset, .unset, .unset] [])) := fun t_ k_ => castTop (ef_rm5_L4 m a1 k1 c0 c1 c2 c3) k_
 have p101 : Go p.tables e below _ (s₁.setTop (mkF m 1 #[.val (.ref a1), .val (.int (0 : Int32)), .val (.int (4 : Int32)), .unset, .unset, .unset] [(.int (4 : Int32))])) := fun t_ k_ => p0 t_ (by
  refine XS.iloadN X0.here hx rfl (hb hby d5_0) rfl ?_
  exact k_)
 obtain ⟨T102, h102, k102, X102, e102, E102, A102, st102⟩ := newP X0 hx hZ (own_w hw 24 rfl) e0 (g := (mkF m 1 #[.val (.ref a1), .val (.int (0 : Int32)), .val (.int (4 : Int32)), .unset, .unset, .unset] [(.int (4 : Int32))])) rfl (hb hby d5_1) rfl (by decide) (cap := 4) (by decide) (by decide) (by decide) (by decide)
 obtain ⟨b102, g102⟩ : ∃ z, z = h0.size := ⟨_, rfl⟩
 rw [← g102] at A102 st102
 have ne_a1_b102 : a1 ≠ b102 := Nat.ne_of_lt (Nat.lt_of_lt_of_le V1.lt (Nat.le_of_eq g102.symm))
 have ge_b102 : n0 ≤ b102 := Nat.le_trans (Nat.le_trans Z0 (Keep.refl h0 []).1) (Nat.le_of_eq g102.symm)
 have sz_b102 : h0.size ≤ b102 := Nat.le_trans (Keep.refl h0 []).1 (Nat.le_of_eq g102.symm)
 have K103 : Keep h0 h102 [] := (Keep.refl h0 []).ext E102
 have V102 : Arv Z h102 b102 k102 .byte (4 : Int32) [(.int (0 : Int32)), (.int (0 : Int32)), (.int (0 : Int32)), (.int (0 : Int32))] (.int (0 : Int32)) := (Arv.new A102 (by decide)).pad (pad_rep [] (.int (0 : Int32)) 4)
 have p104 : Go p.tables e below _ (T102.setTop (mkF m 9 #[.val (.ref a1), .val (.int (0 : Int32)), .val (.int (4 : Int32)), .val (.ref b102), .unset, .unset] [(.int (4 : Int32)), (.int (0 : Int32)), (.ref b102), (.int (0 : Int32)), (.ref a1)])) := fun t_ k_ => (gc p101 st102) t_ (by
  refine XS.astoreN X102.here hx rfl (hb hby d5_3) rfl rfl (l' := #[.val (.ref a1), .val (.int (0 : Int32)), .val (.int (4 : Int32)), .val (.ref b102), .unset, .unset]) rfl ?_
  refine XS.aloadN X102.here hx rfl (hb hby d5_4) rfl rfl ?_
  refine XS.iloadN X102.here hx rfl (hb hby d5_5) rfl ?_
  refine XS.aloadN X102.here hx rfl (hb hby d5_6) rfl rfl ?_
  refine XS.iconst X102.here hx rfl (hb hby d5_7) ?_
  refine XS.iloadN X102.here hx rfl (hb hby d5_8) rfl ?_
  exact k_)
 have f105 := (V1.ext E102)
 obtain ⟨_, _, ⟨T106, L106, k106, n106⟩, -, X106, ⟨Lc106, hQ106, l106, y106, z106⟩, st106⟩ := Jvm.LawKit.callS X102 hx (y := (⟨"java/lang/StringUTF16", "compress", "([CI[BII)I"⟩ : MethodName)) hown (mvT hZ (own_w hw 25 rfl)) (mvT hZ (own_w hw 26 rfl)) (mvT hZ (own_w hw 22 rfl)) (mvT hZ (own_w hw 27 rfl)) (by decide) (backOf (W := 0) (rm6_L4 l Z a0 hw [] a1 b102 k1 k102 c0 c1 c2 c3 h102 n0 (Nat.le_trans Z0 K103.1) f105 V102 ne_a1_b102 ge_b102 l0 l1 l2 l3) hZ (own_w hw 27 rfl) (own_w hw 22 rfl) (by decide) (by decide)) (g := (mkF m 9 #[.val (.ref a1), .val (.int (0 : Int32)), .val (.int (4 : Int32)), .val (.ref b102), .unset, .unset] [(.int (4 : Int32)), (.int (0 : Int32)), (.ref b102), (.int (0 : Int32)), (.ref a1)])) rfl (by rw [hml]; rfl) (argsL := [(.ref a1), (.int (0 : Int32)), (.ref b102), (.int (0 : Int32)), (.int (4 : Int32))]) (rest := []) (lenOf pd7 rfl) rfl (by show 2 * 0 + _ ≤ _; exact Nat.le_of_eq rfl) (hb hby d5_9) (fun _ _ => ⟨rfl, e102, (by decide : 1 + 0 ≤ _), (by decide : 4 + 0 ≤ _)⟩)
 dsimp only [Pt.U, Pt.locs, Pt.cells, Pt.slots] at X106 l106 y106 z106 st106 hQ106
 subst l106 y106 z106
 obtain ⟨rfl, N106q, q106_K, q106_V⟩ := hQ106
 have N106 := Fr.app N0 N106q
 have K107 : Keep h0 T106.heap [] := K103.trans q106_K (allS (Or.inr sz_b102) all0)
 have p108 : Go p.tables e below _ (T106.setTop (mkF m 58 #[.val (.ref a1), .val (.int (0 : Int32)), .val (.int (4 : Int32)), .val (.ref b102), .val (.int (4 : Int32)), .unset] [(.ref b102)])) := fun t_ k_ => (gc p104 st106) t_ (by
  refine XS.istore X106.here hx rfl (hb hby d5_12) rfl (l' := #[.val (.ref a1), .val (.int (0 : Int32)), .val (.int (4 : Int32)), .val (.ref b102), .val (.int (4 : Int32)), .unset]) rfl ?_
  refine XS.iload X106.here hx rfl (hb hby d5_14) rfl ?_
  refine XS.iloadN X106.here hx rfl (hb hby d5_16) rfl ?_
  refine XS.icmpYes X106.here hx rfl (pc0 := 17) (pc' := 57) rfl (hb hby d5_17) rfl (teq (by decide : ((4 : Int32) = (4 : Int32)))).1 (by decide) (by decide) ?_
  refine XS.aloadN X106.here hx rfl (hb hby d5_57) rfl rfl ?_
  exact k_)
 obtain ⟨fs, hr, hrun, hended, hW, hsame⟩ := X106.leave (v := some (.ref b102)) (fun h => by rw [Bd.returns] at h; cases h)
 refine ⟨_, _, p108 _ (retOut X106 hx (w := (.ref b102)) (i := .areturn) Bd.returns rfl (Or.inr (Or.inr (Or.inr (Or.inr ⟨rfl, rfl, rfl⟩)))) (hb hby d5_58) hr), hrun, hended, _, _, rfl, ?_, ⟨_, rfl⟩, hW, hsame.mono (by decide) (by decide)⟩
 show Q5_L4 Z a1 k1 c0 c1 c2 c3 h0 n0 _ T106.heap _
 exact ⟨b102, k102, rfl, N106, K107, ge_b102, sz_b102, q106_V⟩
theorem d7_0 : decode jdk_52_method_15_code 0 = .ok (.iload_n 1, 1) := by decide +kernel
theorem d7_1 : decode jdk_52_method_15_code 1 = .ok (.aload_n 0, 1) := by decide +kernel
theorem d7_2 : decode jdk_52_method_15_code 2 = .ok (.arraylength, 1) := by decide +kernel
theorem d7_3 : decode jdk_52_method_15_code 3 = .ok (.isub, 1) := by decide +kernel
theorem d7_4 : decode jdk_52_method_15_code 4 = .ok (.bipush 31, 2) := by decide +kernel
theorem d7_6 : decode jdk_52_method_15_code 6 = .ok (.iushr, 1) := by decide +kernel
theorem d7_7 : decode jdk_52_method_15_code 7 = .ok (.i2b, 1) := by decide +kernel
theorem d7_8 : decode jdk_52_method_15_code 8 = .ok (.ireturn, 1) := by decide +kernel
theorem pn7 : plainFor (⟨"java/lang/StringUTF16", "coderFromArrayLen", "([BI)B"⟩ : MethodName) = true := plainFor_of_name (by first | (simp [plainName, overriddenIn]; done) | decide +kernel)
theorem ef_rm7_L4 (m : MethodId) (a1 : Addr) (k1 : ClassId) (vs : List Value) : entryFrame m #[(.ref a1), (.int (4 : Int32))] 2 = mkF m 0 #[.val (.ref a1), .val (.int (4 : Int32))] [] := by first | (simp [entryFrame, mkF, argsToLocals, Value.category]; done) | rfl
def Q7_L4 (Z : State) (a1 : Addr) (k1 : ClassId) (vs : List Value) (h0 : Heap) (n0 : Nat) (v : Option Value) (h : Heap) (L : List Loc) : Prop := v = some (.int (0 : Int32)) ∧ Fr n0 L ∧ (h = h0)
set_option maxRecDepth 65536 in
set_option maxHeartbeats 40000000 in
theorem rm7_L4 (l : Launch) (Z : State) (a0 : Array Value) (hw : ∀ d ∈ tables_1, d.before a0 Z = true) (ws : List Jvm.Cond) (a1 : Addr) (k1 : ClassId) (vs : List Value) (h0 : Heap) (n0 : Nat) (Z0 : n0 ≤ h0.size) (V1 : Arv Z h0 a1 k1 .byte (4 : Int32) vs (.int (0 : Int32))) :
  MetFree l (⟨"java/lang/StringUTF16", "coderFromArrayLen", "([BI)B"⟩ : MethodName) (head1 (Jvm.Cond.code (⟨"java/lang/StringUTF16", "coderFromArrayLen", "([BI)B"⟩ : MethodName) jdk_52_method_15_code 2 (some .byte) :: ws) ({ frames := 0, cells := 0, slots := 0, locals := 0 } : Room)) (fun a U => a = #[(.ref a1), (.int (4 : Int32))] ∧ Z.Warmed39 U.vm ∧ U.heap = h0) (fun _ _ _ _ _ => True) (fun _ U o U' => ∃ v L, o = .returned v ∧ Q7_L4 Z a1 k1 vs h0 n0 v U'.heap L ∧ FrameEnd U o U' L ({ frames := 0, cells := 0, slots := 0, locals := 0 } : Room).cells ({ frames := 0, cells := 0, slots := 0, locals := 0 } : Room).slots) := by
 refine MetFree.of_bodySF pn7 hisR ?_
 intro p e s m args below meth c s₁ Bd hml0 hP hK
 obtain ⟨rfl, hZ, hh⟩ := hP
 have hx := Bd.exec
 have hby := Bd.bytes
 have hml : c.maxLocals = 2 := hml0
 have hown : s.vm.findClass "java/lang/StringUTF16" = some m.cls := findClass_of_methodNamed Bd.named
 have hnm := (name_of_methodNamed Bd.named Bd.method).1
 have X0 : Stand p l e ({ frames := 0, cells := 0, slots := 0, locals := 0 } : Room) s m #[(.ref a1), (.int (4 : Int32))] below meth c s₁ [] 0 0 := Stand.of_body Bd
 have e0 : s₁.heap = h0 := by rw [← hh, Bd.state]; rfl
 have N0 := Fr.nil n0
 have p0 : Go p.tables e below (s₁.setTop (entryFrame m #[(.ref a1), (.int (4 : Int32))] 2)) (s₁.setTop (mkF m 0 #[.val (.ref a1), .val (.int (4 : Int32))] [])) := fun t_ k_ => castTop (ef_rm7_L4 m a1 k1 vs) k_
 have p101 : Go p.tables e below _ (s₁.setTop (mkF m 2 #[.val (.ref a1), .val (.int (4 : Int32))] [(.ref a1), (.int (4 : Int32))])) := fun t_ k_ => p0 t_ (by
  refine XS.iloadN X0.here hx rfl (hb hby d7_0) rfl ?_
  refine XS.aloadN X0.here hx rfl (hb hby d7_1) rfl rfl ?_
  exact k_)
 obtain ⟨cl102, Ar102, -, S102, Ng102, -, -⟩ := id V1
 have p103 : Go p.tables e below _ (s₁.setTop (mkF m 8 #[.val (.ref a1), .val (.int (4 : Int32))] [(.int (0 : Int32))])) := fun t_ k_ => p101 t_ (by
  refine X0.arraylength hx (by rw [e0]; exact Ar102.1) (State.isArrayOf_alike hZ.alike Ar102.2.1) (g := (mkF m 2 #[.val (.ref a1), .val (.int (4 : Int32))] [(.ref a1), (.int (4 : Int32))])) rfl rfl (hb hby d7_2) _ ?_
  rw [len_of S102 Ng102]
  show Steps p.tables e below (s₁.setTop (mkF m 3 #[.val (.ref a1), .val (.int (4 : Int32))] [(.int (4 : Int32)), (.int (4 : Int32))])) _
  refine XS.isub X0.here hx rfl (hb hby d7_3) rfl ?_
  refine XS.bipush X0.here hx rfl (hb hby d7_4) ?_
  refine XS.iushr X0.here hx rfl (hb hby d7_6) rfl ?_
  refine XS.i2b X0.here hx rfl (hb hby d7_7) rfl ?_
  exact k_)
 obtain ⟨fs, hr, hrun, hended, hW, hsame⟩ := X0.leave (v := some (.int (0 : Int32))) (fun h => by rw [Bd.returns] at h; cases h)
 refine ⟨_, _, p103 _ (retN X0 hx (t := .byte) Bd.returns (by simp) (hb hby d7_8) hr), hrun, hended, _, _, rfl, ?_, ⟨_, rfl⟩, hW, hsame.mono (by decide) (by decide)⟩
 show Q7_L4 Z a1 k1 vs h0 n0 _ s₁.heap _
 rw [e0]
 exact ⟨rfl, N0, rfl⟩
theorem d3_0 : decode jdk_42_method_149_code 0 = .ok (.aload_n 0, 1) := by decide +kernel
theorem d3_1 : decode jdk_42_method_149_code 1 = .ok (.invokespecial 1, 3) := by decide +kernel
theorem d3_4 : decode jdk_42_method_149_code 4 = .ok (.iload_n 3, 1) := by decide +kernel
theorem d3_5 : decode jdk_42_method_149_code 5 = .ok (.ifCond .ne 22, 3) := by decide +kernel
theorem d3_27 : decode jdk_42_method_149_code 27 = .ok (.getstatic 38, 3) := by decide +kernel
theorem d3_30 : decode jdk_42_method_149_code 30 = .ok (.ifCond .eq 28, 3) := by decide +kernel
theorem d3_33 : decode jdk_42_method_149_code 33 = .ok (.aload_n 1, 1) := by decide +kernel
theorem d3_34 : decode jdk_42_method_149_code 34 = .ok (.iload_n 2, 1) := by decide +kernel
theorem d3_35 : decode jdk_42_method_149_code 35 = .ok (.iload_n 3, 1) := by decide +kernel
theorem d3_36 : decode jdk_42_method_149_code 36 = .ok (.invokestatic 177, 3) := by decide +kernel
theorem d3_39 : decode jdk_42_method_149_code 39 = .ok (.astore 5, 2) := by decide +kernel
theorem d3_41 : decode jdk_42_method_149_code 41 = .ok (.aload_n 0, 1) := by decide +kernel
theorem d3_42 : decode jdk_42_method_149_code 42 = .ok (.aload 5, 2) := by decide +kernel
theorem d3_44 : decode jdk_42_method_149_code 44 = .ok (.iload_n 3, 1) := by decide +kernel
theorem d3_45 : decode jdk_42_method_149_code 45 = .ok (.invokestatic 47, 3) := by decide +kernel
theorem d3_48 : decode jdk_42_method_149_code 48 = .ok (.putfield 15, 3) := by decide +kernel
theorem d3_51 : decode jdk_42_method_149_code 51 = .ok (.aload_n 0, 1) := by decide +kernel
theorem d3_52 : decode jdk_42_method_149_code 52 = .ok (.aload 5, 2) := by decide +kernel
theorem d3_54 : decode jdk_42_method_149_code 54 = .ok (.putfield 9, 3) := by decide +kernel
theorem d3_57 : decode jdk_42_method_149_code 57 = .ok (.return_, 1) := by decide +kernel
theorem pd8 : parseMethodDescriptor "([CII)[B" = some ⟨[(.array .char), .int, .int], some (.array .byte)⟩ := by decide +kernel
theorem pd9 : parseMethodDescriptor "([BI)B" = some ⟨[(.array .byte), .int], some .byte⟩ := by decide +kernel
theorem pn3 : plainFor (⟨"java/lang/String", "<init>", "([CIILjava/lang/Void;)V"⟩ : MethodName) = true := plainFor_of_name (by first | (simp [plainName, overriddenIn]; done) | decide +kernel)
theorem ef_rm3_L4 (m : MethodId) (a1 : Addr) (a2 : Addr) (k1 : ClassId) (c0 : Int32) (c1 : Int32) (c2 : Int32) (c3 : Int32) (cs1 : Int32) (fm : Value) : entryFrame m #[(.ref a1), (.ref a2), (.int (0 : Int32)), (.int (4 : Int32)), .null] 6 = mkF m 0 #[.val (.ref a1), .val (.ref a2), .val (.int (0 : Int32)), .val (.int (4 : Int32)), .val .null, .unset] [] := by first | (simp [entryFrame, mkF, argsToLocals, Value.category]; done) | rfl
def Q3_L4 (Z : State) (a1 : Addr) (a2 : Addr) (k1 : ClassId) (c0 : Int32) (c1 : Int32) (c2 : Int32) (c3 : Int32) (cs1 : Int32) (fm : Value) (h0 : Heap) (n0 : Nat) (v : Option Value) (h : Heap) (L : List Loc) : Prop := ∃ (b : Addr) (kb : ClassId), v = none ∧ Fr n0 L ∧ (Keep h0 h [a1]) ∧ (Exa Z h a1 "java/lang/String") ∧ (Fld Z h a1 "java/lang/String" "coder" "B" (.int (0 : Int32))) ∧ (Fld Z h a1 "java/lang/String" "value" "[B" (.ref b)) ∧ (n0 ≤ b) ∧ (h0.size ≤ b) ∧ (Arv Z h b kb .byte (4 : Int32) [(.int (own_xl c0)), (.int (own_xl c1)), (.int (own_xl c2)), (.int (own_xl c3))] (.int (0 : Int32))) ∧ (a1 ≠ b)
set_option maxRecDepth 65536 in
set_option maxHeartbeats 40000000 in
theorem rm3_L4 (l : Launch) (Z : State) (a0 : Array Value) (hw : ∀ d ∈ tables_1, d.before a0 Z = true) (ws : List Jvm.Cond) (a1 : Addr) (a2 : Addr) (k1 : ClassId) (c0 : Int32) (c1 : Int32) (c2 : Int32) (c3 : Int32) (cs1 : Int32) (fm : Value) (h0 : Heap) (n0 : Nat) (Z0 : n0 ≤ h0.size) (O1 : Old Z n0 h0) (G : own_G Z cs1 fm) (F1 : Fld Z h0 a1 "java/lang/String" "coder" "B" (.int (0 : Int32))) (F2 : Fld Z h0 a1 "java/lang/String" "value" "[B" .null) (E1 : Exa Z h0 a1 "java/lang/String") (V1 : Arv Z h0 a2 k1 .char (4 : Int32) [(.int c0), (.int c1), (.int c2), (.int c3)] (.int (0 : Int32))) (ne : a1 ≠ a2) (g1 : n0 ≤ a1) (l0 : ¬ ((255 : Int32) < c0)) (l1 : ¬ ((255 : Int32) < c1)) (l2 : ¬ ((255 : Int32) < c2)) (l3 : ¬ ((255 : Int32) < c3)) :
  MetFree l (⟨"java/lang/String", "<init>", "([CIILjava/lang/Void;)V"⟩ : MethodName) (head1 (Jvm.Cond.code (⟨"java/lang/String", "<init>", "([CIILjava/lang/Void;)V"⟩ : MethodName) jdk_42_method_149_code 6 none :: ws) ({ frames := 2, cells := 1, slots := 4, locals := 35 } : Room)) (fun a U => a = #[(.ref a1), (.ref a2), (.int (0 : Int32)), (.int (4 : Int32)), .null] ∧ Z.Warmed39 U.vm ∧ U.heap = h0) (fun _ _ _ _ _ => True) (fun _ U o U' => ∃ v L, o = .returned v ∧ Q3_L4 Z a1 a2 k1 c0 c1 c2 c3 cs1 fm h0 n0 v U'.heap L ∧ FrameEnd U o U' L ({ frames := 2, cells := 1, slots := 4, locals := 35 } : Room).cells ({ frames := 2, cells := 1, slots := 4, locals := 35 } : Room).slots) := by
 refine MetFree.of_bodySF pn3 hisR ?_
 intro p e s m args below meth c s₁ Bd hml0 hP hK
 obtain ⟨rfl, hZ, hh⟩ := hP
 have hx := Bd.exec
 have hby := Bd.bytes
 have hml : c.maxLocals = 6 := hml0
 have hown : s.vm.findClass "java/lang/String" = some m.cls := findClass_of_methodNamed Bd.named
 have hnm := (name_of_methodNamed Bd.named Bd.method).1
 have X0 : Stand p l e ({ frames := 2, cells := 1, slots := 4, locals := 35 } : Room) s m #[(.ref a1), (.ref a2), (.int (0 : Int32)), (.int (4 : Int32)), .null] below meth c s₁ [] 0 0 := Stand.of_body Bd
 have e0 : s₁.heap = h0 := by rw [← hh, Bd.state]; rfl
 have N0 := Fr.nil n0
 have p0 : Go p.tables e below (s₁.setTop (entryFrame m #[(.ref a1), (.ref a2), (.int (0 : Int32)), (.int (4 : Int32)), .null] 6)) (s₁.setTop (mkF m 0 #[.val (.ref a1), .val (.ref a2), .val (.int (0 : Int32)), .val (.int (4 : Int32)), .val .null, .unset] [])) := fun t_ k_ => castTop (ef_rm3_L4 m a1 a2 k1 c0 c1 c2 c3 cs1 fm) k_
 have p101 : Go p.tables e below _ (s₁.setTop (mkF m 1 #[.val (.ref a1), .val (.ref a2), .val (.int (0 : Int32)), .val (.int (4 : Int32)), .val .null, .unset] [(.ref a1)])) := fun t_ k_ => p0 t_ (by
  refine XS.aloadN X0.here hx rfl (hb hby d3_0) rfl rfl ?_
  exact k_)
 obtain ⟨T102, X102, e102, st102⟩ := initO X0 hx hZ hown (own_w hw 16 rfl) (own_w hw 17 rfl) (own_w hw 18 rfl) e0 (g := (mkF m 1 #[.val (.ref a1), .val (.ref a2), .val (.int (0 : Int32)), .val (.int (4 : Int32)), .val .null, .unset] [(.ref a1)])) rfl (by rw [hml]; rfl) rfl (hb hby d3_1) (by decide) (W := 0) (by show 2 * 0 + _ ≤ _; exact Nat.le_of_eq rfl) (by decide)
 have p103 : Go p.tables e below _ (T102.setTop (mkF m 27 #[.val (.ref a1), .val (.ref a2), .val (.int (0 : Int32)), .val (.int (4 : Int32)), .val .null, .unset] [])) := fun t_ k_ => (gc p101 st102) t_ (by
  refine XS.iloadN X102.here hx rfl (hb hby d3_4) rfl ?_
  refine XS.ifYes X102.here hx rfl (pc0 := 5) (pc' := 27) rfl (hb hby d3_5) rfl ((if0 _ _).trans (feq (by decide : ¬ ((4 : Int32) = (0 : Int32)))).2) (by decide) (by decide) ?_
  exact k_)
 obtain ⟨T104, X104, e104, st104⟩ := getS2 X102 hx hZ hown (host := "") (Or.inl (own_w hw 19 rfl)) Via.refl e102 (G.1.ext O1.2) (g := (mkF m 27 #[.val (.ref a1), .val (.ref a2), .val (.int (0 : Int32)), .val (.int (4 : Int32)), .val .null, .unset] [])) rfl (hb hby d3_27)
 have c105 : ¬ (cs1 = (0 : Int32)) := G.2.1
 have p106 : Go p.tables e below _ (T104.setTop (mkF m 36 #[.val (.ref a1), .val (.ref a2), .val (.int (0 : Int32)), .val (.int (4 : Int32)), .val .null, .unset] [(.int (4 : Int32)), (.int (0 : Int32)), (.ref a2)])) := fun t_ k_ => (gc p103 st104) t_ (by
  refine XS.ifNo X104.here hx rfl (hb hby d3_30) rfl ((if0 _ _).trans (feq c105).1) ?_
  refine XS.aloadN X104.here hx rfl (hb hby d3_33) rfl rfl ?_
  refine XS.iloadN X104.here hx rfl (hb hby d3_34) rfl ?_
  refine XS.iloadN X104.here hx rfl (hb hby d3_35) rfl ?_
  exact k_)
 obtain ⟨_, _, ⟨T107, L107, k107, n107⟩, -, X107, ⟨Lc107, hQ107, l107, y107, z107⟩, st107⟩ := Jvm.LawKit.callS X104 hx (y := (⟨"java/lang/StringUTF16", "compress", "([CII)[B"⟩ : MethodName)) hown (mvT hZ (own_w hw 20 rfl)) (mvT hZ (own_w hw 21 rfl)) (mvT hZ (own_w hw 22 rfl)) (mvT hZ (own_w hw 23 rfl)) (by decide) (backOf (W := 0) (rm5_L4 l Z a0 hw [] a2 k1 c0 c1 c2 c3 h0 n0 (Nat.le_trans Z0 (Keep.refl h0 [a1]).1) V1 l0 l1 l2 l3) hZ (own_w hw 23 rfl) (own_w hw 22 rfl) (by decide) (by decide)) (g := (mkF m 36 #[.val (.ref a1), .val (.ref a2), .val (.int (0 : Int32)), .val (.int (4 : Int32)), .val .null, .unset] [(.int (4 : Int32)), (.int (0 : Int32)), (.ref a2)])) rfl (by rw [hml]; rfl) (argsL := [(.ref a2), (.int (0 : Int32)), (.int (4 : Int32))]) (rest := []) (lenOf pd8 rfl) rfl (by show 2 * 0 + _ ≤ _; exact Nat.le_of_eq rfl) (hb hby d3_36) (fun _ _ => ⟨rfl, e104, (by decide : 0 + 1 ≤ _), (by decide : 0 + 4 ≤ _)⟩)
 dsimp only [Pt.U, Pt.locs, Pt.cells, Pt.slots] at X107 l107 y107 z107 st107 hQ107
 subst l107 y107 z107
 obtain ⟨x108, x109, rfl, N107q, q107_K, q107_g, q107_z, q107_V⟩ := hQ107
 have N107 := Fr.app N0 N107q
 have K110 : Keep h0 T107.heap [a1] := (Keep.refl h0 [a1]).trans q107_K all0
 have ne_a1_x108 : a1 ≠ x108 := Nat.ne_of_lt (Nat.lt_of_lt_of_le E1.lt q107_z)
 have ne_a2_x108 : a2 ≠ x108 := Nat.ne_of_lt (Nat.lt_of_lt_of_le V1.lt q107_z)
 have p111 : Go p.tables e below _ (T107.setTop (mkF m 45 #[.val (.ref a1), .val (.ref a2), .val (.int (0 : Int32)), .val (.int (4 : Int32)), .val .null, .val (.ref x108)] [(.int (4 : Int32)), (.ref x108), (.ref a1)])) := fun t_ k_ => (gc p106 st107) t_ (by
  refine XS.astore X107.here hx rfl (hb hby d3_39) rfl rfl (l' := #[.val (.ref a1), .val (.ref a2), .val (.int (0 : Int32)), .val (.int (4 : Int32)), .val .null, .val (.ref x108)]) rfl ?_
  refine XS.aloadN X107.here hx rfl (hb hby d3_41) rfl rfl ?_
  refine XS.aload X107.here hx rfl (hb hby d3_42) rfl rfl ?_
  refine XS.iloadN X107.here hx rfl (hb hby d3_44) rfl ?_
  exact k_)
 obtain ⟨_, _, ⟨T112, L112, k112, n112⟩, -, X112, ⟨Lc112, hQ112, l112, y112, z112⟩, st112⟩ := Jvm.LawKit.callS X107 hx (y := (⟨"java/lang/StringUTF16", "coderFromArrayLen", "([BI)B"⟩ : MethodName)) hown (mvT hZ (own_w hw 28 rfl)) (mvT hZ (own_w hw 29 rfl)) (mvT hZ (own_w hw 22 rfl)) (mvT hZ (own_w hw 30 rfl)) (by decide) (backOf (W := 1) (rm7_L4 l Z a0 hw [] x108 x109 [(.int (own_xl c0)), (.int (own_xl c1)), (.int (own_xl c2)), (.int (own_xl c3))] T107.heap n0 (Nat.le_trans Z0 K110.1) q107_V) hZ (own_w hw 30 rfl) (own_w hw 22 rfl) (by decide) (by decide)) (g := (mkF m 45 #[.val (.ref a1), .val (.ref a2), .val (.int (0 : Int32)), .val (.int (4 : Int32)), .val .null, .val (.ref x108)] [(.int (4 : Int32)), (.ref x108), (.ref a1)])) rfl (by rw [hml]; rfl) (argsL := [(.ref x108), (.int (4 : Int32))]) (rest := [(.ref a1)]) (lenOf pd9 rfl) rfl (by show 2 * 0 + _ ≤ _; exact Nat.le_of_eq rfl) (hb hby d3_45) (fun _ _ => ⟨rfl, rfl, (by decide : 1 + 0 ≤ _), (by decide : 4 + 0 ≤ _)⟩)
 dsimp only [Pt.U, Pt.locs, Pt.cells, Pt.slots] at X112 l112 y112 z112 st112 hQ112
 subst l112 y112 z112
 obtain ⟨rfl, N112q, q112_hh⟩ := hQ112
 have N112 := Fr.app N107 N112q
 have f113 := (F1.keep q107_K nin0)
 have f114 := (E1.keep q107_K)
 obtain ⟨T115, h115, X115, e115, W115, st115⟩ := putFN X112 hx hZ hown (own_w hw 31 rfl) Via.refl q112_hh f113 f114 (Or.inr ⟨(own_w hw 32 rfl), rfl, hnm⟩) (own_w hw 7 rfl) (ty := .byte) (v' := (.int (0 : Int32))) (by decide) rfl (by decide) (g := (mkF m 48 #[.val (.ref a1), .val (.ref a2), .val (.int (0 : Int32)), .val (.int (4 : Int32)), .val .null, .val (.ref x108)] [(.int (0 : Int32)), (.ref a1)])) rfl rfl (hb hby d3_48)
 have K116 : Keep h0 h115 [a1] := K110.wr W115 (Or.inl (List.mem_of_getElem? (i := 0) rfl))
 have N115 := Fr.snoc X115 N112 g1
 have F115 : Fld Z h115 a1 "java/lang/String" "coder" "B" (.int (0 : Int32)) := f113.same W115
 have p117 : Go p.tables e below _ (T115.setTop (mkF m 54 #[.val (.ref a1), .val (.ref a2), .val (.int (0 : Int32)), .val (.int (4 : Int32)), .val .null, .val (.ref x108)] [(.ref x108), (.ref a1)])) := fun t_ k_ => (gc (gc p111 st112) st115) t_ (by
  refine XS.aloadN X115.here hx rfl (hb hby d3_51) rfl rfl ?_
  refine XS.aload X115.here hx rfl (hb hby d3_52) rfl rfl ?_
  exact k_)
 have f118 := ((F2.keep q107_K nin0).other W115 (Or.inr (slot_ne (Or.inr (own_w hw 34 rfl)) (Or.inr (own_w hw 32 rfl)) (by decide) (t := (.array .byte)) (t' := .byte) (by decide) (by decide))))
 have f119 := (f114.wr W115)
 obtain ⟨T120, h120, X120, e120, W120, st120⟩ := putF X115 hx hZ hown (host := "") (Or.inl (own_w hw 33 rfl)) Via.refl e115 f118 f119 (Or.inr ⟨(own_w hw 34 rfl), rfl, hnm⟩) (own_w hw 7 rfl) (ty := (.array .byte)) (by decide) rfl rfl (g := (mkF m 54 #[.val (.ref a1), .val (.ref a2), .val (.int (0 : Int32)), .val (.int (4 : Int32)), .val .null, .val (.ref x108)] [(.ref x108), (.ref a1)])) rfl rfl (hb hby d3_54)
 have K121 : Keep h0 h120 [a1] := K116.wr W120 (Or.inl (List.mem_of_getElem? (i := 0) rfl))
 have N120 := Fr.snoc X120 N115 g1
 have F120 : Fld Z h120 a1 "java/lang/String" "value" "[B" (.ref x108) := f118.same W120
 have f122 := (f119.wr W120)
 have f123 := (F115.other W120 (Or.inr (slot_ne (Or.inr (own_w hw 32 rfl)) (Or.inr (own_w hw 34 rfl)) (by decide) (t := .byte) (t' := (.array .byte)) (by decide) (by decide))))
 have f124 := ((q107_V.other W115 (Ne.symm ne_a1_x108)).other W120 (Ne.symm ne_a1_x108))
 obtain ⟨fs, hr, hrun, hended, hW, hsame⟩ := X120.leave (v := none) (fun _ => rfl)
 refine ⟨_, _, (gc p117 st120) _ (X120.returnOut hx Bd.returns (hb hby d3_57) hr), hrun, hended, _, _, rfl, ?_, ⟨_, rfl⟩, hW, hsame.mono (by decide) (by decide)⟩
 show Q3_L4 Z a1 a2 k1 c0 c1 c2 c3 cs1 fm h0 n0 _ T120.heap _
 rw [e120]
 exact ⟨x108, x109, rfl, N120, K121, f122, f123, F120, q107_g, (Nat.le_trans (Keep.refl h0 [a1]).1 q107_z), f124, ne_a1_x108⟩
theorem d2_0 : decode jdk_42_method_3_code 0 = .ok (.aload_n 0, 1) := by decide +kernel
theorem d2_1 : decode jdk_42_method_3_code 1 = .ok (.aload_n 1, 1) := by decide +kernel
theorem d2_2 : decode jdk_42_method_3_code 2 = .ok (.iconst 0, 1) := by decide +kernel
theorem d2_3 : decode jdk_42_method_3_code 3 = .ok (.aload_n 1, 1) := by decide +kernel
theorem d2_4 : decode jdk_42_method_3_code 4 = .ok (.arraylength, 1) := by decide +kernel
theorem d2_5 : decode jdk_42_method_3_code 5 = .ok (.aconst_null, 1) := by decide +kernel
theorem d2_6 : decode jdk_42_method_3_code 6 = .ok (.invokespecial 27, 3) := by decide +kernel
theorem d2_9 : decode jdk_42_method_3_code 9 = .ok (.return_, 1) := by decide +kernel
theorem pd10 : parseMethodDescriptor "([CIILjava/lang/Void;)V" = some ⟨[(.array .char), .int, .int, (.object "java/lang/Void")], none⟩ := by decide +kernel
theorem pn2 : plainFor (⟨"java/lang/String", "<init>", "([C)V"⟩ : MethodName) = true := plainFor_of_name (by first | (simp [plainName, overriddenIn]; done) | decide +kernel)
theorem ef_rm2_L4 (m : MethodId) (a1 : Addr) (a2 : Addr) (k1 : ClassId) (c0 : Int32) (c1 : Int32) (c2 : Int32) (c3 : Int32) (cs1 : Int32) (fm : Value) : entryFrame m #[(.ref a1), (.ref a2)] 2 = mkF m 0 #[.val (.ref a1), .val (.ref a2)] [] := by first | (simp [entryFrame, mkF, argsToLocals, Value.category]; done) | rfl
def Q2_L4 (Z : State) (a1 : Addr) (a2 : Addr) (k1 : ClassId) (c0 : Int32) (c1 : Int32) (c2 : Int32) (c3 : Int32) (cs1 : Int32) (fm : Value) (h0 : Heap) (n0 : Nat) (v : Option Value) (h : Heap) (L : List Loc) : Prop := ∃ (b : Addr) (kb : ClassId), v = none ∧ Fr n0 L ∧ (Keep h0 h [a1]) ∧ (Exa Z h a1 "java/lang/String") ∧ (Fld Z h a1 "java/lang/String" "coder" "B" (.int (0 : Int32))) ∧ (Fld Z h a1 "java/lang/String" "value" "[B" (.ref b)) ∧ (n0 ≤ b) ∧ (h0.size ≤ b) ∧ (Arv Z h b kb .byte (4 : Int32) [(.int (own_xl c0)), (.int (own_xl c1)), (.int (own_xl c2)), (.int (own_xl c3))] (.int (0 : Int32))) ∧ (a1 ≠ b)
set_option maxRecDepth 65536 in
set_option maxHeartbeats 40000000 in
theorem rm2_L4 (l : Launch) (Z : State) (a0 : Array Value) (hw : ∀ d ∈ tables_1, d.before a0 Z = true) (ws : List Jvm.Cond) (a1 : Addr) (a2 : Addr) (k1 : ClassId) (c0 : Int32) (c1 : Int32) (c2 : Int32) (c3 : Int32) (cs1 : Int32) (fm : Value) (h0 : Heap) (n0 : Nat) (Z0 : n0 ≤ h0.size) (O1 : Old Z n0 h0) (G : own_G Z cs1 fm) (F1 : Fld Z h0 a1 "java/lang/String" "coder" "B" (.int (0 : Int32))) (F2 : Fld Z h0 a1 "java/lang/String" "value" "[B" .null) (E1 : Exa Z h0 a1 "java/lang/String") (V1 : Arv Z h0 a2 k1 .char (4 : Int32) [(.int c0), (.int c1), (.int c2), (.int c3)] (.int (0 : Int32))) (ne : a1 ≠ a2) (g1 : n0 ≤ a1) (l0 : ¬ ((255 : Int32) < c0)) (l1 : ¬ ((255 : Int32) < c1)) (l2 : ¬ ((255 : Int32) < c2)) (l3 : ¬ ((255 : Int32) < c3)) :
  MetFree l (⟨"java/lang/String", "<init>", "([C)V"⟩ : MethodName) (head1 (Jvm.Cond.code (⟨"java/lang/String", "<init>", "([C)V"⟩ : MethodName) jdk_42_method_3_code 2 none :: ws) ({ frames := 3, cells := 1, slots := 4, locals := 52 } : Room)) (fun a U => a = #[(.ref a1), (.ref a2)] ∧ Z.Warmed39 U.vm ∧ U.heap = h0) (fun _ _ _ _ _ => True) (fun _ U o U' => ∃ v L, o = .returned v ∧ Q2_L4 Z a1 a2 k1 c0 c1 c2 c3 cs1 fm h0 n0 v U'.heap L ∧ FrameEnd U o U' L ({ frames := 3, cells := 1, slots := 4, locals := 52 } : Room).cells ({ frames := 3, cells := 1, slots := 4, locals := 52 } : Room).slots) := by
 refine MetFree.of_bodySF pn2 hisR ?_
 intro p e s m args below meth c s₁ Bd hml0 hP hK
 obtain ⟨rfl, hZ, hh⟩ := hP
 have hx := Bd.exec
 have hby := Bd.bytes
 have hml : c.maxLocals = 2 := hml0
 have hown : s.vm.findClass "java/lang/String" = some m.cls := findClass_of_methodNamed Bd.named
 have hnm := (name_of_methodNamed Bd.named Bd.method).1
 have X0 : Stand p l e ({ frames := 3, cells := 1, slots := 4, locals := 52 } : Room) s m #[(.ref a1), (.ref a2)] below meth c s₁ [] 0 0 := Stand.of_body Bd
 have e0 : s₁.heap = h0 := by rw [← hh, Bd.state]; rfl
 have N0 := Fr.nil n0
 have p0 : Go p.tables e below (s₁.setTop (entryFrame m #[(.ref a1), (.ref a2)] 2)) (s₁.setTop (mkF m 0 #[.val (.ref a1), .val (.ref a2)] [])) := fun t_ k_ => castTop (ef_rm2_L4 m a1 a2 k1 c0 c1 c2 c3 cs1 fm) k_
 have p101 : Go p.tables e below _ (s₁.setTop (mkF m 4 #[.val (.ref a1), .val (.ref a2)] [(.ref a2), (.int (0 : Int32)), (.ref a2), (.ref a1)])) := fun t_ k_ => p0 t_ (by
  refine XS.aloadN X0.here hx rfl (hb hby d2_0) rfl rfl ?_
  refine XS.aloadN X0.here hx rfl (hb hby d2_1) rfl rfl ?_
  refine XS.iconst X0.here hx rfl (hb hby d2_2) ?_
  refine XS.aloadN X0.here hx rfl (hb hby d2_3) rfl rfl ?_
  exact k_)
 obtain ⟨cl102, Ar102, -, S102, Ng102, -, -⟩ := id V1
 have p103 : Go p.tables e below _ (s₁.setTop (mkF m 6 #[.val (.ref a1), .val (.ref a2)] [.null, (.int (4 : Int32)), (.int (0 : Int32)), (.ref a2), (.ref a1)])) := fun t_ k_ => p101 t_ (by
  refine X0.arraylength hx (by rw [e0]; exact Ar102.1) (State.isArrayOf_alike hZ.alike Ar102.2.1) (g := (mkF m 4 #[.val (.ref a1), .val (.ref a2)] [(.ref a2), (.int (0 : Int32)), (.ref a2), (.ref a1)])) rfl rfl (hb hby d2_4) _ ?_
  rw [len_of S102 Ng102]
  show Steps p.tables e below (s₁.setTop (mkF m 5 #[.val (.ref a1), .val (.ref a2)] [(.int (4 : Int32)), (.int (0 : Int32)), (.ref a2), (.ref a1)])) _
  refine XS.aconstNull X0.here hx rfl (hb hby d2_5) ?_
  exact k_)
 obtain ⟨_, _, ⟨T104, L104, k104, n104⟩, -, X104, ⟨Lc104, hQ104, l104, y104, z104⟩, st104⟩ := X0.specialBack hx (y := (⟨"java/lang/String", "<init>", "([CIILjava/lang/Void;)V"⟩ : MethodName)) rfl hown (mvT hZ (own_w hw 12 rfl)) (mvT hZ (own_w hw 13 rfl)) (mvT hZ (own_w hw 15 rfl)) (by decide) (backOf (W := 0) (rm3_L4 l Z a0 hw [] a1 a2 k1 c0 c1 c2 c3 cs1 fm h0 n0 (Nat.le_trans Z0 (Keep.refl h0 [a1]).1) O1 G F1 F2 E1 V1 ne g1 l0 l1 l2 l3) hZ (own_w hw 15 rfl) (own_w hw 8 rfl) (by decide) (by decide)) (g := (mkF m 6 #[.val (.ref a1), .val (.ref a2)] [.null, (.int (4 : Int32)), (.int (0 : Int32)), (.ref a2), (.ref a1)])) rfl (by rw [hml]; rfl) (Steps.refl _) (a := a1) (argsL := [(.ref a2), (.int (0 : Int32)), (.int (4 : Int32)), .null]) (rest := []) (lenOf pd10 rfl) rfl (by show 2 * 0 + _ ≤ _; exact Nat.le_of_eq rfl) (hb hby d2_6) (fun _ _ => ⟨rfl, e0, (by decide : 0 + 1 ≤ _), (by decide : 0 + 4 ≤ _)⟩)
 dsimp only [Pt.U, Pt.locs, Pt.cells, Pt.slots] at X104 l104 y104 z104 st104 hQ104
 subst l104 y104 z104
 obtain ⟨x105, x106, rfl, N104q, q104_K, q104_E, q104_c, q104_v, q104_g, q104_z, q104_V, q104_n⟩ := hQ104
 have N104 := Fr.app N0 N104q
 have K107 : Keep h0 T104.heap [a1] := (Keep.refl h0 [a1]).trans q104_K (allS (Or.inl (List.mem_of_getElem? (i := 0) rfl)) all0)
 have ne_a1_x105 : a1 ≠ x105 := Nat.ne_of_lt (Nat.lt_of_lt_of_le E1.lt q104_z)
 have ne_a2_x105 : a2 ≠ x105 := Nat.ne_of_lt (Nat.lt_of_lt_of_le V1.lt q104_z)
 obtain ⟨fs, hr, hrun, hended, hW, hsame⟩ := X104.leave (v := none) (fun _ => rfl)
 refine ⟨_, _, (gcT p103 st104) _ (X104.returnOut hx Bd.returns (hb hby d2_9) hr), hrun, hended, _, _, rfl, ?_, ⟨_, rfl⟩, hW, hsame.mono (by decide) (by decide)⟩
 show Q2_L4 Z a1 a2 k1 c0 c1 c2 c3 cs1 fm h0 n0 _ T104.heap _
 exact ⟨x105, x106, rfl, N104, K107, q104_E, q104_c, q104_v, q104_g, (Nat.le_trans (Keep.refl h0 [a1]).1 q104_z), q104_V, q104_n⟩
theorem d23_0 : decode jdk_52_method_3_code 0 = .ok (.iload_n 0, 1) := by decide +kernel
theorem d23_1 : decode jdk_52_method_3_code 1 = .ok (.ifCond .ge 11, 3) := by decide +kernel
theorem d23_12 : decode jdk_52_method_3_code 12 = .ok (.iload_n 0, 1) := by decide +kernel
theorem d23_13 : decode jdk_52_method_3_code 13 = .ok (.ldc 20, 2) := by decide +kernel
theorem d23_15 : decode jdk_52_method_3_code 15 = .ok (.if_icmp .lt 40, 3) := by decide +kernel
theorem d23_55 : decode jdk_52_method_3_code 55 = .ok (.iload_n 0, 1) := by decide +kernel
theorem d23_56 : decode jdk_52_method_3_code 56 = .ok (.iconst 1, 1) := by decide +kernel
theorem d23_57 : decode jdk_52_method_3_code 57 = .ok (.ishl, 1) := by decide +kernel
theorem d23_58 : decode jdk_52_method_3_code 58 = .ok (.ireturn, 1) := by decide +kernel
theorem pn23 : plainFor (⟨"java/lang/StringUTF16", "newBytesLength", "(I)I"⟩ : MethodName) = true := plainFor_of_name (by first | (simp [plainName, overriddenIn]; done) | decide +kernel)
theorem ef_rm23_U4 (m : MethodId)  : entryFrame m #[(.int (4 : Int32))] 1 = mkF m 0 #[.val (.int (4 : Int32))] [] := by first | (simp [entryFrame, mkF, argsToLocals, Value.category]; done) | rfl
def Q23_U4 (Z : State)  (h0 : Heap) (n0 : Nat) (v : Option Value) (h : Heap) (L : List Loc) : Prop := v = some (.int (8 : Int32)) ∧ Fr n0 L ∧ (h = h0)
set_option maxRecDepth 65536 in
set_option maxHeartbeats 40000000 in
theorem rm23_U4 (l : Launch) (Z : State) (a0 : Array Value) (hw : ∀ d ∈ tables_1, d.before a0 Z = true) (ws : List Jvm.Cond)  (h0 : Heap) (n0 : Nat) (Z0 : n0 ≤ h0.size) :
  MetFree l (⟨"java/lang/StringUTF16", "newBytesLength", "(I)I"⟩ : MethodName) (head1 (Jvm.Cond.code (⟨"java/lang/StringUTF16", "newBytesLength", "(I)I"⟩ : MethodName) jdk_52_method_3_code 1 (some .int) :: ws) ({ frames := 0, cells := 0, slots := 0, locals := 0 } : Room)) (fun a U => a = #[(.int (4 : Int32))] ∧ Z.Warmed39 U.vm ∧ U.heap = h0) (fun _ _ _ _ _ => True) (fun _ U o U' => ∃ v L, o = .returned v ∧ Q23_U4 Z  h0 n0 v U'.heap L ∧ FrameEnd U o U' L ({ frames := 0, cells := 0, slots := 0, locals := 0 } : Room).cells ({ frames := 0, cells := 0, slots := 0, locals := 0 } : Room).slots) := by
 refine MetFree.of_bodySF pn23 hisR ?_
 intro p e s m args below meth c s₁ Bd hml0 hP hK
 obtain ⟨rfl, hZ, hh⟩ := hP
 have hx := Bd.exec
 have hby := Bd.bytes
 have hml : c.maxLocals = 1 := hml0
 have hown : s.vm.findClass "java/lang/StringUTF16" = some m.cls := findClass_of_methodNamed Bd.named
 have hnm := (name_of_methodNamed Bd.named Bd.method).1
 have X0 : Stand p l e ({ frames := 0, cells := 0, slots := 0, locals := 0 } : Room) s m #[(.int (4 : Int32))] below meth c s₁ [] 0 0 := Stand.of_body Bd
 have e0 : s₁.heap = h0 := by rw [← hh, Bd.state]; rfl
 have N0 := Fr.nil n0
 have p0 : Go p.tables e below (s₁.setTop (entryFrame m #[(.int (4 : Int32))] 1)) (s₁.setTop (mkF m 0 #[.val (.int (4 : Int32))] [])) := fun t_ k_ => castTop (ef_rm23_U4 m ) k_
 have p101 : Go p.tables e below _ (s₁.setTop (mkF m 58 #[.val (.int (4 : Int32))] [(.int (8 : Int32))])) := fun t_ k_ => p0 t_ (by
  refine XS.iloadN X0.here hx rfl (hb hby d23_0) rfl ?_
  refine XS.ifYes X0.here hx rfl (pc0 := 1) (pc' := 12) rfl (hb hby d23_1) rfl ((if0 _ _).trans (flt (by decide : ¬ ((4 : Int32) < (0 : Int32)))).2.1) (by decide) (by decide) ?_
  refine XS.iloadN X0.here hx rfl (hb hby d23_12) rfl ?_
  refine X0.ldcInt hx hown (mvT hZ (own_w hw 112 rfl)) (g := (mkF m 13 #[.val (.int (4 : Int32))] [(.int (4 : Int32))])) rfl (hb hby d23_13) _ ?_
  refine XS.icmpYes X0.here hx rfl (pc0 := 15) (pc' := 55) rfl (hb hby d23_15) rfl (tlt (by decide : ((4 : Int32) < (1073741823 : Int32)))).1 (by decide) (by decide) ?_
  refine XS.iloadN X0.here hx rfl (hb hby d23_55) rfl ?_
  refine XS.iconst X0.here hx rfl (hb hby d23_56) ?_
  refine XS.ishl X0.here hx rfl (hb hby d23_57) rfl ?_
  exact k_)
 obtain ⟨fs, hr, hrun, hended, hW, hsame⟩ := X0.leave (v := some (.int (8 : Int32))) (fun h => by rw [Bd.returns] at h; cases h)
 refine ⟨_, _, p101 _ (retI X0 hx Bd.returns (hb hby d23_58) hr), hrun, hended, _, _, rfl, ?_, ⟨_, rfl⟩, hW, hsame.mono (by decide) (by decide)⟩
 show Q23_U4 Z  h0 n0 _ s₁.heap _
 rw [e0]
 exact ⟨rfl, N0, rfl⟩
theorem d22_0 : decode jdk_52_method_2_code 0 = .ok (.iload_n 0, 1) := by decide +kernel
theorem d22_1 : decode jdk_52_method_2_code 1 = .ok (.invokestatic 11, 3) := by decide +kernel
theorem d22_4 : decode jdk_52_method_2_code 4 = .ok (.newarray .byte, 2) := by decide +kernel
theorem d22_6 : decode jdk_52_method_2_code 6 = .ok (.areturn, 1) := by decide +kernel
theorem pd11 : parseMethodDescriptor "(I)I" = some ⟨[.int], some .int⟩ := by decide +kernel
theorem pn22 : plainFor (⟨"java/lang/StringUTF16", "newBytesFor", "(I)[B"⟩ : MethodName) = true := plainFor_of_name (by first | (simp [plainName, overriddenIn]; done) | decide +kernel)
theorem ef_rm22_U4 (m : MethodId)  : entryFrame m #[(.int (4 : Int32))] 1 = mkF m 0 #[.val (.int (4 : Int32))] [] := by first | (simp [entryFrame, mkF, argsToLocals, Value.category]; done) | rfl
def Q22_U4 (Z : State)  (h0 : Heap) (n0 : Nat) (v : Option Value) (h : Heap) (L : List Loc) : Prop := ∃ (b : Addr) (kb : ClassId), v = some (.ref b) ∧ Fr n0 L ∧ (Keep h0 h []) ∧ (n0 ≤ b) ∧ (h0.size ≤ b) ∧ (Arv Z h b kb .byte (8 : Int32) [(.int (0 : Int32)), (.int (0 : Int32)), (.int (0 : Int32)), (.int (0 : Int32)), (.int (0 : Int32)), (.int (0 : Int32)), (.int (0 : Int32)), (.int (0 : Int32))] (.int (0 : Int32)))
set_option maxRecDepth 65536 in
set_option maxHeartbeats 40000000 in
theorem rm22_U4 (l : Launch) (Z : State) (a0 : Array Value) (hw : ∀ d ∈ tables_1, d.before a0 Z = true) (ws : List Jvm.Cond)  (h0 : Heap) (n0 : Nat) (Z0 : n0 ≤ h0.size) :
  MetFree l (⟨"java/lang/StringUTF16", "newBytesFor", "(I)[B"⟩ : MethodName) (head1 (Jvm.Cond.code (⟨"java/lang/StringUTF16", "newBytesFor", "(I)[B"⟩ : MethodName) jdk_52_method_2_code 1 (some (.array .byte)) :: ws) ({ frames := 1, cells := 1, slots := 8, locals := 12 } : Room)) (fun a U => a = #[(.int (4 : Int32))] ∧ Z.Warmed39 U.vm ∧ U.heap = h0) (fun _ _ _ _ _ => True) (fun _ U o U' => ∃ v L, o = .returned v ∧ Q22_U4 Z  h0 n0 v U'.heap L ∧ FrameEnd U o U' L ({ frames := 1, cells := 1, slots := 8, locals := 12 } : Room).cells ({ frames := 1, cells := 1, slots := 8, locals := 12 } : Room).slots) := by
 refine MetFree.of_bodySF pn22 hisR ?_
 intro p e s m args below meth c s₁ Bd hml0 hP hK
 obtain ⟨rfl, hZ, hh⟩ := hP
 have hx := Bd.exec
 have hby := Bd.bytes
 have hml : c.maxLocals = 1 := hml0
 have hown : s.vm.findClass "java/lang/StringUTF16" = some m.cls := findClass_of_methodNamed Bd.named
 have hnm := (name_of_methodNamed Bd.named Bd.method).1
 have X0 : Stand p l e ({ frames := 1, cells := 1, slots := 8, locals := 12 } : Room) s m #[(.int (4 : Int32))] below meth c s₁ [] 0 0 := Stand.of_body Bd
 have e0 : s₁.heap = h0 := by rw [← hh, Bd.state]; rfl
 have N0 := Fr.nil n0
 have p0 : Go p.tables e below (s₁.setTop (entryFrame m #[(.int (4 : Int32))] 1)) (s₁.setTop (mkF m 0 #[.val (.int (4 : Int32))] [])) := fun t_ k_ => castTop (ef_rm22_U4 m ) k_
 have p101 : Go p.tables e below _ (s₁.setTop (mkF m 1 #[.val (.int (4 : Int32))] [(.int (4 : Int32))])) := fun t_ k_ => p0 t_ (by
  refine XS.iloadN X0.here hx rfl (hb hby d22_0) rfl ?_
  exact k_)
 obtain ⟨_, _, ⟨T102, L102, k102, n102⟩, -, X102, ⟨Lc102, hQ102, l102, y102, z102⟩, st102⟩ := Jvm.LawKit.callS X0 hx (y := (⟨"java/lang/StringUTF16", "newBytesLength", "(I)I"⟩ : MethodName)) hown (mvT hZ (own_w hw 109 rfl)) (mvT hZ (own_w hw 110 rfl)) (mvT hZ (own_w hw 22 rfl)) (mvT hZ (own_w hw 111 rfl)) (by decide) (backOf (W := 0) (rm23_U4 l Z a0 hw []  h0 n0 (Nat.le_trans Z0 (Keep.refl h0 []).1) ) hZ (own_w hw 111 rfl) (own_w hw 22 rfl) (by decide) (by decide)) (g := (mkF m 1 #[.val (.int (4 : Int32))] [(.int (4 : Int32))])) rfl (by rw [hml]; rfl) (argsL := [(.int (4 : Int32))]) (rest := []) (lenOf pd11 rfl) rfl (by show 2 * 0 + _ ≤ _; exact Nat.le_of_eq rfl) (hb hby d22_1) (fun _ _ => ⟨rfl, e0, (by decide : 0 + 0 ≤ _), (by decide : 0 + 0 ≤ _)⟩)
 dsimp only [Pt.U, Pt.locs, Pt.cells, Pt.slots] at X102 l102 y102 z102 st102 hQ102
 subst l102 y102 z102
 obtain ⟨rfl, N102q, q102_hh⟩ := hQ102
 have N102 := Fr.app N0 N102q
 obtain ⟨T103, h103, k103, X103, e103, E103, A103, st103⟩ := newP X102 hx hZ (own_w hw 24 rfl) q102_hh (g := (mkF m 4 #[.val (.int (4 : Int32))] [(.int (8 : Int32))])) rfl (hb hby d22_4) rfl (by decide) (cap := 8) (by decide) (by decide) (by decide) (by decide)
 obtain ⟨b103, g103⟩ : ∃ z, z = h0.size := ⟨_, rfl⟩
 rw [← g103] at A103 st103
 have ge_b103 : n0 ≤ b103 := Nat.le_trans (Nat.le_trans Z0 (Keep.refl h0 []).1) (Nat.le_of_eq g103.symm)
 have sz_b103 : h0.size ≤ b103 := Nat.le_trans (Keep.refl h0 []).1 (Nat.le_of_eq g103.symm)
 have K104 : Keep h0 h103 [] := (Keep.refl h0 []).ext E103
 have V103 : Arv Z h103 b103 k103 .byte (8 : Int32) [(.int (0 : Int32)), (.int (0 : Int32)), (.int (0 : Int32)), (.int (0 : Int32)), (.int (0 : Int32)), (.int (0 : Int32)), (.int (0 : Int32)), (.int (0 : Int32))] (.int (0 : Int32)) := (Arv.new A103 (by decide)).pad (pad_rep [] (.int (0 : Int32)) 8)
 obtain ⟨fs, hr, hrun, hended, hW, hsame⟩ := X103.leave (v := some (.ref b103)) (fun h => by rw [Bd.returns] at h; cases h)
 refine ⟨_, _, (gc (gc p101 st102) st103) _ (retOut X103 hx (w := (.ref b103)) (i := .areturn) Bd.returns rfl (Or.inr (Or.inr (Or.inr (Or.inr ⟨rfl, rfl, rfl⟩)))) (hb hby d22_6) hr), hrun, hended, _, _, rfl, ?_, ⟨_, rfl⟩, hW, hsame.mono (by decide) (by decide)⟩
 show Q22_U4 Z  h0 n0 _ T103.heap _
 rw [e103]
 exact ⟨b103, k103, rfl, N102, K104, ge_b103, sz_b103, V103⟩
theorem d24_0 : decode jdk_52_method_4_code 0 = .ok (.getstatic 44, 3) := by decide +kernel
theorem d24_3 : decode jdk_52_method_4_code 3 = .ok (.ifCond .ne 25, 3) := by decide +kernel
theorem d24_28 : decode jdk_52_method_4_code 28 = .ok (.iload_n 1, 1) := by decide +kernel
theorem d24_29 : decode jdk_52_method_4_code 29 = .ok (.iconst 1, 1) := by decide +kernel
theorem d24_30 : decode jdk_52_method_4_code 30 = .ok (.ishl, 1) := by decide +kernel
theorem d24_31 : decode jdk_52_method_4_code 31 = .ok (.istore_n 1, 1) := by decide +kernel
theorem d24_32 : decode jdk_52_method_4_code 32 = .ok (.aload_n 0, 1) := by decide +kernel
theorem d24_33 : decode jdk_52_method_4_code 33 = .ok (.iload_n 1, 1) := by decide +kernel
theorem d24_34 : decode jdk_52_method_4_code 34 = .ok (.iinc 1 1, 3) := by decide +kernel
theorem d24_37 : decode jdk_52_method_4_code 37 = .ok (.iload_n 2, 1) := by decide +kernel
theorem d24_38 : decode jdk_52_method_4_code 38 = .ok (.getstatic 59, 3) := by decide +kernel
theorem d24_41 : decode jdk_52_method_4_code 41 = .ok (.ishr, 1) := by decide +kernel
theorem d24_42 : decode jdk_52_method_4_code 42 = .ok (.i2b, 1) := by decide +kernel
theorem d24_43 : decode jdk_52_method_4_code 43 = .ok (.bastore, 1) := by decide +kernel
theorem d24_44 : decode jdk_52_method_4_code 44 = .ok (.aload_n 0, 1) := by decide +kernel
theorem d24_45 : decode jdk_52_method_4_code 45 = .ok (.iload_n 1, 1) := by decide +kernel
theorem d24_46 : decode jdk_52_method_4_code 46 = .ok (.iload_n 2, 1) := by decide +kernel
theorem d24_47 : decode jdk_52_method_4_code 47 = .ok (.getstatic 63, 3) := by decide +kernel
theorem d24_50 : decode jdk_52_method_4_code 50 = .ok (.ishr, 1) := by decide +kernel
theorem d24_51 : decode jdk_52_method_4_code 51 = .ok (.i2b, 1) := by decide +kernel
theorem d24_52 : decode jdk_52_method_4_code 52 = .ok (.bastore, 1) := by decide +kernel
theorem d24_53 : decode jdk_52_method_4_code 53 = .ok (.return_, 1) := by decide +kernel
theorem pn24 : plainFor (⟨"java/lang/StringUTF16", "putChar", "([BII)V"⟩ : MethodName) = true := plainFor_of_name (by first | (simp [plainName, overriddenIn]; done) | decide +kernel)
theorem ef_rm24 (m : MethodId) (a1 : Addr) (p2 : Int32) (cv : Int32) (kv : ClassId) (z : Int32) (vs : List Value) (j : Nat) (cs1 : Int32) (fm : Value) : entryFrame m #[(.ref a1), (.int p2), (.int cv)] 3 = mkF m 0 #[.val (.ref a1), .val (.int p2), .val (.int cv)] [] := by first | (simp [entryFrame, mkF, argsToLocals, Value.category]; done) | rfl
def Q24 (Z : State) (a1 : Addr) (p2 : Int32) (cv : Int32) (kv : ClassId) (z : Int32) (vs : List Value) (j : Nat) (cs1 : Int32) (fm : Value) (h0 : Heap) (n0 : Nat) (v : Option Value) (h : Heap) (L : List Loc) : Prop := v = none ∧ Fr n0 L ∧ (Keep h0 h [a1]) ∧ (Arv Z h a1 kv .byte z ((vs.set j (.int (own_x0 cv))).set (j + 1) (.int (own_x8 cv))) (.int (0 : Int32)))
set_option maxRecDepth 65536 in
set_option maxHeartbeats 40000000 in
theorem rm24 (l : Launch) (Z : State) (a0 : Array Value) (hw : ∀ d ∈ tables_1, d.before a0 Z = true) (ws : List Jvm.Cond) (a1 : Addr) (p2 : Int32) (cv : Int32) (kv : ClassId) (z : Int32) (vs : List Value) (j : Nat) (cs1 : Int32) (fm : Value) (h0 : Heap) (n0 : Nat) (Z0 : n0 ≤ h0.size) (O1 : Old Z n0 h0) (G : own_G Z cs1 fm) (V1 : Arv Z h0 a1 kv .byte z vs (.int (0 : Int32))) (i0 : ¬ (p2 <<< (1 : Int32)) < 0 ∧ (p2 <<< (1 : Int32)) < z) (i1 : ¬ ((p2 <<< (1 : Int32)) + (1 : Int32)) < 0 ∧ ((p2 <<< (1 : Int32)) + (1 : Int32)) < z) (e0' : ((p2 <<< (1 : Int32))).toNatClampNeg = j) (e1' : (((p2 <<< (1 : Int32)) + (1 : Int32))).toNatClampNeg = j + 1) (l0 : j < vs.length) (l1 : j + 1 < vs.length) (g1 : n0 ≤ a1) :
  MetFree l (⟨"java/lang/StringUTF16", "putChar", "([BII)V"⟩ : MethodName) (head1 (Jvm.Cond.code (⟨"java/lang/StringUTF16", "putChar", "([BII)V"⟩ : MethodName) jdk_52_method_4_code 3 none :: ws) ({ frames := 0, cells := 0, slots := 0, locals := 0 } : Room)) (fun a U => a = #[(.ref a1), (.int p2), (.int cv)] ∧ Z.Warmed39 U.vm ∧ U.heap = h0) (fun _ _ _ _ _ => True) (fun _ U o U' => ∃ v L, o = .returned v ∧ Q24 Z a1 p2 cv kv z vs j cs1 fm h0 n0 v U'.heap L ∧ FrameEnd U o U' L ({ frames := 0, cells := 0, slots := 0, locals := 0 } : Room).cells ({ frames := 0, cells := 0, slots := 0, locals := 0 } : Room).slots) := by
 refine MetFree.of_bodySF pn24 hisR ?_
 intro p e s m args below meth c s₁ Bd hml0 hP hK
 obtain ⟨rfl, hZ, hh⟩ := hP
 have hx := Bd.exec
 have hby := Bd.bytes
 have hml : c.maxLocals = 3 := hml0
 have hown : s.vm.findClass "java/lang/StringUTF16" = some m.cls := findClass_of_methodNamed Bd.named
 have hnm := (name_of_methodNamed Bd.named Bd.method).1
 have X0 : Stand p l e ({ frames := 0, cells := 0, slots := 0, locals := 0 } : Room) s m #[(.ref a1), (.int p2), (.int cv)] below meth c s₁ [] 0 0 := Stand.of_body Bd
 have e0 : s₁.heap = h0 := by rw [← hh, Bd.state]; rfl
 have N0 := Fr.nil n0
 have p0 : Go p.tables e below (s₁.setTop (entryFrame m #[(.ref a1), (.int p2), (.int cv)] 3)) (s₁.setTop (mkF m 0 #[.val (.ref a1), .val (.int p2), .val (.int cv)] [])) := fun t_ k_ => castTop (ef_rm24 m a1 p2 cv kv z vs j cs1 fm) k_
 obtain ⟨T101, X101, e101, st101⟩ := getS2 X0 hx hZ hown (host := "") (Or.inl (own_w hw 116 rfl)) Via.refl e0 (G.2.2.2.2.1.ext O1.2) (g := (mkF m 0 #[.val (.ref a1), .val (.int p2), .val (.int cv)] [])) rfl (hb hby d24_0)
 have p102 : Go p.tables e below _ (T101.setTop (mkF m 38 #[.val (.ref a1), .val (.int ((p2 <<< (1 : Int32)) + (1 : Int32))), .val (.int cv)] [(.int cv), (.int (p2 <<< (1 : Int32))), (.ref a1)])) := fun t_ k_ => (gc p0 st101) t_ (by
  refine XS.ifYes X101.here hx rfl (pc0 := 3) (pc' := 28) rfl (hb hby d24_3) rfl ((if0 _ _).trans (feq (by decide : ¬ ((1 : Int32) = (0 : Int32)))).2) (by decide) (by decide) ?_
  refine XS.iloadN X101.here hx rfl (hb hby d24_28) rfl ?_
  refine XS.iconst X101.here hx rfl (hb hby d24_29) ?_
  refine XS.ishl X101.here hx rfl (hb hby d24_30) rfl ?_
  refine XS.istoreN X101.here hx rfl (hb hby d24_31) rfl (l' := #[.val (.ref a1), .val (.int (p2 <<< (1 : Int32))), .val (.int cv)]) rfl ?_
  refine XS.aloadN X101.here hx rfl (hb hby d24_32) rfl rfl ?_
  refine XS.iloadN X101.here hx rfl (hb hby d24_33) rfl ?_
  refine XS.iinc X101.here hx rfl (hb hby d24_34) rfl (l' := #[.val (.ref a1), .val (.int ((p2 <<< (1 : Int32)) + (1 : Int32))), .val (.int cv)]) rfl ?_
  refine XS.iloadN X101.here hx rfl (hb hby d24_37) rfl ?_
  exact k_)
 obtain ⟨T103, X103, e103, st103⟩ := getS2 X101 hx hZ hown (host := "") (Or.inl (own_w hw 117 rfl)) Via.refl e101 (G.2.2.2.2.2.1.ext O1.2) (g := (mkF m 38 #[.val (.ref a1), .val (.int ((p2 <<< (1 : Int32)) + (1 : Int32))), .val (.int cv)] [(.int cv), (.int (p2 <<< (1 : Int32))), (.ref a1)])) rfl (hb hby d24_38)
 have p104 : Go p.tables e below _ (T103.setTop (mkF m 43 #[.val (.ref a1), .val (.int ((p2 <<< (1 : Int32)) + (1 : Int32))), .val (.int cv)] [(.int ((cv >>> (0 : Int32)).toInt8.toInt32)), (.int (p2 <<< (1 : Int32))), (.ref a1)])) := fun t_ k_ => (gc p102 st103) t_ (by
  refine XS.ishr X103.here hx rfl (hb hby d24_41) rfl ?_
  refine XS.i2b X103.here hx rfl (hb hby d24_42) rfl ?_
  exact k_)
 obtain ⟨cl105, Ar105, q105, S105, Ng105, H105, G105⟩ := id V1
 have hin105 := inb_of S105 (j := (p2 <<< (1 : Int32))) i0
 obtain ⟨T105, h105, X105, e105, W105, st105⟩ := stB X103 hx hZ e103 Ar105 (j := (p2 <<< (1 : Int32))) hin105 (g := (mkF m 43 #[.val (.ref a1), .val (.int ((p2 <<< (1 : Int32)) + (1 : Int32))), .val (.int cv)] [(.int ((cv >>> (0 : Int32)).toInt8.toInt32)), (.int (p2 <<< (1 : Int32))), (.ref a1)])) rfl rfl (hb hby d24_43)
 have K106 : Keep h0 h105 [a1] := (Keep.refl h0 [a1]).wr W105 (Or.inl (List.mem_of_getElem? (i := 0) rfl))
 have N105 := Fr.snoc X105 N0 g1
 have V105 : Arv Z h105 a1 kv .byte z (vs.set j (.int (own_x0 cv))) (.int (0 : Int32)) := Arv.set Ar105 q105 S105 Ng105 H105 G105 (fits_nar_byte _) W105 j e0' l0
 have f107 := (O1.wr W105 g1)
 have p108 : Go p.tables e below _ (T105.setTop (mkF m 47 #[.val (.ref a1), .val (.int ((p2 <<< (1 : Int32)) + (1 : Int32))), .val (.int cv)] [(.int cv), (.int ((p2 <<< (1 : Int32)) + (1 : Int32))), (.ref a1)])) := fun t_ k_ => (gc p104 st105) t_ (by
  refine XS.aloadN X105.here hx rfl (hb hby d24_44) rfl rfl ?_
  refine XS.iloadN X105.here hx rfl (hb hby d24_45) rfl ?_
  refine XS.iloadN X105.here hx rfl (hb hby d24_46) rfl ?_
  exact k_)
 obtain ⟨T109, X109, e109, st109⟩ := getS2 X105 hx hZ hown (host := "") (Or.inl (own_w hw 118 rfl)) Via.refl e105 (G.2.2.2.2.2.2.ext f107.2) (g := (mkF m 47 #[.val (.ref a1), .val (.int ((p2 <<< (1 : Int32)) + (1 : Int32))), .val (.int cv)] [(.int cv), (.int ((p2 <<< (1 : Int32)) + (1 : Int32))), (.ref a1)])) rfl (hb hby d24_47)
 have p110 : Go p.tables e below _ (T109.setTop (mkF m 52 #[.val (.ref a1), .val (.int ((p2 <<< (1 : Int32)) + (1 : Int32))), .val (.int cv)] [(.int ((cv >>> (8 : Int32)).toInt8.toInt32)), (.int ((p2 <<< (1 : Int32)) + (1 : Int32))), (.ref a1)])) := fun t_ k_ => (gc p108 st109) t_ (by
  refine XS.ishr X109.here hx rfl (hb hby d24_50) rfl ?_
  refine XS.i2b X109.here hx rfl (hb hby d24_51) rfl ?_
  exact k_)
 obtain ⟨cl111, Ar111, q111, S111, Ng111, H111, G111⟩ := id V105
 have hin111 := inb_of S111 (j := ((p2 <<< (1 : Int32)) + (1 : Int32))) i1
 obtain ⟨T111, h111, X111, e111, W111, st111⟩ := stB X109 hx hZ e109 Ar111 (j := ((p2 <<< (1 : Int32)) + (1 : Int32))) hin111 (g := (mkF m 52 #[.val (.ref a1), .val (.int ((p2 <<< (1 : Int32)) + (1 : Int32))), .val (.int cv)] [(.int ((cv >>> (8 : Int32)).toInt8.toInt32)), (.int ((p2 <<< (1 : Int32)) + (1 : Int32))), (.ref a1)])) rfl rfl (hb hby d24_52)
 have K112 : Keep h0 h111 [a1] := K106.wr W111 (Or.inl (List.mem_of_getElem? (i := 0) rfl))
 have N111 := Fr.snoc X111 N105 g1
 have V111 : Arv Z h111 a1 kv .byte z ((vs.set j (.int (own_x0 cv))).set (j + 1) (.int (own_x8 cv))) (.int (0 : Int32)) := Arv.set Ar111 q111 S111 Ng111 H111 G111 (fits_nar_byte _) W111 (j + 1) e1' (by rw [List.length_set]; exact l1)
 obtain ⟨fs, hr, hrun, hended, hW, hsame⟩ := X111.leave (v := none) (fun _ => rfl)
 refine ⟨_, _, (gc p110 st111) _ (X111.returnOut hx Bd.returns (hb hby d24_53) hr), hrun, hended, _, _, rfl, ?_, ⟨_, rfl⟩, hW, hsame.mono (by decide) (by decide)⟩
 show Q24 Z a1 p2 cv kv z vs j cs1 fm h0 n0 _ T111.heap _
 rw [e111]
 exact ⟨rfl, N111, K112, V111⟩
theorem d21_0 : decode jdk_52_method_14_code 0 = .ok (.iload_n 2, 1) := by decide +kernel
theorem d21_1 : decode jdk_52_method_14_code 1 = .ok (.invokestatic 107, 3) := by decide +kernel
theorem d21_4 : decode jdk_52_method_14_code 4 = .ok (.astore_n 3, 1) := by decide +kernel
theorem d21_5 : decode jdk_52_method_14_code 5 = .ok (.iconst 0, 1) := by decide +kernel
theorem d21_6 : decode jdk_52_method_14_code 6 = .ok (.istore 4, 2) := by decide +kernel
theorem d21_8 : decode jdk_52_method_14_code 8 = .ok (.iload 4, 2) := by decide +kernel
theorem d21_10 : decode jdk_52_method_14_code 10 = .ok (.iload_n 2, 1) := by decide +kernel
theorem d21_11 : decode jdk_52_method_14_code 11 = .ok (.if_icmp .ge 21, 3) := by decide +kernel
theorem d21_14 : decode jdk_52_method_14_code 14 = .ok (.aload_n 3, 1) := by decide +kernel
theorem d21_15 : decode jdk_52_method_14_code 15 = .ok (.iload 4, 2) := by decide +kernel
theorem d21_17 : decode jdk_52_method_14_code 17 = .ok (.aload_n 0, 1) := by decide +kernel
theorem d21_18 : decode jdk_52_method_14_code 18 = .ok (.iload_n 1, 1) := by decide +kernel
theorem d21_19 : decode jdk_52_method_14_code 19 = .ok (.caload, 1) := by decide +kernel
theorem d21_20 : decode jdk_52_method_14_code 20 = .ok (.invokestatic 111, 3) := by decide +kernel
theorem d21_23 : decode jdk_52_method_14_code 23 = .ok (.iinc 1 1, 3) := by decide +kernel
theorem d21_26 : decode jdk_52_method_14_code 26 = .ok (.iinc 4 1, 3) := by decide +kernel
theorem d21_29 : decode jdk_52_method_14_code 29 = .ok (.goto (-21), 3) := by decide +kernel
theorem d21_32 : decode jdk_52_method_14_code 32 = .ok (.aload_n 3, 1) := by decide +kernel
theorem d21_33 : decode jdk_52_method_14_code 33 = .ok (.areturn, 1) := by decide +kernel
theorem pd12 : parseMethodDescriptor "(I)[B" = some ⟨[.int], some (.array .byte)⟩ := by decide +kernel
theorem pd13 : parseMethodDescriptor "([BII)V" = some ⟨[(.array .byte), .int, .int], none⟩ := by decide +kernel
theorem pn21 : plainFor (⟨"java/lang/StringUTF16", "toBytes", "([CII)[B"⟩ : MethodName) = true := plainFor_of_name (by first | (simp [plainName, overriddenIn]; done) | decide +kernel)
theorem ef_rm21_U4 (m : MethodId) (a1 : Addr) (k1 : ClassId) (c0 : Int32) (c1 : Int32) (c2 : Int32) (c3 : Int32) (cs1 : Int32) (fm : Value) : entryFrame m #[(.ref a1), (.int (0 : Int32)), (.int (4 : Int32))] 5 = mkF m 0 #[.val (.ref a1), .val (.int (0 : Int32)), .val (.int (4 : Int32)), .unset, .unset] [] := by first | (simp [entryFrame, mkF, argsToLocals, Value.category]; done) | rfl
def Q21_U4 (Z : State) (a1 : Addr) (k1 : ClassId) (c0 : Int32) (c1 : Int32) (c2 : Int32) (c3 : Int32) (cs1 : Int32) (fm : Value) (h0 : Heap) (n0 : Nat) (v : Option Value) (h : Heap) (L : List Loc) : Prop := ∃ (b : Addr) (kb : ClassId), v = some (.ref b) ∧ Fr n0 L ∧ (Keep h0 h []) ∧ (n0 ≤ b) ∧ (h0.size ≤ b) ∧ (Arv Z h b kb .byte (8 : Int32) [(.int (own_x0 c0)), (.int (own_x8 c0)), (.int (own_x0 c1)), (.int (own_x8 c1)), (.int (own_x0 c2)), (.int (own_x8 c2)), (.int (own_x0 c3)), (.int (own_x8 c3))] (.int (0 : Int32)))
set_option maxRecDepth 65536 in
set_option maxHeartbeats 40000000 in
theorem rm21_U4 (l : Launch) (Z : State) (a0 : Array Value) (hw : ∀ d ∈ tables_1, d.before a0 Z = true) (ws : List Jvm.Cond) (a1 : Addr) (k1 : ClassId) (c0 : Int32) (c1 : Int32) (c2 : Int32) (c3 : Int32) (cs1 : Int32) (fm : Value) (h0 : Heap) (n0 : Nat) (Z0 : n0 ≤ h0.size) (O1 : Old Z n0 h0) (G : own_G Z cs1 fm) (V1 : Arv Z h0 a1 k1 .char (4 : Int32) [(.int c0), (.int c1), (.int c2), (.int c3)] (.int (0 : Int32))) :
  MetFree l (⟨"java/lang/StringUTF16", "toBytes", "([CII)[B"⟩ : MethodName) (head1 (Jvm.Cond.code (⟨"java/lang/StringUTF16", "toBytes", "([CII)[B"⟩ : MethodName) jdk_52_method_14_code 5 (some (.array .byte)) :: ws) ({ frames := 2, cells := 1, slots := 8, locals := 24 } : Room)) (fun a U => a = #[(.ref a1), (.int (0 : Int32)), (.int (4 : Int32))] ∧ Z.Warmed39 U.vm ∧ U.heap = h0) (fun _ _ _ _ _ => True) (fun _ U o U' => ∃ v L, o = .returned v ∧ Q21_U4 Z a1 k1 c0 c1 c2 c3 cs1 fm h0 n0 v U'.heap L ∧ FrameEnd U o U' L ({ frames := 2, cells := 1, slots := 8, locals := 24 } : Room).cells ({ frames := 2, cells := 1, slots := 8, locals := 24 } : Room).slots) := by
 refine MetFree.of_bodySF pn21 hisR ?_
 intro p e s m args below meth c s₁ Bd hml0 hP hK
 obtain ⟨rfl, hZ, hh⟩ := hP
 have hx := Bd.exec
 have hby := Bd.bytes
 have hml : c.maxLocals = 5 := hml0
 have hown : s.vm.findClass "java/lang/StringUTF16" = some m.cls := findClass_of_methodNamed Bd.named
 have hnm := (name_of_methodNamed Bd.named Bd.method).1
 have X0 : Stand p l e ({ frames := 2, cells := 1, slots := 8, locals := 24 } : Room) s m #[(.ref a1), (.int (0 : Int32)), (.int (4 : Int32))] below meth c s₁ [] 0 0 := Stand.of_body Bd
 have e0 : s₁.heap = h0 := by rw [← hh, Bd.state]; rfl
 have N0 := Fr.nil n0
 have p0 : Go p.tables e below (s₁.setTop (entryFrame m #[(.ref a1), (.int (0 : Int32)), (.int (4 : Int32))] 5)) (s₁.setTop (mkF m 0 #[.val (.ref a1), .val (.int (0 : Int32)), .val (.int (4 : Int32)), .unset, .unset] [])) := fun t_ k_ => castTop (ef_rm21_U4 m a1 k1 c0 c1 c2 c3 cs1 fm) k_
 have p101 : Go p.tables e below _ (s₁.setTop (mkF m 1 #[.val (.ref a1), .val (.int (0 : Int32)), .val (.int (4 : Int32)), .unset, .unset] [(.int (4 : Int32))])) := fun t_ k_ => p0 t_ (by
  refine XS.iloadN X0.here hx rfl (hb hby d21_0) rfl ?_
  exact k_)
 obtain ⟨_, _, ⟨T102, L102, k102, n102⟩, -, X102, ⟨Lc102, hQ102, l102, y102, z102⟩, st102⟩ := Jvm.LawKit.callS X0 hx (y := (⟨"java/lang/StringUTF16", "newBytesFor", "(I)[B"⟩ : MethodName)) hown (mvT hZ (own_w hw 106 rfl)) (mvT hZ (own_w hw 107 rfl)) (mvT hZ (own_w hw 22 rfl)) (mvT hZ (own_w hw 108 rfl)) (by decide) (backOf (W := 0) (rm22_U4 l Z a0 hw []  h0 n0 (Nat.le_trans Z0 (Keep.refl h0 []).1) ) hZ (own_w hw 108 rfl) (own_w hw 22 rfl) (by decide) (by decide)) (g := (mkF m 1 #[.val (.ref a1), .val (.int (0 : Int32)), .val (.int (4 : Int32)), .unset, .unset] [(.int (4 : Int32))])) rfl (by rw [hml]; rfl) (argsL := [(.int (4 : Int32))]) (rest := []) (lenOf pd12 rfl) rfl (by show 2 * 0 + _ ≤ _; exact Nat.le_of_eq rfl) (hb hby d21_1) (fun _ _ => ⟨rfl, e0, (by decide : 0 + 1 ≤ _), (by decide : 0 + 8 ≤ _)⟩)
 dsimp only [Pt.U, Pt.locs, Pt.cells, Pt.slots] at X102 l102 y102 z102 st102 hQ102
 subst l102 y102 z102
 obtain ⟨x103, x104, rfl, N102q, q102_K, q102_g, q102_z, q102_V⟩ := hQ102
 have N102 := Fr.app N0 N102q
 have K105 : Keep h0 T102.heap [] := (Keep.refl h0 []).trans q102_K all0
 have ne_a1_x103 : a1 ≠ x103 := Nat.ne_of_lt (Nat.lt_of_lt_of_le V1.lt q102_z)
 have p106 : Go p.tables e below _ (T102.setTop (mkF m 19 #[.val (.ref a1), .val (.int (0 : Int32)), .val (.int (4 : Int32)), .val (.ref x103), .val (.int (0 : Int32))] [(.int (0 : Int32)), (.ref a1), (.int (0 : Int32)), (.ref x103)])) := fun t_ k_ => (gc p101 st102) t_ (by
  refine XS.astoreN X102.here hx rfl (hb hby d21_4) rfl rfl (l' := #[.val (.ref a1), .val (.int (0 : Int32)), .val (.int (4 : Int32)), .val (.ref x103), .unset]) rfl ?_
  refine XS.iconst X102.here hx rfl (hb hby d21_5) ?_
  refine XS.istore X102.here hx rfl (hb hby d21_6) rfl (l' := #[.val (.ref a1), .val (.int (0 : Int32)), .val (.int (4 : Int32)), .val (.ref x103), .val (.int (0 : Int32))]) rfl ?_
  refine XS.iload X102.here hx rfl (hb hby d21_8) rfl ?_
  refine XS.iloadN X102.here hx rfl (hb hby d21_10) rfl ?_
  refine XS.icmpNo X102.here hx rfl (hb hby d21_11) rfl (tlt (by decide : ((0 : Int32) < (4 : Int32)))).2.1 ?_
  refine XS.aloadN X102.here hx rfl (hb hby d21_14) rfl rfl ?_
  refine XS.iload X102.here hx rfl (hb hby d21_15) rfl ?_
  refine XS.aloadN X102.here hx rfl (hb hby d21_17) rfl rfl ?_
  refine XS.iloadN X102.here hx rfl (hb hby d21_18) rfl ?_
  exact k_)
 have f108 := (V1.keep q102_K nin0)
 obtain ⟨cl107, Ar107, q107, S107, Ng107, H107, G107⟩ := id f108
 have hin107 := inb_of S107 (j := (0 : Int32)) ⟨by decide, by decide⟩
 have hat107 := H107.at (v := (.int c0)) hin107 rfl
 have p109 : Go p.tables e below _ (T102.setTop (mkF m 20 #[.val (.ref a1), .val (.int (0 : Int32)), .val (.int (4 : Int32)), .val (.ref x103), .val (.int (0 : Int32))] [(.int c0), (.int (0 : Int32)), (.ref x103)])) := fun t_ k_ => p106 t_ (by
  refine X102.caload hx (j := (0 : Int32)) (v := (.int c0)) Ar107.1 (State.isArrayOf_alike hZ.alike Ar107.2.1) Ar107.2.2 hin107 hat107 (g := (mkF m 19 #[.val (.ref a1), .val (.int (0 : Int32)), .val (.int (4 : Int32)), .val (.ref x103), .val (.int (0 : Int32))] [(.int (0 : Int32)), (.ref a1), (.int (0 : Int32)), (.ref x103)])) rfl rfl (hb hby d21_19) _ ?_
  exact k_)
 have f110 := (O1.keep q102_K all0)
 obtain ⟨_, _, ⟨T111, L111, k111, n111⟩, -, X111, ⟨Lc111, hQ111, l111, y111, z111⟩, st111⟩ := Jvm.LawKit.callS X102 hx (y := (⟨"java/lang/StringUTF16", "putChar", "([BII)V"⟩ : MethodName)) hown (mvT hZ (own_w hw 113 rfl)) (mvT hZ (own_w hw 114 rfl)) (mvT hZ (own_w hw 22 rfl)) (mvT hZ (own_w hw 115 rfl)) (by decide) (backOf (W := 0) (rm24 l Z a0 hw [] x103 (0 : Int32) c0 x104 (8 : Int32) [(.int (0 : Int32)), (.int (0 : Int32)), (.int (0 : Int32)), (.int (0 : Int32)), (.int (0 : Int32)), (.int (0 : Int32)), (.int (0 : Int32)), (.int (0 : Int32))] 0 cs1 fm T102.heap n0 (Nat.le_trans Z0 K105.1) f110 G q102_V (by decide) (by decide) rfl rfl (Nat.le_of_ble_eq_true rfl) (Nat.le_of_ble_eq_true rfl) q102_g) hZ (own_w hw 115 rfl) (own_w hw 22 rfl) (by decide) (by decide)) (g := (mkF m 20 #[.val (.ref a1), .val (.int (0 : Int32)), .val (.int (4 : Int32)), .val (.ref x103), .val (.int (0 : Int32))] [(.int c0), (.int (0 : Int32)), (.ref x103)])) rfl (by rw [hml]; rfl) (argsL := [(.ref x103), (.int (0 : Int32)), (.int c0)]) (rest := []) (lenOf pd13 rfl) rfl (by show 2 * 0 + _ ≤ _; exact Nat.le_of_eq rfl) (hb hby d21_20) (fun _ _ => ⟨rfl, rfl, (by decide : 1 + 0 ≤ _), (by decide : 8 + 0 ≤ _)⟩)
 dsimp only [Pt.U, Pt.locs, Pt.cells, Pt.slots] at X111 l111 y111 z111 st111 hQ111
 subst l111 y111 z111
 obtain ⟨rfl, N111q, q111_K, q111_V⟩ := hQ111
 have N111 := Fr.app N102 N111q
 have K112 : Keep h0 T111.heap [] := K105.trans q111_K (allS (Or.inr (Nat.le_trans (Keep.refl h0 []).1 q102_z)) all0)
 have f113 : Arv Z T111.heap x103 x104 .byte (8 : Int32) [(.int (own_x0 c0)), (.int (own_x8 c0)), (.int (0 : Int32)), (.int (0 : Int32)), (.int (0 : Int32)), (.int (0 : Int32)), (.int (0 : Int32)), (.int (0 : Int32))] (.int (0 : Int32)) := q111_V
 have p114 : Go p.tables e below _ (T111.setTop (mkF m 19 #[.val (.ref a1), .val (.int (1 : Int32)), .val (.int (4 : Int32)), .val (.ref x103), .val (.int (1 : Int32))] [(.int (1 : Int32)), (.ref a1), (.int (1 : Int32)), (.ref x103)])) := fun t_ k_ => (gc p109 st111) t_ (by
  refine XS.iinc X111.here hx rfl (hb hby d21_23) rfl (l' := #[.val (.ref a1), .val (.int (1 : Int32)), .val (.int (4 : Int32)), .val (.ref x103), .val (.int (0 : Int32))]) rfl ?_
  refine XS.iinc X111.here hx rfl (hb hby d21_26) rfl (l' := #[.val (.ref a1), .val (.int (1 : Int32)), .val (.int (4 : Int32)), .val (.ref x103), .val (.int (1 : Int32))]) rfl ?_
  refine XS.goto X111.here hx rfl (pc0 := 29) (pc' := 8) rfl (hb hby d21_29) (by decide) (by decide) ?_
  refine XS.iload X111.here hx rfl (hb hby d21_8) rfl ?_
  refine XS.iloadN X111.here hx rfl (hb hby d21_10) rfl ?_
  refine XS.icmpNo X111.here hx rfl (hb hby d21_11) rfl (tlt (by decide : ((1 : Int32) < (4 : Int32)))).2.1 ?_
  refine XS.aloadN X111.here hx rfl (hb hby d21_14) rfl rfl ?_
  refine XS.iload X111.here hx rfl (hb hby d21_15) rfl ?_
  refine XS.aloadN X111.here hx rfl (hb hby d21_17) rfl rfl ?_
  refine XS.iloadN X111.here hx rfl (hb hby d21_18) rfl ?_
  exact k_)
 have f116 := (f108.keep q111_K (ninS ne_a1_x103 nin0))
 obtain ⟨cl115, Ar115, q115, S115, Ng115, H115, G115⟩ := id f116
 have hin115 := inb_of S115 (j := (1 : Int32)) ⟨by decide, by decide⟩
 have hat115 := H115.at (v := (.int c1)) hin115 rfl
 have p117 : Go p.tables e below _ (T111.setTop (mkF m 20 #[.val (.ref a1), .val (.int (1 : Int32)), .val (.int (4 : Int32)), .val (.ref x103), .val (.int (1 : Int32))] [(.int c1), (.int (1 : Int32)), (.ref x103)])) := fun t_ k_ => p114 t_ (by
  refine X111.caload hx (j := (1 : Int32)) (v := (.int c1)) Ar115.1 (State.isArrayOf_alike hZ.alike Ar115.2.1) Ar115.2.2 hin115 hat115 (g := (mkF m 19 #[.val (.ref a1), .val (.int (1 : Int32)), .val (.int (4 : Int32)), .val (.ref x103), .val (.int (1 : Int32))] [(.int (1 : Int32)), (.ref a1), (.int (1 : Int32)), (.ref x103)])) rfl rfl (hb hby d21_19) _ ?_
  exact k_)
 have f118 := (f110.keep q111_K (allS q102_g all0))
 obtain ⟨_, _, ⟨T119, L119, k119, n119⟩, -, X119, ⟨Lc119, hQ119, l119, y119, z119⟩, st119⟩ := Jvm.LawKit.callS X111 hx (y := (⟨"java/lang/StringUTF16", "putChar", "([BII)V"⟩ : MethodName)) hown (mvT hZ (own_w hw 113 rfl)) (mvT hZ (own_w hw 114 rfl)) (mvT hZ (own_w hw 22 rfl)) (mvT hZ (own_w hw 115 rfl)) (by decide) (backOf (W := 0) (rm24 l Z a0 hw [] x103 (1 : Int32) c1 x104 (8 : Int32) [(.int (own_x0 c0)), (.int (own_x8 c0)), (.int (0 : Int32)), (.int (0 : Int32)), (.int (0 : Int32)), (.int (0 : Int32)), (.int (0 : Int32)), (.int (0 : Int32))] 2 cs1 fm T111.heap n0 (Nat.le_trans Z0 K112.1) f118 G f113 (by decide) (by decide) rfl rfl (Nat.le_of_ble_eq_true rfl) (Nat.le_of_ble_eq_true rfl) q102_g) hZ (own_w hw 115 rfl) (own_w hw 22 rfl) (by decide) (by decide)) (g := (mkF m 20 #[.val (.ref a1), .val (.int (1 : Int32)), .val (.int (4 : Int32)), .val (.ref x103), .val (.int (1 : Int32))] [(.int c1), (.int (1 : Int32)), (.ref x103)])) rfl (by rw [hml]; rfl) (argsL := [(.ref x103), (.int (1 : Int32)), (.int c1)]) (rest := []) (lenOf pd13 rfl) rfl (by show 2 * 0 + _ ≤ _; exact Nat.le_of_eq rfl) (hb hby d21_20) (fun _ _ => ⟨rfl, rfl, (by decide : 1 + 0 ≤ _), (by decide : 8 + 0 ≤ _)⟩)
 dsimp only [Pt.U, Pt.locs, Pt.cells, Pt.slots] at X119 l119 y119 z119 st119 hQ119
 subst l119 y119 z119
 obtain ⟨rfl, N119q, q119_K, q119_V⟩ := hQ119
 have N119 := Fr.app N111 N119q
 have K120 : Keep h0 T119.heap [] := K112.trans q119_K (allS (Or.inr (Nat.le_trans (Keep.refl h0 []).1 q102_z)) all0)
 have f121 : Arv Z T119.heap x103 x104 .byte (8 : Int32) [(.int (own_x0 c0)), (.int (own_x8 c0)), (.int (own_x0 c1)), (.int (own_x8 c1)), (.int (0 : Int32)), (.int (0 : Int32)), (.int (0 : Int32)), (.int (0 : Int32))] (.int (0 : Int32)) := q119_V
 have p122 : Go p.tables e below _ (T119.setTop (mkF m 19 #[.val (.ref a1), .val (.int (2 : Int32)), .val (.int (4 : Int32)), .val (.ref x103), .val (.int (2 : Int32))] [(.int (2 : Int32)), (.ref a1), (.int (2 : Int32)), (.ref x103)])) := fun t_ k_ => (gc p117 st119) t_ (by
  refine XS.iinc X119.here hx rfl (hb hby d21_23) rfl (l' := #[.val (.ref a1), .val (.int (2 : Int32)), .val (.int (4 : Int32)), .val (.ref x103), .val (.int (1 : Int32))]) rfl ?_
  refine XS.iinc X119.here hx rfl (hb hby d21_26) rfl (l' := #[.val (.ref a1), .val (.int (2 : Int32)), .val (.int (4 : Int32)), .val (.ref x103), .val (.int (2 : Int32))]) rfl ?_
  refine XS.goto X119.here hx rfl (pc0 := 29) (pc' := 8) rfl (hb hby d21_29) (by decide) (by decide) ?_
  refine XS.iload X119.here hx rfl (hb hby d21_8) rfl ?_
  refine XS.iloadN X119.here hx rfl (hb hby d21_10) rfl ?_
  refine XS.icmpNo X119.here hx rfl (hb hby d21_11) rfl (tlt (by decide : ((2 : Int32) < (4 : Int32)))).2.1 ?_
  refine XS.aloadN X119.here hx rfl (hb hby d21_14) rfl rfl ?_
  refine XS.iload X119.here hx rfl (hb hby d21_15) rfl ?_
  refine XS.aloadN X119.here hx rfl (hb hby d21_17) rfl rfl ?_
  refine XS.iloadN X119.here hx rfl (hb hby d21_18) rfl ?_
  exact k_)
 have f124 := (f116.keep q119_K (ninS ne_a1_x103 nin0))
 obtain ⟨cl123, Ar123, q123, S123, Ng123, H123, G123⟩ := id f124
 have hin123 := inb_of S123 (j := (2 : Int32)) ⟨by decide, by decide⟩
 have hat123 := H123.at (v := (.int c2)) hin123 rfl
 have p125 : Go p.tables e below _ (T119.setTop (mkF m 20 #[.val (.ref a1), .val (.int (2 : Int32)), .val (.int (4 : Int32)), .val (.ref x103), .val (.int (2 : Int32))] [(.int c2), (.int (2 : Int32)), (.ref x103)])) := fun t_ k_ => p122 t_ (by
  refine X119.caload hx (j := (2 : Int32)) (v := (.int c2)) Ar123.1 (State.isArrayOf_alike hZ.alike Ar123.2.1) Ar123.2.2 hin123 hat123 (g := (mkF m 19 #[.val (.ref a1), .val (.int (2 : Int32)), .val (.int (4 : Int32)), .val (.ref x103), .val (.int (2 : Int32))] [(.int (2 : Int32)), (.ref a1), (.int (2 : Int32)), (.ref x103)])) rfl rfl (hb hby d21_19) _ ?_
  exact k_)
 have f126 := (f118.keep q119_K (allS q102_g all0))
 obtain ⟨_, _, ⟨T127, L127, k127, n127⟩, -, X127, ⟨Lc127, hQ127, l127, y127, z127⟩, st127⟩ := Jvm.LawKit.callS X119 hx (y := (⟨"java/lang/StringUTF16", "putChar", "([BII)V"⟩ : MethodName)) hown (mvT hZ (own_w hw 113 rfl)) (mvT hZ (own_w hw 114 rfl)) (mvT hZ (own_w hw 22 rfl)) (mvT hZ (own_w hw 115 rfl)) (by decide) (backOf (W := 0) (rm24 l Z a0 hw [] x103 (2 : Int32) c2 x104 (8 : Int32) [(.int (own_x0 c0)), (.int (own_x8 c0)), (.int (own_x0 c1)), (.int (own_x8 c1)), (.int (0 : Int32)), (.int (0 : Int32)), (.int (0 : Int32)), (.int (0 : Int32))] 4 cs1 fm T119.heap n0 (Nat.le_trans Z0 K120.1) f126 G f121 (by decide) (by decide) rfl rfl (Nat.le_of_ble_eq_true rfl) (Nat.le_of_ble_eq_true rfl) q102_g) hZ (own_w hw 115 rfl) (own_w hw 22 rfl) (by decide) (by decide)) (g := (mkF m 20 #[.val (.ref a1), .val (.int (2 : Int32)), .val (.int (4 : Int32)), .val (.ref x103), .val (.int (2 : Int32))] [(.int c2), (.int (2 : Int32)), (.ref x103)])) rfl (by rw [hml]; rfl) (argsL := [(.ref x103), (.int (2 : Int32)), (.int c2)]) (rest := []) (lenOf pd13 rfl) rfl (by show 2 * 0 + _ ≤ _; exact Nat.le_of_eq rfl) (hb hby d21_20) (fun _ _ => ⟨rfl, rfl, (by decide : 1 + 0 ≤ _), (by decide : 8 + 0 ≤ _)⟩)
 dsimp only [Pt.U, Pt.locs, Pt.cells, Pt.slots] at X127 l127 y127 z127 st127 hQ127
 subst l127 y127 z127
 obtain ⟨rfl, N127q, q127_K, q127_V⟩ := hQ127
 have N127 := Fr.app N119 N127q
 have K128 : Keep h0 T127.heap [] := K120.trans q127_K (allS (Or.inr (Nat.le_trans (Keep.refl h0 []).1 q102_z)) all0)
 have f129 : Arv Z T127.heap x103 x104 .byte (8 : Int32) [(.int (own_x0 c0)), (.int (own_x8 c0)), (.int (own_x0 c1)), (.int (own_x8 c1)), (.int (own_x0 c2)), (.int (own_x8 c2)), (.int (0 : Int32)), (.int (0 : Int32))] (.int (0 : Int32)) := q127_V
 have p130 : Go p.tables e below _ (T127.setTop (mkF m 19 #[.val (.ref a1), .val (.int (3 : Int32)), .val (.int (4 : Int32)), .val (.ref x103), .val (.int (3 : Int32))] [(.int (3 : Int32)), (.ref a1), (.int (3 : Int32)), (.ref x103)])) := fun t_ k_ => (gc p125 st127) t_ (by
  refine XS.iinc X127.here hx rfl (hb hby d21_23) rfl (l' := #[.val (.ref a1), .val (.int (3 : Int32)), .val (.int (4 : Int32)), .val (.ref x103), .val (.int (2 : Int32))]) rfl ?_
  refine XS.iinc X127.here hx rfl (hb hby d21_26) rfl (l' := #[.val (.ref a1), .val (.int (3 : Int32)), .val (.int (4 : Int32)), .val (.ref x103), .val (.int (3 : Int32))]) rfl ?_
  refine XS.goto X127.here hx rfl (pc0 := 29) (pc' := 8) rfl (hb hby d21_29) (by decide) (by decide) ?_
  refine XS.iload X127.here hx rfl (hb hby d21_8) rfl ?_
  refine XS.iloadN X127.here hx rfl (hb hby d21_10) rfl ?_
  refine XS.icmpNo X127.here hx rfl (hb hby d21_11) rfl (tlt (by decide : ((3 : Int32) < (4 : Int32)))).2.1 ?_
  refine XS.aloadN X127.here hx rfl (hb hby d21_14) rfl rfl ?_
  refine XS.iload X127.here hx rfl (hb hby d21_15) rfl ?_
  refine XS.aloadN X127.here hx rfl (hb hby d21_17) rfl rfl ?_
  refine XS.iloadN X127.here hx rfl (hb hby d21_18) rfl ?_
  exact k_)
 have f132 := (f124.keep q127_K (ninS ne_a1_x103 nin0))
 obtain ⟨cl131, Ar131, q131, S131, Ng131, H131, G131⟩ := id f132
 have hin131 := inb_of S131 (j := (3 : Int32)) ⟨by decide, by decide⟩
 have hat131 := H131.at (v := (.int c3)) hin131 rfl
 have p133 : Go p.tables e below _ (T127.setTop (mkF m 20 #[.val (.ref a1), .val (.int (3 : Int32)), .val (.int (4 : Int32)), .val (.ref x103), .val (.int (3 : Int32))] [(.int c3), (.int (3 : Int32)), (.ref x103)])) := fun t_ k_ => p130 t_ (by
  refine X127.caload hx (j := (3 : Int32)) (v := (.int c3)) Ar131.1 (State.isArrayOf_alike hZ.alike Ar131.2.1) Ar131.2.2 hin131 hat131 (g := (mkF m 19 #[.val (.ref a1), .val (.int (3 : Int32)), .val (.int (4 : Int32)), .val (.ref x103), .val (.int (3 : Int32))] [(.int (3 : Int32)), (.ref a1), (.int (3 : Int32)), (.ref x103)])) rfl rfl (hb hby d21_19) _ ?_
  exact k_)
 have f134 := (f126.keep q127_K (allS q102_g all0))
 obtain ⟨_, _, ⟨T135, L135, k135, n135⟩, -, X135, ⟨Lc135, hQ135, l135, y135, z135⟩, st135⟩ := Jvm.LawKit.callS X127 hx (y := (⟨"java/lang/StringUTF16", "putChar", "([BII)V"⟩ : MethodName)) hown (mvT hZ (own_w hw 113 rfl)) (mvT hZ (own_w hw 114 rfl)) (mvT hZ (own_w hw 22 rfl)) (mvT hZ (own_w hw 115 rfl)) (by decide) (backOf (W := 0) (rm24 l Z a0 hw [] x103 (3 : Int32) c3 x104 (8 : Int32) [(.int (own_x0 c0)), (.int (own_x8 c0)), (.int (own_x0 c1)), (.int (own_x8 c1)), (.int (own_x0 c2)), (.int (own_x8 c2)), (.int (0 : Int32)), (.int (0 : Int32))] 6 cs1 fm T127.heap n0 (Nat.le_trans Z0 K128.1) f134 G f129 (by decide) (by decide) rfl rfl (Nat.le_of_ble_eq_true rfl) (Nat.le_of_ble_eq_true rfl) q102_g) hZ (own_w hw 115 rfl) (own_w hw 22 rfl) (by decide) (by decide)) (g := (mkF m 20 #[.val (.ref a1), .val (.int (3 : Int32)), .val (.int (4 : Int32)), .val (.ref x103), .val (.int (3 : Int32))] [(.int c3), (.int (3 : Int32)), (.ref x103)])) rfl (by rw [hml]; rfl) (argsL := [(.ref x103), (.int (3 : Int32)), (.int c3)]) (rest := []) (lenOf pd13 rfl) rfl (by show 2 * 0 + _ ≤ _; exact Nat.le_of_eq rfl) (hb hby d21_20) (fun _ _ => ⟨rfl, rfl, (by decide : 1 + 0 ≤ _), (by decide : 8 + 0 ≤ _)⟩)
 dsimp only [Pt.U, Pt.locs, Pt.cells, Pt.slots] at X135 l135 y135 z135 st135 hQ135
 subst l135 y135 z135
 obtain ⟨rfl, N135q, q135_K, q135_V⟩ := hQ135
 have N135 := Fr.app N127 N135q
 have K136 : Keep h0 T135.heap [] := K128.trans q135_K (allS (Or.inr (Nat.le_trans (Keep.refl h0 []).1 q102_z)) all0)
 have f137 : Arv Z T135.heap x103 x104 .byte (8 : Int32) [(.int (own_x0 c0)), (.int (own_x8 c0)), (.int (own_x0 c1)), (.int (own_x8 c1)), (.int (own_x0 c2)), (.int (own_x8 c2)), (.int (own_x0 c3)), (.int (own_x8 c3))] (.int (0 : Int32)) := q135_V
 have p138 : Go p.tables e below _ (T135.setTop (mkF m 33 #[.val (.ref a1), .val (.int (4 : Int32)), .val (.int (4 : Int32)), .val (.ref x103), .val (.int (4 : Int32))] [(.ref x103)])) := fun t_ k_ => (gc p133 st135) t_ (by
  refine XS.iinc X135.here hx rfl (hb hby d21_23) rfl (l' := #[.val (.ref a1), .val (.int (4 : Int32)), .val (.int (4 : Int32)), .val (.ref x103), .val (.int (3 : Int32))]) rfl ?_
  refine XS.iinc X135.here hx rfl (hb hby d21_26) rfl (l' := #[.val (.ref a1), .val (.int (4 : Int32)), .val (.int (4 : Int32)), .val (.ref x103), .val (.int (4 : Int32))]) rfl ?_
  refine XS.goto X135.here hx rfl (pc0 := 29) (pc' := 8) rfl (hb hby d21_29) (by decide) (by decide) ?_
  refine XS.iload X135.here hx rfl (hb hby d21_8) rfl ?_
  refine XS.iloadN X135.here hx rfl (hb hby d21_10) rfl ?_
  refine XS.icmpYes X135.here hx rfl (pc0 := 11) (pc' := 32) rfl (hb hby d21_11) rfl (flt (by decide : ¬ ((4 : Int32) < (4 : Int32)))).2.1 (by decide) (by decide) ?_
  refine XS.aloadN X135.here hx rfl (hb hby d21_32) rfl rfl ?_
  exact k_)
 obtain ⟨fs, hr, hrun, hended, hW, hsame⟩ := X135.leave (v := some (.ref x103)) (fun h => by rw [Bd.returns] at h; cases h)
 refine ⟨_, _, p138 _ (retOut X135 hx (w := (.ref x103)) (i := .areturn) Bd.returns rfl (Or.inr (Or.inr (Or.inr (Or.inr ⟨rfl, rfl, rfl⟩)))) (hb hby d21_33) hr), hrun, hended, _, _, rfl, ?_, ⟨_, rfl⟩, hW, hsame.mono (by decide) (by decide)⟩
 show Q21_U4 Z a1 k1 c0 c1 c2 c3 cs1 fm h0 n0 _ T135.heap _
 exact ⟨x103, x104, rfl, N135, K136, q102_g, (Nat.le_trans (Keep.refl h0 []).1 q102_z), f137⟩
theorem d6_23 : decode jdk_52_method_21_code 23 = .ok (.iload 5, 2) := by decide +kernel
theorem d6_25 : decode jdk_52_method_21_code 25 = .ok (.ireturn, 1) := by decide +kernel
theorem ef_rm6_U4_0 (m : MethodId) (a1 : Addr) (a3 : Addr) (k1 : ClassId) (k3 : ClassId) (c0 : Int32) (c1 : Int32) (c2 : Int32) (c3 : Int32) : entryFrame m #[(.ref a1), (.int (0 : Int32)), (.ref a3), (.int (0 : Int32)), (.int (4 : Int32))] 7 = mkF m 0 #[.val (.ref a1), .val (.int (0 : Int32)), .val (.ref a3), .val (.int (0 : Int32)), .val (.int (4 : Int32)), .unset, .unset] [] := by first | (simp [entryFrame, mkF, argsToLocals, Value.category]; done) | rfl
def Q6_U4_0 (Z : State) (a1 : Addr) (a3 : Addr) (k1 : ClassId) (k3 : ClassId) (c0 : Int32) (c1 : Int32) (c2 : Int32) (c3 : Int32) (h0 : Heap) (n0 : Nat) (v : Option Value) (h : Heap) (L : List Loc) : Prop := v = some (.int (0 : Int32)) ∧ Fr n0 L ∧ (Keep h0 h [a3]) ∧ (Arv Z h a3 k3 .byte (4 : Int32) [(.int (0 : Int32)), (.int (0 : Int32)), (.int (0 : Int32)), (.int (0 : Int32))] (.int (0 : Int32)))
set_option maxRecDepth 65536 in
set_option maxHeartbeats 40000000 in
theorem rm6_U4_0 (l : Launch) (Z : State) (a0 : Array Value) (hw : ∀ d ∈ tables_1, d.before a0 Z = true) (ws : List Jvm.Cond) (a1 : Addr) (a3 : Addr) (k1 : ClassId) (k3 : ClassId) (c0 : Int32) (c1 : Int32) (c2 : Int32) (c3 : Int32) (h0 : Heap) (n0 : Nat) (Z0 : n0 ≤ h0.size) (V1 : Arv Z h0 a1 k1 .char (4 : Int32) [(.int c0), (.int c1), (.int c2), (.int c3)] (.int (0 : Int32))) (V3 : Arv Z h0 a3 k3 .byte (4 : Int32) [(.int (0 : Int32)), (.int (0 : Int32)), (.int (0 : Int32)), (.int (0 : Int32))] (.int (0 : Int32))) (ne : a1 ≠ a3) (g3 : n0 ≤ a3) (m0 : (255 : Int32) < c0) :
  MetFree l (⟨"java/lang/StringUTF16", "compress", "([CI[BII)I"⟩ : MethodName) (head1 (Jvm.Cond.code (⟨"java/lang/StringUTF16", "compress", "([CI[BII)I"⟩ : MethodName) jdk_52_method_21_code 7 (some .int) :: ws) ({ frames := 0, cells := 0, slots := 0, locals := 0 } : Room)) (fun a U => a = #[(.ref a1), (.int (0 : Int32)), (.ref a3), (.int (0 : Int32)), (.int (4 : Int32))] ∧ Z.Warmed39 U.vm ∧ U.heap = h0) (fun _ _ _ _ _ => True) (fun _ U o U' => ∃ v L, o = .returned v ∧ Q6_U4_0 Z a1 a3 k1 k3 c0 c1 c2 c3 h0 n0 v U'.heap L ∧ FrameEnd U o U' L ({ frames := 0, cells := 0, slots := 0, locals := 0 } : Room).cells ({ frames := 0, cells := 0, slots := 0, locals := 0 } : Room).slots) := by
 refine MetFree.of_bodySF pn6 hisR ?_
 intro p e s m args below meth c s₁ Bd hml0 hP hK
 obtain ⟨rfl, hZ, hh⟩ := hP
 have hx := Bd.exec
 have hby := Bd.bytes
 have hml : c.maxLocals = 7 := hml0
 have hown : s.vm.findClass "java/lang/StringUTF16" = some m.cls := findClass_of_methodNamed Bd.named
 have hnm := (name_of_methodNamed Bd.named Bd.method).1
 have X0 : Stand p l e ({ frames := 0, cells := 0, slots := 0, locals := 0 } : Room) s m #[(.ref a1), (.int (0 : Int32)), (.ref a3), (.int (0 : Int32)), (.int (4 : Int32))] below meth c s₁ [] 0 0 := Stand.of_body Bd
 have e0 : s₁.heap = h0 := by rw [← hh, Bd.state]; rfl
 have N0 := Fr.nil n0
 have p0 : Go p.tables e below (s₁.setTop (entryFrame m #[(.ref a1), (.int (0 : Int32)), (.ref a3), (.int (0 : Int32)), (.int (4 : Int32))] 7)) (s₁.setTop (mkF m 0 #[.val (.ref a1), .val (.int (0 : Int32)), .val (.ref a3), .val (.int (0 : Int32)), .val (.int (4 : Int32)), .unset, .unset] [])) := fun t_ k_ => castTop (ef_rm6_U4_0 m a1 a3 k1 k3 c0 c1 c2 c3) k_
 have p101 : Go p.tables e below _ (s₁.setTop (mkF m 12 #[.val (.ref a1), .val (.int (0 : Int32)), .val (.ref a3), .val (.int (0 : Int32)), .val (.int (4 : Int32)), .val (.int (0 : Int32)), .unset] [(.int (0 : Int32)), (.ref a1)])) := fun t_ k_ => p0 t_ (by
  refine XS.iconst X0.here hx rfl (hb hby d6_0) ?_
  refine XS.istore X0.here hx rfl (hb hby d6_1) rfl (l' := #[.val (.ref a1), .val (.int (0 : Int32)), .val (.ref a3), .val (.int (0 : Int32)), .val (.int (4 : Int32)), .val (.int (0 : Int32)), .unset]) rfl ?_
  refine XS.iload X0.here hx rfl (hb hby d6_3) rfl ?_
  refine XS.iload X0.here hx rfl (hb hby d6_5) rfl ?_
  refine XS.icmpNo X0.here hx rfl (hb hby d6_7) rfl (tlt (by decide : ((0 : Int32) < (4 : Int32)))).2.1 ?_
  refine XS.aloadN X0.here hx rfl (hb hby d6_10) rfl rfl ?_
  refine XS.iloadN X0.here hx rfl (hb hby d6_11) rfl ?_
  exact k_)
 obtain ⟨cl102, Ar102, q102, S102, Ng102, H102, G102⟩ := id V1
 have hin102 := inb_of S102 (j := (0 : Int32)) ⟨by decide, by decide⟩
 have hat102 := H102.at (v := (.int c0)) hin102 rfl
 have p103 : Go p.tables e below _ (s₁.setTop (mkF m 20 #[.val (.ref a1), .val (.int (0 : Int32)), .val (.ref a3), .val (.int (0 : Int32)), .val (.int (4 : Int32)), .val (.int (0 : Int32)), .val (.int c0)] [(.int (255 : Int32)), (.int c0)])) := fun t_ k_ => p101 t_ (by
  refine X0.caload hx (j := (0 : Int32)) (v := (.int c0)) (by rw [e0]; exact Ar102.1) (State.isArrayOf_alike hZ.alike Ar102.2.1) Ar102.2.2 hin102 hat102 (g := (mkF m 12 #[.val (.ref a1), .val (.int (0 : Int32)), .val (.ref a3), .val (.int (0 : Int32)), .val (.int (4 : Int32)), .val (.int (0 : Int32)), .unset] [(.int (0 : Int32)), (.ref a1)])) rfl rfl (hb hby d6_12) _ ?_
  refine XS.istore X0.here hx rfl (hb hby d6_13) rfl (l' := #[.val (.ref a1), .val (.int (0 : Int32)), .val (.ref a3), .val (.int (0 : Int32)), .val (.int (4 : Int32)), .val (.int (0 : Int32)), .val (.int c0)]) rfl ?_
  refine XS.iload X0.here hx rfl (hb hby d6_15) rfl ?_
  refine XS.sipush X0.here hx rfl (hb hby d6_17) ?_
  exact k_)
 have c104 : ((255 : Int32) < c0) := m0
 have p105 : Go p.tables e below _ (s₁.setTop (mkF m 25 #[.val (.ref a1), .val (.int (0 : Int32)), .val (.ref a3), .val (.int (0 : Int32)), .val (.int (4 : Int32)), .val (.int (0 : Int32)), .val (.int c0)] [(.int (0 : Int32))])) := fun t_ k_ => p103 t_ (by
  refine XS.icmpNo X0.here hx rfl (hb hby d6_20) rfl (tlt c104).2.2.2 ?_
  refine XS.iload X0.here hx rfl (hb hby d6_23) rfl ?_
  exact k_)
 obtain ⟨fs, hr, hrun, hended, hW, hsame⟩ := X0.leave (v := some (.int (0 : Int32))) (fun h => by rw [Bd.returns] at h; cases h)
 refine ⟨_, _, p105 _ (retI X0 hx Bd.returns (hb hby d6_25) hr), hrun, hended, _, _, rfl, ?_, ⟨_, rfl⟩, hW, hsame.mono (by decide) (by decide)⟩
 show Q6_U4_0 Z a1 a3 k1 k3 c0 c1 c2 c3 h0 n0 _ s₁.heap _
 rw [e0]
 exact ⟨rfl, N0, (Keep.refl h0 [a3]), V3⟩
theorem ef_rm6_U4_1 (m : MethodId) (a1 : Addr) (a3 : Addr) (k1 : ClassId) (k3 : ClassId) (c0 : Int32) (c1 : Int32) (c2 : Int32) (c3 : Int32) : entryFrame m #[(.ref a1), (.int (0 : Int32)), (.ref a3), (.int (0 : Int32)), (.int (4 : Int32))] 7 = mkF m 0 #[.val (.ref a1), .val (.int (0 : Int32)), .val (.ref a3), .val (.int (0 : Int32)), .val (.int (4 : Int32)), .unset, .unset] [] := by first | (simp [entryFrame, mkF, argsToLocals, Value.category]; done) | rfl
def Q6_U4_1 (Z : State) (a1 : Addr) (a3 : Addr) (k1 : ClassId) (k3 : ClassId) (c0 : Int32) (c1 : Int32) (c2 : Int32) (c3 : Int32) (h0 : Heap) (n0 : Nat) (v : Option Value) (h : Heap) (L : List Loc) : Prop := v = some (.int (1 : Int32)) ∧ Fr n0 L ∧ (Keep h0 h [a3]) ∧ (Arv Z h a3 k3 .byte (4 : Int32) [(.int (own_xl c0)), (.int (0 : Int32)), (.int (0 : Int32)), (.int (0 : Int32))] (.int (0 : Int32)))
set_option maxRecDepth 65536 in
set_option maxHeartbeats 40000000 in
theorem rm6_U4_1 (l : Launch) (Z : State) (a0 : Array Value) (hw : ∀ d ∈ tables_1, d.before a0 Z = true) (ws : List Jvm.Cond) (a1 : Addr) (a3 : Addr) (k1 : ClassId) (k3 : ClassId) (c0 : Int32) (c1 : Int32) (c2 : Int32) (c3 : Int32) (h0 : Heap) (n0 : Nat) (Z0 : n0 ≤ h0.size) (V1 : Arv Z h0 a1 k1 .char (4 : Int32) [(.int c0), (.int c1), (.int c2), (.int c3)] (.int (0 : Int32))) (V3 : Arv Z h0 a3 k3 .byte (4 : Int32) [(.int (0 : Int32)), (.int (0 : Int32)), (.int (0 : Int32)), (.int (0 : Int32))] (.int (0 : Int32))) (ne : a1 ≠ a3) (g3 : n0 ≤ a3) (l0 : ¬ ((255 : Int32) < c0)) (m1 : (255 : Int32) < c1) :
  MetFree l (⟨"java/lang/StringUTF16", "compress", "([CI[BII)I"⟩ : MethodName) (head1 (Jvm.Cond.code (⟨"java/lang/StringUTF16", "compress", "([CI[BII)I"⟩ : MethodName) jdk_52_method_21_code 7 (some .int) :: ws) ({ frames := 0, cells := 0, slots := 0, locals := 0 } : Room)) (fun a U => a = #[(.ref a1), (.int (0 : Int32)), (.ref a3), (.int (0 : Int32)), (.int (4 : Int32))] ∧ Z.Warmed39 U.vm ∧ U.heap = h0) (fun _ _ _ _ _ => True) (fun _ U o U' => ∃ v L, o = .returned v ∧ Q6_U4_1 Z a1 a3 k1 k3 c0 c1 c2 c3 h0 n0 v U'.heap L ∧ FrameEnd U o U' L ({ frames := 0, cells := 0, slots := 0, locals := 0 } : Room).cells ({ frames := 0, cells := 0, slots := 0, locals := 0 } : Room).slots) := by
 refine MetFree.of_bodySF pn6 hisR ?_
 intro p e s m args below meth c s₁ Bd hml0 hP hK
 obtain ⟨rfl, hZ, hh⟩ := hP
 have hx := Bd.exec
 have hby := Bd.bytes
 have hml : c.maxLocals = 7 := hml0
 have hown : s.vm.findClass "java/lang/StringUTF16" = some m.cls := findClass_of_methodNamed Bd.named
 have hnm := (name_of_methodNamed Bd.named Bd.method).1
 have X0 : Stand p l e ({ frames := 0, cells := 0, slots := 0, locals := 0 } : Room) s m #[(.ref a1), (.int (0 : Int32)), (.ref a3), (.int (0 : Int32)), (.int (4 : Int32))] below meth c s₁ [] 0 0 := Stand.of_body Bd
 have e0 : s₁.heap = h0 := by rw [← hh, Bd.state]; rfl
 have N0 := Fr.nil n0
 have p0 : Go p.tables e below (s₁.setTop (entryFrame m #[(.ref a1), (.int (0 : Int32)), (.ref a3), (.int (0 : Int32)), (.int (4 : Int32))] 7)) (s₁.setTop (mkF m 0 #[.val (.ref a1), .val (.int (0 : Int32)), .val (.ref a3), .val (.int (0 : Int32)), .val (.int (4 : Int32)), .unset, .unset] [])) := fun t_ k_ => castTop (ef_rm6_U4_1 m a1 a3 k1 k3 c0 c1 c2 c3) k_
 have p101 : Go p.tables e below _ (s₁.setTop (mkF m 12 #[.val (.ref a1), .val (.int (0 : Int32)), .val (.ref a3), .val (.int (0 : Int32)), .val (.int (4 : Int32)), .val (.int (0 : Int32)), .unset] [(.int (0 : Int32)), (.ref a1)])) := fun t_ k_ => p0 t_ (by
  refine XS.iconst X0.here hx rfl (hb hby d6_0) ?_
  refine XS.istore X0.here hx rfl (hb hby d6_1) rfl (l' := #[.val (.ref a1), .val (.int (0 : Int32)), .val (.ref a3), .val (.int (0 : Int32)), .val (.int (4 : Int32)), .val (.int (0 : Int32)), .unset]) rfl ?_
  refine XS.iload X0.here hx rfl (hb hby d6_3) rfl ?_
  refine XS.iload X0.here hx rfl (hb hby d6_5) rfl ?_
  refine XS.icmpNo X0.here hx rfl (hb hby d6_7) rfl (tlt (by decide : ((0 : Int32) < (4 : Int32)))).2.1 ?_
  refine XS.aloadN X0.here hx rfl (hb hby d6_10) rfl rfl ?_
  refine XS.iloadN X0.here hx rfl (hb hby d6_11) rfl ?_
  exact k_)
 obtain ⟨cl102, Ar102, q102, S102, Ng102, H102, G102⟩ := id V1
 have hin102 := inb_of S102 (j := (0 : Int32)) ⟨by decide, by decide⟩
 have hat102 := H102.at (v := (.int c0)) hin102 rfl
 have p103 : Go p.tables e below _ (s₁.setTop (mkF m 20 #[.val (.ref a1), .val (.int (0 : Int32)), .val (.ref a3), .val (.int (0 : Int32)), .val (.int (4 : Int32)), .val (.int (0 : Int32)), .val (.int c0)] [(.int (255 : Int32)), (.int c0)])) := fun t_ k_ => p101 t_ (by
  refine X0.caload hx (j := (0 : Int32)) (v := (.int c0)) (by rw [e0]; exact Ar102.1) (State.isArrayOf_alike hZ.alike Ar102.2.1) Ar102.2.2 hin102 hat102 (g := (mkF m 12 #[.val (.ref a1), .val (.int (0 : Int32)), .val (.ref a3), .val (.int (0 : Int32)), .val (.int (4 : Int32)), .val (.int (0 : Int32)), .unset] [(.int (0 : Int32)), (.ref a1)])) rfl rfl (hb hby d6_12) _ ?_
  refine XS.istore X0.here hx rfl (hb hby d6_13) rfl (l' := #[.val (.ref a1), .val (.int (0 : Int32)), .val (.ref a3), .val (.int (0 : Int32)), .val (.int (4 : Int32)), .val (.int (0 : Int32)), .val (.int c0)]) rfl ?_
  refine XS.iload X0.here hx rfl (hb hby d6_15) rfl ?_
  refine XS.sipush X0.here hx rfl (hb hby d6_17) ?_
  exact k_)
 have c104 : ¬ ((255 : Int32) < c0) := l0
 have p105 : Go p.tables e below _ (s₁.setTop (mkF m 31 #[.val (.ref a1), .val (.int (0 : Int32)), .val (.ref a3), .val (.int (0 : Int32)), .val (.int (4 : Int32)), .val (.int (0 : Int32)), .val (.int c0)] [(.int (c0.toInt8.toInt32)), (.int (0 : Int32)), (.ref a3)])) := fun t_ k_ => p103 t_ (by
  refine XS.icmpYes X0.here hx rfl (pc0 := 20) (pc' := 26) rfl (hb hby d6_20) rfl (flt c104).2.2.2 (by decide) (by decide) ?_
  refine XS.aloadN X0.here hx rfl (hb hby d6_26) rfl rfl ?_
  refine XS.iloadN X0.here hx rfl (hb hby d6_27) rfl ?_
  refine XS.iload X0.here hx rfl (hb hby d6_28) rfl ?_
  refine XS.i2b X0.here hx rfl (hb hby d6_30) rfl ?_
  exact k_)
 obtain ⟨cl106, Ar106, q106, S106, Ng106, H106, G106⟩ := id V3
 have hin106 := inb_of S106 (j := (0 : Int32)) ⟨by decide, by decide⟩
 obtain ⟨T106, h106, X106, e106, W106, st106⟩ := stB X0 hx hZ e0 Ar106 (j := (0 : Int32)) hin106 (g := (mkF m 31 #[.val (.ref a1), .val (.int (0 : Int32)), .val (.ref a3), .val (.int (0 : Int32)), .val (.int (4 : Int32)), .val (.int (0 : Int32)), .val (.int c0)] [(.int (c0.toInt8.toInt32)), (.int (0 : Int32)), (.ref a3)])) rfl rfl (hb hby d6_31)
 have K107 : Keep h0 h106 [a3] := (Keep.refl h0 [a3]).wr W106 (Or.inl (List.mem_of_getElem? (i := 0) rfl))
 have N106 := Fr.snoc X106 N0 g3
 have V106 : Arv Z h106 a3 k3 .byte (4 : Int32) [(.int (own_xl c0)), (.int (0 : Int32)), (.int (0 : Int32)), (.int (0 : Int32))] (.int (0 : Int32)) := Arv.set Ar106 q106 S106 Ng106 H106 G106 (fits_nar_byte _) W106 0 rfl (Nat.le_of_ble_eq_true rfl)
 have p108 : Go p.tables e below _ (T106.setTop (mkF m 12 #[.val (.ref a1), .val (.int (1 : Int32)), .val (.ref a3), .val (.int (1 : Int32)), .val (.int (4 : Int32)), .val (.int (1 : Int32)), .val (.int c0)] [(.int (1 : Int32)), (.ref a1)])) := fun t_ k_ => (gc p105 st106) t_ (by
  refine XS.iinc X106.here hx rfl (hb hby d6_32) rfl (l' := #[.val (.ref a1), .val (.int (1 : Int32)), .val (.ref a3), .val (.int (0 : Int32)), .val (.int (4 : Int32)), .val (.int (0 : Int32)), .val (.int c0)]) rfl ?_
  refine XS.iinc X106.here hx rfl (hb hby d6_35) rfl (l' := #[.val (.ref a1), .val (.int (1 : Int32)), .val (.ref a3), .val (.int (1 : Int32)), .val (.int (4 : Int32)), .val (.int (0 : Int32)), .val (.int c0)]) rfl ?_
  refine XS.iinc X106.here hx rfl (hb hby d6_38) rfl (l' := #[.val (.ref a1), .val (.int (1 : Int32)), .val (.ref a3), .val (.int (1 : Int32)), .val (.int (4 : Int32)), .val (.int (1 : Int32)), .val (.int c0)]) rfl ?_
  refine XS.goto X106.here hx rfl (pc0 := 41) (pc' := 3) rfl (hb hby d6_41) (by decide) (by decide) ?_
  refine XS.iload X106.here hx rfl (hb hby d6_3) rfl ?_
  refine XS.iload X106.here hx rfl (hb hby d6_5) rfl ?_
  refine XS.icmpNo X106.here hx rfl (hb hby d6_7) rfl (tlt (by decide : ((1 : Int32) < (4 : Int32)))).2.1 ?_
  refine XS.aloadN X106.here hx rfl (hb hby d6_10) rfl rfl ?_
  refine XS.iloadN X106.here hx rfl (hb hby d6_11) rfl ?_
  exact k_)
 have f110 := (V1.other W106 ne)
 obtain ⟨cl109, Ar109, q109, S109, Ng109, H109, G109⟩ := id f110
 have hin109 := inb_of S109 (j := (1 : Int32)) ⟨by decide, by decide⟩
 have hat109 := H109.at (v := (.int c1)) hin109 rfl
 have p111 : Go p.tables e below _ (T106.setTop (mkF m 20 #[.val (.ref a1), .val (.int (1 : Int32)), .val (.ref a3), .val (.int (1 : Int32)), .val (.int (4 : Int32)), .val (.int (1 : Int32)), .val (.int c1)] [(.int (255 : Int32)), (.int c1)])) := fun t_ k_ => p108 t_ (by
  refine X106.caload hx (j := (1 : Int32)) (v := (.int c1)) (by rw [e106]; exact Ar109.1) (State.isArrayOf_alike hZ.alike Ar109.2.1) Ar109.2.2 hin109 hat109 (g := (mkF m 12 #[.val (.ref a1), .val (.int (1 : Int32)), .val (.ref a3), .val (.int (1 : Int32)), .val (.int (4 : Int32)), .val (.int (1 : Int32)), .val (.int c0)] [(.int (1 : Int32)), (.ref a1)])) rfl rfl (hb hby d6_12) _ ?_
  refine XS.istore X106.here hx rfl (hb hby d6_13) rfl (l' := #[.val (.ref a1), .val (.int (1 : Int32)), .val (.ref a3), .val (.int (1 : Int32)), .val (.int (4 : Int32)), .val (.int (1 : Int32)), .val (.int c1)]) rfl ?_
  refine XS.iload X106.here hx rfl (hb hby d6_15) rfl ?_
  refine XS.sipush X106.here hx rfl (hb hby d6_17) ?_
  exact k_)
 have c112 : ((255 : Int32) < c1) := m1
 have p113 : Go p.tables e below _ (T106.setTop (mkF m 25 #[.val (.ref a1), .val (.int (1 : Int32)), .val (.ref a3), .val (.int (1 : Int32)), .val (.int (4 : Int32)), .val (.int (1 : Int32)), .val (.int c1)] [(.int (1 : Int32))])) := fun t_ k_ => p111 t_ (by
  refine XS.icmpNo X106.here hx rfl (hb hby d6_20) rfl (tlt c112).2.2.2 ?_
  refine XS.iload X106.here hx rfl (hb hby d6_23) rfl ?_
  exact k_)
 obtain ⟨fs, hr, hrun, hended, hW, hsame⟩ := X106.leave (v := some (.int (1 : Int32))) (fun h => by rw [Bd.returns] at h; cases h)
 refine ⟨_, _, p113 _ (retI X106 hx Bd.returns (hb hby d6_25) hr), hrun, hended, _, _, rfl, ?_, ⟨_, rfl⟩, hW, hsame.mono (by decide) (by decide)⟩
 show Q6_U4_1 Z a1 a3 k1 k3 c0 c1 c2 c3 h0 n0 _ T106.heap _
 rw [e106]
 exact ⟨rfl, N106, K107, V106⟩
theorem ef_rm6_U4_2 (m : MethodId) (a1 : Addr) (a3 : Addr) (k1 : ClassId) (k3 : ClassId) (c0 : Int32) (c1 : Int32) (c2 : Int32) (c3 : Int32) : entryFrame m #[(.ref a1), (.int (0 : Int32)), (.ref a3), (.int (0 : Int32)), (.int (4 : Int32))] 7 = mkF m 0 #[.val (.ref a1), .val (.int (0 : Int32)), .val (.ref a3), .val (.int (0 : Int32)), .val (.int (4 : Int32)), .unset, .unset] [] := by first | (simp [entryFrame, mkF, argsToLocals, Value.category]; done) | rfl
def Q6_U4_2 (Z : State) (a1 : Addr) (a3 : Addr) (k1 : ClassId) (k3 : ClassId) (c0 : Int32) (c1 : Int32) (c2 : Int32) (c3 : Int32) (h0 : Heap) (n0 : Nat) (v : Option Value) (h : Heap) (L : List Loc) : Prop := v = some (.int (2 : Int32)) ∧ Fr n0 L ∧ (Keep h0 h [a3]) ∧ (Arv Z h a3 k3 .byte (4 : Int32) [(.int (own_xl c0)), (.int (own_xl c1)), (.int (0 : Int32)), (.int (0 : Int32))] (.int (0 : Int32)))
set_option maxRecDepth 65536 in
set_option maxHeartbeats 40000000 in
theorem rm6_U4_2 (l : Launch) (Z : State) (a0 : Array Value) (hw : ∀ d ∈ tables_1, d.before a0 Z = true) (ws : List Jvm.Cond) (a1 : Addr) (a3 : Addr) (k1 : ClassId) (k3 : ClassId) (c0 : Int32) (c1 : Int32) (c2 : Int32) (c3 : Int32) (h0 : Heap) (n0 : Nat) (Z0 : n0 ≤ h0.size) (V1 : Arv Z h0 a1 k1 .char (4 : Int32) [(.int c0), (.int c1), (.int c2), (.int c3)] (.int (0 : Int32))) (V3 : Arv Z h0 a3 k3 .byte (4 : Int32) [(.int (0 : Int32)), (.int (0 : Int32)), (.int (0 : Int32)), (.int (0 : Int32))] (.int (0 : Int32))) (ne : a1 ≠ a3) (g3 : n0 ≤ a3) (l0 : ¬ ((255 : Int32) < c0)) (l1 : ¬ ((255 : Int32) < c1)) (m2 : (255 : Int32) < c2) :
  MetFree l (⟨"java/lang/StringUTF16", "compress", "([CI[BII)I"⟩ : MethodName) (head1 (Jvm.Cond.code (⟨"java/lang/StringUTF16", "compress", "([CI[BII)I"⟩ : MethodName) jdk_52_method_21_code 7 (some .int) :: ws) ({ frames := 0, cells := 0, slots := 0, locals := 0 } : Room)) (fun a U => a = #[(.ref a1), (.int (0 : Int32)), (.ref a3), (.int (0 : Int32)), (.int (4 : Int32))] ∧ Z.Warmed39 U.vm ∧ U.heap = h0) (fun _ _ _ _ _ => True) (fun _ U o U' => ∃ v L, o = .returned v ∧ Q6_U4_2 Z a1 a3 k1 k3 c0 c1 c2 c3 h0 n0 v U'.heap L ∧ FrameEnd U o U' L ({ frames := 0, cells := 0, slots := 0, locals := 0 } : Room).cells ({ frames := 0, cells := 0, slots := 0, locals := 0 } : Room).slots) := by
 refine MetFree.of_bodySF pn6 hisR ?_
 intro p e s m args below meth c s₁ Bd hml0 hP hK
 obtain ⟨rfl, hZ, hh⟩ := hP
 have hx := Bd.exec
 have hby := Bd.bytes
 have hml : c.maxLocals = 7 := hml0
 have hown : s.vm.findClass "java/lang/StringUTF16" = some m.cls := findClass_of_methodNamed Bd.named
 have hnm := (name_of_methodNamed Bd.named Bd.method).1
 have X0 : Stand p l e ({ frames := 0, cells := 0, slots := 0, locals := 0 } : Room) s m #[(.ref a1), (.int (0 : Int32)), (.ref a3), (.int (0 : Int32)), (.int (4 : Int32))] below meth c s₁ [] 0 0 := Stand.of_body Bd
 have e0 : s₁.heap = h0 := by rw [← hh, Bd.state]; rfl
 have N0 := Fr.nil n0
 have p0 : Go p.tables e below (s₁.setTop (entryFrame m #[(.ref a1), (.int (0 : Int32)), (.ref a3), (.int (0 : Int32)), (.int (4 : Int32))] 7)) (s₁.setTop (mkF m 0 #[.val (.ref a1), .val (.int (0 : Int32)), .val (.ref a3), .val (.int (0 : Int32)), .val (.int (4 : Int32)), .unset, .unset] [])) := fun t_ k_ => castTop (ef_rm6_U4_2 m a1 a3 k1 k3 c0 c1 c2 c3) k_
 have p101 : Go p.tables e below _ (s₁.setTop (mkF m 12 #[.val (.ref a1), .val (.int (0 : Int32)), .val (.ref a3), .val (.int (0 : Int32)), .val (.int (4 : Int32)), .val (.int (0 : Int32)), .unset] [(.int (0 : Int32)), (.ref a1)])) := fun t_ k_ => p0 t_ (by
  refine XS.iconst X0.here hx rfl (hb hby d6_0) ?_
  refine XS.istore X0.here hx rfl (hb hby d6_1) rfl (l' := #[.val (.ref a1), .val (.int (0 : Int32)), .val (.ref a3), .val (.int (0 : Int32)), .val (.int (4 : Int32)), .val (.int (0 : Int32)), .unset]) rfl ?_
  refine XS.iload X0.here hx rfl (hb hby d6_3) rfl ?_
  refine XS.iload X0.here hx rfl (hb hby d6_5) rfl ?_
  refine XS.icmpNo X0.here hx rfl (hb hby d6_7) rfl (tlt (by decide : ((0 : Int32) < (4 : Int32)))).2.1 ?_
  refine XS.aloadN X0.here hx rfl (hb hby d6_10) rfl rfl ?_
  refine XS.iloadN X0.here hx rfl (hb hby d6_11) rfl ?_
  exact k_)
 obtain ⟨cl102, Ar102, q102, S102, Ng102, H102, G102⟩ := id V1
 have hin102 := inb_of S102 (j := (0 : Int32)) ⟨by decide, by decide⟩
 have hat102 := H102.at (v := (.int c0)) hin102 rfl
 have p103 : Go p.tables e below _ (s₁.setTop (mkF m 20 #[.val (.ref a1), .val (.int (0 : Int32)), .val (.ref a3), .val (.int (0 : Int32)), .val (.int (4 : Int32)), .val (.int (0 : Int32)), .val (.int c0)] [(.int (255 : Int32)), (.int c0)])) := fun t_ k_ => p101 t_ (by
  refine X0.caload hx (j := (0 : Int32)) (v := (.int c0)) (by rw [e0]; exact Ar102.1) (State.isArrayOf_alike hZ.alike Ar102.2.1) Ar102.2.2 hin102 hat102 (g := (mkF m 12 #[.val (.ref a1), .val (.int (0 : Int32)), .val (.ref a3), .val (.int (0 : Int32)), .val (.int (4 : Int32)), .val (.int (0 : Int32)), .unset] [(.int (0 : Int32)), (.ref a1)])) rfl rfl (hb hby d6_12) _ ?_
  refine XS.istore X0.here hx rfl (hb hby d6_13) rfl (l' := #[.val (.ref a1), .val (.int (0 : Int32)), .val (.ref a3), .val (.int (0 : Int32)), .val (.int (4 : Int32)), .val (.int (0 : Int32)), .val (.int c0)]) rfl ?_
  refine XS.iload X0.here hx rfl (hb hby d6_15) rfl ?_
  refine XS.sipush X0.here hx rfl (hb hby d6_17) ?_
  exact k_)
 have c104 : ¬ ((255 : Int32) < c0) := l0
 have p105 : Go p.tables e below _ (s₁.setTop (mkF m 31 #[.val (.ref a1), .val (.int (0 : Int32)), .val (.ref a3), .val (.int (0 : Int32)), .val (.int (4 : Int32)), .val (.int (0 : Int32)), .val (.int c0)] [(.int (c0.toInt8.toInt32)), (.int (0 : Int32)), (.ref a3)])) := fun t_ k_ => p103 t_ (by
  refine XS.icmpYes X0.here hx rfl (pc0 := 20) (pc' := 26) rfl (hb hby d6_20) rfl (flt c104).2.2.2 (by decide) (by decide) ?_
  refine XS.aloadN X0.here hx rfl (hb hby d6_26) rfl rfl ?_
  refine XS.iloadN X0.here hx rfl (hb hby d6_27) rfl ?_
  refine XS.iload X0.here hx rfl (hb hby d6_28) rfl ?_
  refine XS.i2b X0.here hx rfl (hb hby d6_30) rfl ?_
  exact k_)
 obtain ⟨cl106, Ar106, q106, S106, Ng106, H106, G106⟩ := id V3
 have hin106 := inb_of S106 (j := (0 : Int32)) ⟨by decide, by decide⟩
 obtain ⟨T106, h106, X106, e106, W106, st106⟩ := stB X0 hx hZ e0 Ar106 (j := (0 : Int32)) hin106 (g := (mkF m 31 #[.val (.ref a1), .val (.int (0 : Int32)), .val (.ref a3), .val (.int (0 : Int32)), .val (.int (4 : Int32)), .val (.int (0 : Int32)), .val (.int c0)] [(.int (c0.toInt8.toInt32)), (.int (0 : Int32)), (.ref a3)])) rfl rfl (hb hby d6_31)
 have K107 : Keep h0 h106 [a3] := (Keep.refl h0 [a3]).wr W106 (Or.inl (List.mem_of_getElem? (i := 0) rfl))
 have N106 := Fr.snoc X106 N0 g3
 have V106 : Arv Z h106 a3 k3 .byte (4 : Int32) [(.int (own_xl c0)), (.int (0 : Int32)), (.int (0 : Int32)), (.int (0 : Int32))] (.int (0 : Int32)) := Arv.set Ar106 q106 S106 Ng106 H106 G106 (fits_nar_byte _) W106 0 rfl (Nat.le_of_ble_eq_true rfl)
 have p108 : Go p.tables e below _ (T106.setTop (mkF m 12 #[.val (.ref a1), .val (.int (1 : Int32)), .val (.ref a3), .val (.int (1 : Int32)), .val (.int (4 : Int32)), .val (.int (1 : Int32)), .val (.int c0)] [(.int (1 : Int32)), (.ref a1)])) := fun t_ k_ => (gc p105 st106) t_ (by
  refine XS.iinc X106.here hx rfl (hb hby d6_32) rfl (l' := #[.val (.ref a1), .val (.int (1 : Int32)), .val (.ref a3), .val (.int (0 : Int32)), .val (.int (4 : Int32)), .val (.int (0 : Int32)), .val (.int c0)]) rfl ?_
  refine XS.iinc X106.here hx rfl (hb hby d6_35) rfl (l' := #[.val (.ref a1), .val (.int (1 : Int32)), .val (.ref a3), .val (.int (1 : Int32)), .val (.int (4 : Int32)), .val (.int (0 : Int32)), .val (.int c0)]) rfl ?_
  refine XS.iinc X106.here hx rfl (hb hby d6_38) rfl (l' := #[.val (.ref a1), .val (.int (1 : Int32)), .val (.ref a3), .val (.int (1 : Int32)), .val (.int (4 : Int32)), .val (.int (1 : Int32)), .val (.int c0)]) rfl ?_
  refine XS.goto X106.here hx rfl (pc0 := 41) (pc' := 3) rfl (hb hby d6_41) (by decide) (by decide) ?_
  refine XS.iload X106.here hx rfl (hb hby d6_3) rfl ?_
  refine XS.iload X106.here hx rfl (hb hby d6_5) rfl ?_
  refine XS.icmpNo X106.here hx rfl (hb hby d6_7) rfl (tlt (by decide : ((1 : Int32) < (4 : Int32)))).2.1 ?_
  refine XS.aloadN X106.here hx rfl (hb hby d6_10) rfl rfl ?_
  refine XS.iloadN X106.here hx rfl (hb hby d6_11) rfl ?_
  exact k_)
 have f110 := (V1.other W106 ne)
 obtain ⟨cl109, Ar109, q109, S109, Ng109, H109, G109⟩ := id f110
 have hin109 := inb_of S109 (j := (1 : Int32)) ⟨by decide, by decide⟩
 have hat109 := H109.at (v := (.int c1)) hin109 rfl
 have p111 : Go p.tables e below _ (T106.setTop (mkF m 20 #[.val (.ref a1), .val (.int (1 : Int32)), .val (.ref a3), .val (.int (1 : Int32)), .val (.int (4 : Int32)), .val (.int (1 : Int32)), .val (.int c1)] [(.int (255 : Int32)), (.int c1)])) := fun t_ k_ => p108 t_ (by
  refine X106.caload hx (j := (1 : Int32)) (v := (.int c1)) (by rw [e106]; exact Ar109.1) (State.isArrayOf_alike hZ.alike Ar109.2.1) Ar109.2.2 hin109 hat109 (g := (mkF m 12 #[.val (.ref a1), .val (.int (1 : Int32)), .val (.ref a3), .val (.int (1 : Int32)), .val (.int (4 : Int32)), .val (.int (1 : Int32)), .val (.int c0)] [(.int (1 : Int32)), (.ref a1)])) rfl rfl (hb hby d6_12) _ ?_
  refine XS.istore X106.here hx rfl (hb hby d6_13) rfl (l' := #[.val (.ref a1), .val (.int (1 : Int32)), .val (.ref a3), .val (.int (1 : Int32)), .val (.int (4 : Int32)), .val (.int (1 : Int32)), .val (.int c1)]) rfl ?_
  refine XS.iload X106.here hx rfl (hb hby d6_15) rfl ?_
  refine XS.sipush X106.here hx rfl (hb hby d6_17) ?_
  exact k_)
 have c112 : ¬ ((255 : Int32) < c1) := l1
 have p113 : Go p.tables e below _ (T106.setTop (mkF m 31 #[.val (.ref a1), .val (.int (1 : Int32)), .val (.ref a3), .val (.int (1 : Int32)), .val (.int (4 : Int32)), .val (.int (1 : Int32)), .val (.int c1)] [(.int (c1.toInt8.toInt32)), (.int (1 : Int32)), (.ref a3)])) := fun t_ k_ => p111 t_ (by
  refine XS.icmpYes X106.here hx rfl (pc0 := 20) (pc' := 26) rfl (hb hby d6_20) rfl (flt c112).2.2.2 (by decide) (by decide) ?_
  refine XS.aloadN X106.here hx rfl (hb hby d6_26) rfl rfl ?_
  refine XS.iloadN X106.here hx rfl (hb hby d6_27) rfl ?_
  refine XS.iload X106.here hx rfl (hb hby d6_28) rfl ?_
  refine XS.i2b X106.here hx rfl (hb hby d6_30) rfl ?_
  exact k_)
 obtain ⟨cl114, Ar114, q114, S114, Ng114, H114, G114⟩ := id V106
 have hin114 := inb_of S114 (j := (1 : Int32)) ⟨by decide, by decide⟩
 obtain ⟨T114, h114, X114, e114, W114, st114⟩ := stB X106 hx hZ e106 Ar114 (j := (1 : Int32)) hin114 (g := (mkF m 31 #[.val (.ref a1), .val (.int (1 : Int32)), .val (.ref a3), .val (.int (1 : Int32)), .val (.int (4 : Int32)), .val (.int (1 : Int32)), .val (.int c1)] [(.int (c1.toInt8.toInt32)), (.int (1 : Int32)), (.ref a3)])) rfl rfl (hb hby d6_31)
 have K115 : Keep h0 h114 [a3] := K107.wr W114 (Or.inl (List.mem_of_getElem? (i := 0) rfl))
 have N114 := Fr.snoc X114 N106 g3
 have V114 : Arv Z h114 a3 k3 .byte (4 : Int32) [(.int (own_xl c0)), (.int (own_xl c1)), (.int (0 : Int32)), (.int (0 : Int32))] (.int (0 : Int32)) := Arv.set Ar114 q114 S114 Ng114 H114 G114 (fits_nar_byte _) W114 1 rfl (Nat.le_of_ble_eq_true rfl)
 have p116 : Go p.tables e below _ (T114.setTop (mkF m 12 #[.val (.ref a1), .val (.int (2 : Int32)), .val (.ref a3), .val (.int (2 : Int32)), .val (.int (4 : Int32)), .val (.int (2 : Int32)), .val (.int c1)] [(.int (2 : Int32)), (.ref a1)])) := fun t_ k_ => (gc p113 st114) t_ (by
  refine XS.iinc X114.here hx rfl (hb hby d6_32) rfl (l' := #[.val (.ref a1), .val (.int (2 : Int32)), .val (.ref a3), .val (.int (1 : Int32)), .val (.int (4 : Int32)), .val (.int (1 : Int32)), .val (.int c1)]) rfl ?_
  refine XS.iinc X114.here hx rfl (hb hby d6_35) rfl (l' := #[.val (.ref a1), .val (.int (2 : Int32)), .val (.ref a3), .val (.int (2 : Int32)), .val (.int (4 : Int32)), .val (.int (1 : Int32)), .val (.int c1)]) rfl ?_
  refine XS.iinc X114.here hx rfl (hb hby d6_38) rfl (l' := #[.val (.ref a1), .val (.int (2 : Int32)), .val (.ref a3), .val (.int (2 : Int32)), .val (.int (4 : Int32)), .val (.int (2 : Int32)), .val (.int c1)]) rfl ?_
  refine XS.goto X114.here hx rfl (pc0 := 41) (pc' := 3) rfl (hb hby d6_41) (by decide) (by decide) ?_
  refine XS.iload X114.here hx rfl (hb hby d6_3) rfl ?_
  refine XS.iload X114.here hx rfl (hb hby d6_5) rfl ?_
  refine XS.icmpNo X114.here hx rfl (hb hby d6_7) rfl (tlt (by decide : ((2 : Int32) < (4 : Int32)))).2.1 ?_
  refine XS.aloadN X114.here hx rfl (hb hby d6_10) rfl rfl ?_
  refine XS.iloadN X114.here hx rfl (hb hby d6_11) rfl ?_
  exact k_)
 have f118 := (f110.other W114 ne)
 obtain ⟨cl117, Ar117, q117, S117, Ng117, H117, G117⟩ := id f118
 have hin117 := inb_of S117 (j := (2 : Int32)) ⟨by decide, by decide⟩
 have hat117 := H117.at (v := (.int c2)) hin117 rfl
 have p119 : Go p.tables e below _ (T114.setTop (mkF m 20 #[.val (.ref a1), .val (.int (2 : Int32)), .val (.ref a3), .val (.int (2 : Int32)), .val (.int (4 : Int32)), .val (.int (2 : Int32)), .val (.int c2)] [(.int (255 : Int32)), (.int c2)])) := fun t_ k_ => p116 t_ (by
  refine X114.caload hx (j := (2 : Int32)) (v := (.int c2)) (by rw [e114]; exact Ar117.1) (State.isArrayOf_alike hZ.alike Ar117.2.1) Ar117.2.2 hin117 hat117 (g := (mkF m 12 #[.val (.ref a1), .val (.int (2 : Int32)), .val (.ref a3), .val (.int (2 : Int32)), .val (.int (4 : Int32)), .val (.int (2 : Int32)), .val (.int c1)] [(.int (2 : Int32)), (.ref a1)])) rfl rfl (hb hby d6_12) _ ?_
  refine XS.istore X114.here hx rfl (hb hby d6_13) rfl (l' := #[.val (.ref a1), .val (.int (2 : Int32)), .val (.ref a3), .val (.int (2 : Int32)), .val (.int (4 : Int32)), .val (.int (2 : Int32)), .val (.int c2)]) rfl ?_
  refine XS.iload X114.here hx rfl (hb hby d6_15) rfl ?_
  refine XS.sipush X114.here hx rfl (hb hby d6_17) ?_
  exact k_)
 have c120 : ((255 : Int32) < c2) := m2
 have p121 : Go p.tables e below _ (T114.setTop (mkF m 25 #[.val (.ref a1), .val (.int (2 : Int32)), .val (.ref a3), .val (.int (2 : Int32)), .val (.int (4 : Int32)), .val (.int (2 : Int32)), .val (.int c2)] [(.int (2 : Int32))])) := fun t_ k_ => p119 t_ (by
  refine XS.icmpNo X114.here hx rfl (hb hby d6_20) rfl (tlt c120).2.2.2 ?_
  refine XS.iload X114.here hx rfl (hb hby d6_23) rfl ?_
  exact k_)
 obtain ⟨fs, hr, hrun, hended, hW, hsame⟩ := X114.leave (v := some (.int (2 : Int32))) (fun h => by rw [Bd.returns] at h; cases h)
 refine ⟨_, _, p121 _ (retI X114 hx Bd.returns (hb hby d6_25) hr), hrun, hended, _, _, rfl, ?_, ⟨_, rfl⟩, hW, hsame.mono (by decide) (by decide)⟩
 show Q6_U4_2 Z a1 a3 k1 k3 c0 c1 c2 c3 h0 n0 _ T114.heap _
 rw [e114]
 exact ⟨rfl, N114, K115, V114⟩
theorem ef_rm6_U4_3 (m : MethodId) (a1 : Addr) (a3 : Addr) (k1 : ClassId) (k3 : ClassId) (c0 : Int32) (c1 : Int32) (c2 : Int32) (c3 : Int32) : entryFrame m #[(.ref a1), (.int (0 : Int32)), (.ref a3), (.int (0 : Int32)), (.int (4 : Int32))] 7 = mkF m 0 #[.val (.ref a1), .val (.int (0 : Int32)), .val (.ref a3), .val (.int (0 : Int32)), .val (.int (4 : Int32)), .unset, .unset] [] := by first | (simp [entryFrame, mkF, argsToLocals, Value.category]; done) | rfl
def Q6_U4_3 (Z : State) (a1 : Addr) (a3 : Addr) (k1 : ClassId) (k3 : ClassId) (c0 : Int32) (c1 : Int32) (c2 : Int32) (c3 : Int32) (h0 : Heap) (n0 : Nat) (v : Option Value) (h : Heap) (L : List Loc) : Prop := v = some (.int (3 : Int32)) ∧ Fr n0 L ∧ (Keep h0 h [a3]) ∧ (Arv Z h a3 k3 .byte (4 : Int32) [(.int (own_xl c0)), (.int (own_xl c1)), (.int (own_xl c2)), (.int (0 : Int32))] (.int (0 : Int32)))
set_option maxRecDepth 65536 in
set_option maxHeartbeats 40000000 in
theorem rm6_U4_3 (l : Launch) (Z : State) (a0 : Array Value) (hw : ∀ d ∈ tables_1, d.before a0 Z = true) (ws : List Jvm.Cond) (a1 : Addr) (a3 : Addr) (k1 : ClassId) (k3 : ClassId) (c0 : Int32) (c1 : Int32) (c2 : Int32) (c3 : Int32) (h0 : Heap) (n0 : Nat) (Z0 : n0 ≤ h0.size) (V1 : Arv Z h0 a1 k1 .char (4 : Int32) [(.int c0), (.int c1), (.int c2), (.int c3)] (.int (0 : Int32))) (V3 : Arv Z h0 a3 k3 .byte (4 : Int32) [(.int (0 : Int32)), (.int (0 : Int32)), (.int (0 : Int32)), (.int (0 : Int32))] (.int (0 : Int32))) (ne : a1 ≠ a3) (g3 : n0 ≤ a3) (l0 : ¬ ((255 : Int32) < c0)) (l1 : ¬ ((255 : Int32) < c1)) (l2 : ¬ ((255 : Int32) < c2)) (m3 : (255 : Int32) < c3) :
  MetFree l (⟨"java/lang/StringUTF16", "compress", "([CI[BII)I"⟩ : MethodName) (head1 (Jvm.Cond.code (⟨"java/lang/StringUTF16", "compress", "([CI[BII)I"⟩ : MethodName) jdk_52_method_21_code 7 (some .int) :: ws) ({ frames := 0, cells := 0, slots := 0, locals := 0 } : Room)) (fun a U => a = #[(.ref a1), (.int (0 : Int32)), (.ref a3), (.int (0 : Int32)), (.int (4 : Int32))] ∧ Z.Warmed39 U.vm ∧ U.heap = h0) (fun _ _ _ _ _ => True) (fun _ U o U' => ∃ v L, o = .returned v ∧ Q6_U4_3 Z a1 a3 k1 k3 c0 c1 c2 c3 h0 n0 v U'.heap L ∧ FrameEnd U o U' L ({ frames := 0, cells := 0, slots := 0, locals := 0 } : Room).cells ({ frames := 0, cells := 0, slots := 0, locals := 0 } : Room).slots) := by
 refine MetFree.of_bodySF pn6 hisR ?_
 intro p e s m args below meth c s₁ Bd hml0 hP hK
 obtain ⟨rfl, hZ, hh⟩ := hP
 have hx := Bd.exec
 have hby := Bd.bytes
 have hml : c.maxLocals = 7 := hml0
 have hown : s.vm.findClass "java/lang/StringUTF16" = some m.cls := findClass_of_methodNamed Bd.named
 have hnm := (name_of_methodNamed Bd.named Bd.method).1
 have X0 : Stand p l e ({ frames := 0, cells := 0, slots := 0, locals := 0 } : Room) s m #[(.ref a1), (.int (0 : Int32)), (.ref a3), (.int (0 : Int32)), (.int (4 : Int32))] below meth c s₁ [] 0 0 := Stand.of_body Bd
 have e0 : s₁.heap = h0 := by rw [← hh, Bd.state]; rfl
 have N0 := Fr.nil n0
 have p0 : Go p.tables e below (s₁.setTop (entryFrame m #[(.ref a1), (.int (0 : Int32)), (.ref a3), (.int (0 : Int32)), (.int (4 : Int32))] 7)) (s₁.setTop (mkF m 0 #[.val (.ref a1), .val (.int (0 : Int32)), .val (.ref a3), .val (.int (0 : Int32)), .val (.int (4 : Int32)), .unset, .unset] [])) := fun t_ k_ => castTop (ef_rm6_U4_3 m a1 a3 k1 k3 c0 c1 c2 c3) k_
 have p101 : Go p.tables e below _ (s₁.setTop (mkF m 12 #[.val (.ref a1), .val (.int (0 : Int32)), .val (.ref a3), .val (.int (0 : Int32)), .val (.int (4 : Int32)), .val (.int (0 : Int32)), .unset] [(.int (0 : Int32)), (.ref a1)])) := fun t_ k_ => p0 t_ (by
  refine XS.iconst X0.here hx rfl (hb hby d6_0) ?_
  refine XS.istore X0.here hx rfl (hb hby d6_1) rfl (l' := #[.val (.ref a1), .val (.int (0 : Int32)), .val (.ref a3), .val (.int (0 : Int32)), .val (.int (4 : Int32)), .val (.int (0 : Int32)), .unset]) rfl ?_
  refine XS.iload X0.here hx rfl (hb hby d6_3) rfl ?_
  refine XS.iload X0.here hx rfl (hb hby d6_5) rfl ?_
  refine XS.icmpNo X0.here hx rfl (hb hby d6_7) rfl (tlt (by decide : ((0 : Int32) < (4 : Int32)))).2.1 ?_
  refine XS.aloadN X0.here hx rfl (hb hby d6_10) rfl rfl ?_
  refine XS.iloadN X0.here hx rfl (hb hby d6_11) rfl ?_
  exact k_)
 obtain ⟨cl102, Ar102, q102, S102, Ng102, H102, G102⟩ := id V1
 have hin102 := inb_of S102 (j := (0 : Int32)) ⟨by decide, by decide⟩
 have hat102 := H102.at (v := (.int c0)) hin102 rfl
 have p103 : Go p.tables e below _ (s₁.setTop (mkF m 20 #[.val (.ref a1), .val (.int (0 : Int32)), .val (.ref a3), .val (.int (0 : Int32)), .val (.int (4 : Int32)), .val (.int (0 : Int32)), .val (.int c0)] [(.int (255 : Int32)), (.int c0)])) := fun t_ k_ => p101 t_ (by
  refine X0.caload hx (j := (0 : Int32)) (v := (.int c0)) (by rw [e0]; exact Ar102.1) (State.isArrayOf_alike hZ.alike Ar102.2.1) Ar102.2.2 hin102 hat102 (g := (mkF m 12 #[.val (.ref a1), .val (.int (0 : Int32)), .val (.ref a3), .val (.int (0 : Int32)), .val (.int (4 : Int32)), .val (.int (0 : Int32)), .unset] [(.int (0 : Int32)), (.ref a1)])) rfl rfl (hb hby d6_12) _ ?_
  refine XS.istore X0.here hx rfl (hb hby d6_13) rfl (l' := #[.val (.ref a1), .val (.int (0 : Int32)), .val (.ref a3), .val (.int (0 : Int32)), .val (.int (4 : Int32)), .val (.int (0 : Int32)), .val (.int c0)]) rfl ?_
  refine XS.iload X0.here hx rfl (hb hby d6_15) rfl ?_
  refine XS.sipush X0.here hx rfl (hb hby d6_17) ?_
  exact k_)
 have c104 : ¬ ((255 : Int32) < c0) := l0
 have p105 : Go p.tables e below _ (s₁.setTop (mkF m 31 #[.val (.ref a1), .val (.int (0 : Int32)), .val (.ref a3), .val (.int (0 : Int32)), .val (.int (4 : Int32)), .val (.int (0 : Int32)), .val (.int c0)] [(.int (c0.toInt8.toInt32)), (.int (0 : Int32)), (.ref a3)])) := fun t_ k_ => p103 t_ (by
  refine XS.icmpYes X0.here hx rfl (pc0 := 20) (pc' := 26) rfl (hb hby d6_20) rfl (flt c104).2.2.2 (by decide) (by decide) ?_
  refine XS.aloadN X0.here hx rfl (hb hby d6_26) rfl rfl ?_
  refine XS.iloadN X0.here hx rfl (hb hby d6_27) rfl ?_
  refine XS.iload X0.here hx rfl (hb hby d6_28) rfl ?_
  refine XS.i2b X0.here hx rfl (hb hby d6_30) rfl ?_
  exact k_)
 obtain ⟨cl106, Ar106, q106, S106, Ng106, H106, G106⟩ := id V3
 have hin106 := inb_of S106 (j := (0 : Int32)) ⟨by decide, by decide⟩
 obtain ⟨T106, h106, X106, e106, W106, st106⟩ := stB X0 hx hZ e0 Ar106 (j := (0 : Int32)) hin106 (g := (mkF m 31 #[.val (.ref a1), .val (.int (0 : Int32)), .val (.ref a3), .val (.int (0 : Int32)), .val (.int (4 : Int32)), .val (.int (0 : Int32)), .val (.int c0)] [(.int (c0.toInt8.toInt32)), (.int (0 : Int32)), (.ref a3)])) rfl rfl (hb hby d6_31)
 have K107 : Keep h0 h106 [a3] := (Keep.refl h0 [a3]).wr W106 (Or.inl (List.mem_of_getElem? (i := 0) rfl))
 have N106 := Fr.snoc X106 N0 g3
 have V106 : Arv Z h106 a3 k3 .byte (4 : Int32) [(.int (own_xl c0)), (.int (0 : Int32)), (.int (0 : Int32)), (.int (0 : Int32))] (.int (0 : Int32)) := Arv.set Ar106 q106 S106 Ng106 H106 G106 (fits_nar_byte _) W106 0 rfl (Nat.le_of_ble_eq_true rfl)
 have p108 : Go p.tables e below _ (T106.setTop (mkF m 12 #[.val (.ref a1), .val (.int (1 : Int32)), .val (.ref a3), .val (.int (1 : Int32)), .val (.int (4 : Int32)), .val (.int (1 : Int32)), .val (.int c0)] [(.int (1 : Int32)), (.ref a1)])) := fun t_ k_ => (gc p105 st106) t_ (by
  refine XS.iinc X106.here hx rfl (hb hby d6_32) rfl (l' := #[.val (.ref a1), .val (.int (1 : Int32)), .val (.ref a3), .val (.int (0 : Int32)), .val (.int (4 : Int32)), .val (.int (0 : Int32)), .val (.int c0)]) rfl ?_
  refine XS.iinc X106.here hx rfl (hb hby d6_35) rfl (l' := #[.val (.ref a1), .val (.int (1 : Int32)), .val (.ref a3), .val (.int (1 : Int32)), .val (.int (4 : Int32)), .val (.int (0 : Int32)), .val (.int c0)]) rfl ?_
  refine XS.iinc X106.here hx rfl (hb hby d6_38) rfl (l' := #[.val (.ref a1), .val (.int (1 : Int32)), .val (.ref a3), .val (.int (1 : Int32)), .val (.int (4 : Int32)), .val (.int (1 : Int32)), .val (.int c0)]) rfl ?_
  refine XS.goto X106.here hx rfl (pc0 := 41) (pc' := 3) rfl (hb hby d6_41) (by decide) (by decide) ?_
  refine XS.iload X106.here hx rfl (hb hby d6_3) rfl ?_
  refine XS.iload X106.here hx rfl (hb hby d6_5) rfl ?_
  refine XS.icmpNo X106.here hx rfl (hb hby d6_7) rfl (tlt (by decide : ((1 : Int32) < (4 : Int32)))).2.1 ?_
  refine XS.aloadN X106.here hx rfl (hb hby d6_10) rfl rfl ?_
  refine XS.iloadN X106.here hx rfl (hb hby d6_11) rfl ?_
  exact k_)
 have f110 := (V1.other W106 ne)
 obtain ⟨cl109, Ar109, q109, S109, Ng109, H109, G109⟩ := id f110
 have hin109 := inb_of S109 (j := (1 : Int32)) ⟨by decide, by decide⟩
 have hat109 := H109.at (v := (.int c1)) hin109 rfl
 have p111 : Go p.tables e below _ (T106.setTop (mkF m 20 #[.val (.ref a1), .val (.int (1 : Int32)), .val (.ref a3), .val (.int (1 : Int32)), .val (.int (4 : Int32)), .val (.int (1 : Int32)), .val (.int c1)] [(.int (255 : Int32)), (.int c1)])) := fun t_ k_ => p108 t_ (by
  refine X106.caload hx (j := (1 : Int32)) (v := (.int c1)) (by rw [e106]; exact Ar109.1) (State.isArrayOf_alike hZ.alike Ar109.2.1) Ar109.2.2 hin109 hat109 (g := (mkF m 12 #[.val (.ref a1), .val (.int (1 : Int32)), .val (.ref a3), .val (.int (1 : Int32)), .val (.int (4 : Int32)), .val (.int (1 : Int32)), .val (.int c0)] [(.int (1 : Int32)), (.ref a1)])) rfl rfl (hb hby d6_12) _ ?_
  refine XS.istore X106.here hx rfl (hb hby d6_13) rfl (l' := #[.val (.ref a1), .val (.int (1 : Int32)), .val (.ref a3), .val (.int (1 : Int32)), .val (.int (4 : Int32)), .val (.int (1 : Int32)), .val (.int c1)]) rfl ?_
  refine XS.iload X106.here hx rfl (hb hby d6_15) rfl ?_
  refine XS.sipush X106.here hx rfl (hb hby d6_17) ?_
  exact k_)
 have c112 : ¬ ((255 : Int32) < c1) := l1
 have p113 : Go p.tables e below _ (T106.setTop (mkF m 31 #[.val (.ref a1), .val (.int (1 : Int32)), .val (.ref a3), .val (.int (1 : Int32)), .val (.int (4 : Int32)), .val (.int (1 : Int32)), .val (.int c1)] [(.int (c1.toInt8.toInt32)), (.int (1 : Int32)), (.ref a3)])) := fun t_ k_ => p111 t_ (by
  refine XS.icmpYes X106.here hx rfl (pc0 := 20) (pc' := 26) rfl (hb hby d6_20) rfl (flt c112).2.2.2 (by decide) (by decide) ?_
  refine XS.aloadN X106.here hx rfl (hb hby d6_26) rfl rfl ?_
  refine XS.iloadN X106.here hx rfl (hb hby d6_27) rfl ?_
  refine XS.iload X106.here hx rfl (hb hby d6_28) rfl ?_
  refine XS.i2b X106.here hx rfl (hb hby d6_30) rfl ?_
  exact k_)
 obtain ⟨cl114, Ar114, q114, S114, Ng114, H114, G114⟩ := id V106
 have hin114 := inb_of S114 (j := (1 : Int32)) ⟨by decide, by decide⟩
 obtain ⟨T114, h114, X114, e114, W114, st114⟩ := stB X106 hx hZ e106 Ar114 (j := (1 : Int32)) hin114 (g := (mkF m 31 #[.val (.ref a1), .val (.int (1 : Int32)), .val (.ref a3), .val (.int (1 : Int32)), .val (.int (4 : Int32)), .val (.int (1 : Int32)), .val (.int c1)] [(.int (c1.toInt8.toInt32)), (.int (1 : Int32)), (.ref a3)])) rfl rfl (hb hby d6_31)
 have K115 : Keep h0 h114 [a3] := K107.wr W114 (Or.inl (List.mem_of_getElem? (i := 0) rfl))
 have N114 := Fr.snoc X114 N106 g3
 have V114 : Arv Z h114 a3 k3 .byte (4 : Int32) [(.int (own_xl c0)), (.int (own_xl c1)), (.int (0 : Int32)), (.int (0 : Int32))] (.int (0 : Int32)) := Arv.set Ar114 q114 S114 Ng114 H114 G114 (fits_nar_byte _) W114 1 rfl (Nat.le_of_ble_eq_true rfl)
 have p116 : Go p.tables e below _ (T114.setTop (mkF m 12 #[.val (.ref a1), .val (.int (2 : Int32)), .val (.ref a3), .val (.int (2 : Int32)), .val (.int (4 : Int32)), .val (.int (2 : Int32)), .val (.int c1)] [(.int (2 : Int32)), (.ref a1)])) := fun t_ k_ => (gc p113 st114) t_ (by
  refine XS.iinc X114.here hx rfl (hb hby d6_32) rfl (l' := #[.val (.ref a1), .val (.int (2 : Int32)), .val (.ref a3), .val (.int (1 : Int32)), .val (.int (4 : Int32)), .val (.int (1 : Int32)), .val (.int c1)]) rfl ?_
  refine XS.iinc X114.here hx rfl (hb hby d6_35) rfl (l' := #[.val (.ref a1), .val (.int (2 : Int32)), .val (.ref a3), .val (.int (2 : Int32)), .val (.int (4 : Int32)), .val (.int (1 : Int32)), .val (.int c1)]) rfl ?_
  refine XS.iinc X114.here hx rfl (hb hby d6_38) rfl (l' := #[.val (.ref a1), .val (.int (2 : Int32)), .val (.ref a3), .val (.int (2 : Int32)), .val (.int (4 : Int32)), .val (.int (2 : Int32)), .val (.int c1)]) rfl ?_
  refine XS.goto X114.here hx rfl (pc0 := 41) (pc' := 3) rfl (hb hby d6_41) (by decide) (by decide) ?_
  refine XS.iload X114.here hx rfl (hb hby d6_3) rfl ?_
  refine XS.iload X114.here hx rfl (hb hby d6_5) rfl ?_
  refine XS.icmpNo X114.here hx rfl (hb hby d6_7) rfl (tlt (by decide : ((2 : Int32) < (4 : Int32)))).2.1 ?_
  refine XS.aloadN X114.here hx rfl (hb hby d6_10) rfl rfl ?_
  refine XS.iloadN X114.here hx rfl (hb hby d6_11) rfl ?_
  exact k_)
 have f118 := (f110.other W114 ne)
 obtain ⟨cl117, Ar117, q117, S117, Ng117, H117, G117⟩ := id f118
 have hin117 := inb_of S117 (j := (2 : Int32)) ⟨by decide, by decide⟩
 have hat117 := H117.at (v := (.int c2)) hin117 rfl
 have p119 : Go p.tables e below _ (T114.setTop (mkF m 20 #[.val (.ref a1), .val (.int (2 : Int32)), .val (.ref a3), .val (.int (2 : Int32)), .val (.int (4 : Int32)), .val (.int (2 : Int32)), .val (.int c2)] [(.int (255 : Int32)), (.int c2)])) := fun t_ k_ => p116 t_ (by
  refine X114.caload hx (j := (2 : Int32)) (v := (.int c2)) (by rw [e114]; exact Ar117.1) (State.isArrayOf_alike hZ.alike Ar117.2.1) Ar117.2.2 hin117 hat117 (g := (mkF m 12 #[.val (.ref a1), .val (.int (2 : Int32)), .val (.ref a3), .val (.int (2 : Int32)), .val (.int (4 : Int32)), .val (.int (2 : Int32)), .val (.int c1)] [(.int (2 : Int32)), (.ref a1)])) rfl rfl (hb hby d6_12) _ ?_
  refine XS.istore X114.here hx rfl (hb hby d6_13) rfl (l' := #[.val (.ref a1), .val (.int (2 : Int32)), .val (.ref a3), .val (.int (2 : Int32)), .val (.int (4 : Int32)), .val (.int (2 : Int32)), .val (.int c2)]) rfl ?_
  refine XS.iload X114.here hx rfl (hb hby d6_15) rfl ?_
  refine XS.sipush X114.here hx rfl (hb hby d6_17) ?_
  exact k_)
 have c120 : ¬ ((255 : Int32) < c2) := l2
 have p121 : Go p.tables e below _ (T114.setTop (mkF m 31 #[.val (.ref a1), .val (.int (2 : Int32)), .val (.ref a3), .val (.int (2 : Int32)), .val (.int (4 : Int32)), .val (.int (2 : Int32)), .val (.int c2)] [(.int (c2.toInt8.toInt32)), (.int (2 : Int32)), (.ref a3)])) := fun t_ k_ => p119 t_ (by
  refine XS.icmpYes X114.here hx rfl (pc0 := 20) (pc' := 26) rfl (hb hby d6_20) rfl (flt c120).2.2.2 (by decide) (by decide) ?_
  refine XS.aloadN X114.here hx rfl (hb hby d6_26) rfl rfl ?_
  refine XS.iloadN X114.here hx rfl (hb hby d6_27) rfl ?_
  refine XS.iload X114.here hx rfl (hb hby d6_28) rfl ?_
  refine XS.i2b X114.here hx rfl (hb hby d6_30) rfl ?_
  exact k_)
 obtain ⟨cl122, Ar122, q122, S122, Ng122, H122, G122⟩ := id V114
 have hin122 := inb_of S122 (j := (2 : Int32)) ⟨by decide, by decide⟩
 obtain ⟨T122, h122, X122, e122, W122, st122⟩ := stB X114 hx hZ e114 Ar122 (j := (2 : Int32)) hin122 (g := (mkF m 31 #[.val (.ref a1), .val (.int (2 : Int32)), .val (.ref a3), .val (.int (2 : Int32)), .val (.int (4 : Int32)), .val (.int (2 : Int32)), .val (.int c2)] [(.int (c2.toInt8.toInt32)), (.int (2 : Int32)), (.ref a3)])) rfl rfl (hb hby d6_31)
 have K123 : Keep h0 h122 [a3] := K115.wr W122 (Or.inl (List.mem_of_getElem? (i := 0) rfl))
 have N122 := Fr.snoc X122 N114 g3
 have V122 : Arv Z h122 a3 k3 .byte (4 : Int32) [(.int (own_xl c0)), (.int (own_xl c1)), (.int (own_xl c2)), (.int (0 : Int32))] (.int (0 : Int32)) := Arv.set Ar122 q122 S122 Ng122 H122 G122 (fits_nar_byte _) W122 2 rfl (Nat.le_of_ble_eq_true rfl)
 have p124 : Go p.tables e below _ (T122.setTop (mkF m 12 #[.val (.ref a1), .val (.int (3 : Int32)), .val (.ref a3), .val (.int (3 : Int32)), .val (.int (4 : Int32)), .val (.int (3 : Int32)), .val (.int c2)] [(.int (3 : Int32)), (.ref a1)])) := fun t_ k_ => (gc p121 st122) t_ (by
  refine XS.iinc X122.here hx rfl (hb hby d6_32) rfl (l' := #[.val (.ref a1), .val (.int (3 : Int32)), .val (.ref a3), .val (.int (2 : Int32)), .val (.int (4 : Int32)), .val (.int (2 : Int32)), .val (.int c2)]) rfl ?_
  refine XS.iinc X122.here hx rfl (hb hby d6_35) rfl (l' := #[.val (.ref a1), .val (.int (3 : Int32)), .val (.ref a3), .val (.int (3 : Int32)), .val (.int (4 : Int32)), .val (.int (2 : Int32)), .val (.int c2)]) rfl ?_
  refine XS.iinc X122.here hx rfl (hb hby d6_38) rfl (l' := #[.val (.ref a1), .val (.int (3 : Int32)), .val (.ref a3), .val (.int (3 : Int32)), .val (.int (4 : Int32)), .val (.int (3 : Int32)), .val (.int c2)]) rfl ?_
  refine XS.goto X122.here hx rfl (pc0 := 41) (pc' := 3) rfl (hb hby d6_41) (by decide) (by decide) ?_
  refine XS.iload X122.here hx rfl (hb hby d6_3) rfl ?_
  refine XS.iload X122.here hx rfl (hb hby d6_5) rfl ?_
  refine XS.icmpNo X122.here hx rfl (hb hby d6_7) rfl (tlt (by decide : ((3 : Int32) < (4 : Int32)))).2.1 ?_
  refine XS.aloadN X122.here hx rfl (hb hby d6_10) rfl rfl ?_
  refine XS.iloadN X122.here hx rfl (hb hby d6_11) rfl ?_
  exact k_)
 have f126 := (f118.other W122 ne)
 obtain ⟨cl125, Ar125, q125, S125, Ng125, H125, G125⟩ := id f126
 have hin125 := inb_of S125 (j := (3 : Int32)) ⟨by decide, by decide⟩
 have hat125 := H125.at (v := (.int c3)) hin125 rfl
 have p127 : Go p.tables e below _ (T122.setTop (mkF m 20 #[.val (.ref a1), .val (.int (3 : Int32)), .val (.ref a3), .val (.int (3 : Int32)), .val (.int (4 : Int32)), .val (.int (3 : Int32)), .val (.int c3)] [(.int (255 : Int32)), (.int c3)])) := fun t_ k_ => p124 t_ (by
  refine X122.caload hx (j := (3 : Int32)) (v := (.int c3)) (by rw [e122]; exact Ar125.1) (State.isArrayOf_alike hZ.alike Ar125.2.1) Ar125.2.2 hin125 hat125 (g := (mkF m 12 #[.val (.ref a1), .val (.int (3 : Int32)), .val (.ref a3), .val (.int (3 : Int32)), .val (.int (4 : Int32)), .val (.int (3 : Int32)), .val (.int c2)] [(.int (3 : Int32)), (.ref a1)])) rfl rfl (hb hby d6_12) _ ?_
  refine XS.istore X122.here hx rfl (hb hby d6_13) rfl (l' := #[.val (.ref a1), .val (.int (3 : Int32)), .val (.ref a3), .val (.int (3 : Int32)), .val (.int (4 : Int32)), .val (.int (3 : Int32)), .val (.int c3)]) rfl ?_
  refine XS.iload X122.here hx rfl (hb hby d6_15) rfl ?_
  refine XS.sipush X122.here hx rfl (hb hby d6_17) ?_
  exact k_)
 have c128 : ((255 : Int32) < c3) := m3
 have p129 : Go p.tables e below _ (T122.setTop (mkF m 25 #[.val (.ref a1), .val (.int (3 : Int32)), .val (.ref a3), .val (.int (3 : Int32)), .val (.int (4 : Int32)), .val (.int (3 : Int32)), .val (.int c3)] [(.int (3 : Int32))])) := fun t_ k_ => p127 t_ (by
  refine XS.icmpNo X122.here hx rfl (hb hby d6_20) rfl (tlt c128).2.2.2 ?_
  refine XS.iload X122.here hx rfl (hb hby d6_23) rfl ?_
  exact k_)
 obtain ⟨fs, hr, hrun, hended, hW, hsame⟩ := X122.leave (v := some (.int (3 : Int32))) (fun h => by rw [Bd.returns] at h; cases h)
 refine ⟨_, _, p129 _ (retI X122 hx Bd.returns (hb hby d6_25) hr), hrun, hended, _, _, rfl, ?_, ⟨_, rfl⟩, hW, hsame.mono (by decide) (by decide)⟩
 show Q6_U4_3 Z a1 a3 k1 k3 c0 c1 c2 c3 h0 n0 _ T122.heap _
 rw [e122]
 exact ⟨rfl, N122, K123, V122⟩
theorem d5_20 : decode jdk_52_method_16_code 20 = .ok (.aload_n 0, 1) := by decide +kernel
theorem d5_21 : decode jdk_52_method_16_code 21 = .ok (.iload_n 1, 1) := by decide +kernel
theorem d5_22 : decode jdk_52_method_16_code 22 = .ok (.iload_n 2, 1) := by decide +kernel
theorem d5_23 : decode jdk_52_method_16_code 23 = .ok (.invokestatic 119, 3) := by decide +kernel
theorem d5_26 : decode jdk_52_method_16_code 26 = .ok (.astore 5, 2) := by decide +kernel
theorem d5_28 : decode jdk_52_method_16_code 28 = .ok (.aload 5, 2) := by decide +kernel
theorem d5_30 : decode jdk_52_method_16_code 30 = .ok (.iload 4, 2) := by decide +kernel
theorem d5_32 : decode jdk_52_method_16_code 32 = .ok (.invokestatic 71, 3) := by decide +kernel
theorem d5_35 : decode jdk_52_method_16_code 35 = .ok (.sipush 255, 3) := by decide +kernel
theorem d5_38 : decode jdk_52_method_16_code 38 = .ok (.if_icmp .gt 16, 3) := by decide +kernel
theorem d5_54 : decode jdk_52_method_16_code 54 = .ok (.aload 5, 2) := by decide +kernel
theorem d5_56 : decode jdk_52_method_16_code 56 = .ok (.areturn, 1) := by decide +kernel
theorem ef_rm5_U4 (m : MethodId) (a1 : Addr) (k1 : ClassId) (c0 : Int32) (c1 : Int32) (c2 : Int32) (c3 : Int32) (cs1 : Int32) (fm : Value) : entryFrame m #[(.ref a1), (.int (0 : Int32)), (.int (4 : Int32))] 6 = mkF m 0 #[.val (.ref a1), .val (.int (0 : Int32)), .val (.int (4 : Int32)), .unset, .unset, .unset] [] := by first | (simp [entryFrame, mkF, argsToLocals, Value.category]; done) | rfl
def Q5_U4 (Z : State) (a1 : Addr) (k1 : ClassId) (c0 : Int32) (c1 : Int32) (c2 : Int32) (c3 : Int32) (cs1 : Int32) (fm : Value) (h0 : Heap) (n0 : Nat) (v : Option Value) (h : Heap) (L : List Loc) : Prop := ∃ (b : Addr) (kb : ClassId), v = some (.ref b) ∧ Fr n0 L ∧ (Keep h0 h []) ∧ (n0 ≤ b) ∧ (h0.size ≤ b) ∧ (Arv Z h b kb .byte (8 : Int32) [(.int (own_x0 c0)), (.int (own_x8 c0)), (.int (own_x0 c1)), (.int (own_x8 c1)), (.int (own_x0 c2)), (.int (own_x8 c2)), (.int (own_x0 c3)), (.int (own_x8 c3))] (.int (0 : Int32)))
set_option maxRecDepth 65536 in
set_option maxHeartbeats 40000000 in
theorem rm5_U4 (l : Launch) (Z : State) (a0 : Array Value) (hw : ∀ d ∈ tables_1, d.before a0 Z = true) (ws : List Jvm.Cond) (a1 : Addr) (k1 : ClassId) (c0 : Int32) (c1 : Int32) (c2 : Int32) (c3 : Int32) (cs1 : Int32) (fm : Value) (h0 : Heap) (n0 : Nat) (Z0 : n0 ≤ h0.size) (O1 : Old Z n0 h0) (G : own_G Z cs1 fm) (V1 : Arv Z h0 a1 k1 .char (4 : Int32) [(.int c0), (.int c1), (.int c2), (.int c3)] (.int (0 : Int32))) (a0_ : ¬ (c0 < (0 : Int32))) (b0_ : ¬ ((65535 : Int32) < c0)) (a1_ : ¬ (c1 < (0 : Int32))) (b1_ : ¬ ((65535 : Int32) < c1)) (a2_ : ¬ (c2 < (0 : Int32))) (b2_ : ¬ ((65535 : Int32) < c2)) (a3_ : ¬ (c3 < (0 : Int32))) (b3_ : ¬ ((65535 : Int32) < c3)) (big : ((255 : Int32) < c0) ∨ ((255 : Int32) < c1) ∨ ((255 : Int32) < c2) ∨ ((255 : Int32) < c3)) :
  MetFree l (⟨"java/lang/StringUTF16", "compress", "([CII)[B"⟩ : MethodName) (head1 (Jvm.Cond.code (⟨"java/lang/StringUTF16", "compress", "([CII)[B"⟩ : MethodName) jdk_52_method_16_code 6 (some (.array .byte)) :: ws) ({ frames := 3, cells := 2, slots := 12, locals := 40 } : Room)) (fun a U => a = #[(.ref a1), (.int (0 : Int32)), (.int (4 : Int32))] ∧ Z.Warmed39 U.vm ∧ U.heap = h0) (fun _ _ _ _ _ => True) (fun _ U o U' => ∃ v L, o = .returned v ∧ Q5_U4 Z a1 k1 c0 c1 c2 c3 cs1 fm h0 n0 v U'.heap L ∧ FrameEnd U o U' L ({ frames := 3, cells := 2, slots := 12, locals := 40 } : Room).cells ({ frames := 3, cells := 2, slots := 12, locals := 40 } : Room).slots) := by
 refine MetFree.of_bodySF pn5 hisR ?_
 intro p e s m args below meth c s₁ Bd hml0 hP hK
 obtain ⟨rfl, hZ, hh⟩ := hP
 have hx := Bd.exec
 have hby := Bd.bytes
 have hml : c.maxLocals = 6 := hml0
 have hown : s.vm.findClass "java/lang/StringUTF16" = some m.cls := findClass_of_methodNamed Bd.named
 have hnm := (name_of_methodNamed Bd.named Bd.method).1
 have X0 : Stand p l e ({ frames := 3, cells := 2, slots := 12, locals := 40 } : Room) s m #[(.ref a1), (.int (0 : Int32)), (.int (4 : Int32))] below meth c s₁ [] 0 0 := Stand.of_body Bd
 have e0 : s₁.heap = h0 := by rw [← hh, Bd.state]; rfl
 have N0 := Fr.nil n0
 have p0 : Go p.tables e below (s₁.setTop (entryFrame m #[(.ref a1), (.int (0 : Int32)), (.int (4 : Int32))] 6)) (s₁.setTop (mkF m 0 #[.val (.ref a1), .val (.int (0 : Int32)), .val (.int (4 : Int32)), .unset, .unset, .unset] [])) := fun t_ k_ => castTop (ef_rm5_U4 m a1 k1 c0 c1 c2 c3 cs1 fm) k_
 have p101 : Go p.tables e below _ (s₁.setTop (mkF m 1 #[.val (.ref a1), .val (.int (0 : Int32)), .val (.int (4 : Int32)), .unset, .unset, .unset] [(.int (4 : Int32))])) := fun t_ k_ => p0 t_ (by
  refine XS.iloadN X0.here hx rfl (hb hby d5_0) rfl ?_
  exact k_)
 obtain ⟨T102, h102, k102, X102, e102, E102, A102, st102⟩ := newP X0 hx hZ (own_w hw 24 rfl) e0 (g := (mkF m 1 #[.val (.ref a1), .val (.int (0 : Int32)), .val (.int (4 : Int32)), .unset, .unset, .unset] [(.int (4 : Int32))])) rfl (hb hby d5_1) rfl (by decide) (cap := 4) (by decide) (by decide) (by decide) (by decide)
 obtain ⟨b102, g102⟩ : ∃ z, z = h0.size := ⟨_, rfl⟩
 rw [← g102] at A102 st102
 have ne_a1_b102 : a1 ≠ b102 := Nat.ne_of_lt (Nat.lt_of_lt_of_le V1.lt (Nat.le_of_eq g102.symm))
 have ge_b102 : n0 ≤ b102 := Nat.le_trans (Nat.le_trans Z0 (Keep.refl h0 []).1) (Nat.le_of_eq g102.symm)
 have sz_b102 : h0.size ≤ b102 := Nat.le_trans (Keep.refl h0 []).1 (Nat.le_of_eq g102.symm)
 have K103 : Keep h0 h102 [] := (Keep.refl h0 []).ext E102
 have V102 : Arv Z h102 b102 k102 .byte (4 : Int32) [(.int (0 : Int32)), (.int (0 : Int32)), (.int (0 : Int32)), (.int (0 : Int32))] (.int (0 : Int32)) := (Arv.new A102 (by decide)).pad (pad_rep [] (.int (0 : Int32)) 4)
 have p104 : Go p.tables e below _ (T102.setTop (mkF m 9 #[.val (.ref a1), .val (.int (0 : Int32)), .val (.int (4 : Int32)), .val (.ref b102), .unset, .unset] [(.int (4 : Int32)), (.int (0 : Int32)), (.ref b102), (.int (0 : Int32)), (.ref a1)])) := fun t_ k_ => (gc p101 st102) t_ (by
  refine XS.astoreN X102.here hx rfl (hb hby d5_3) rfl rfl (l' := #[.val (.ref a1), .val (.int (0 : Int32)), .val (.int (4 : Int32)), .val (.ref b102), .unset, .unset]) rfl ?_
  refine XS.aloadN X102.here hx rfl (hb hby d5_4) rfl rfl ?_
  refine XS.iloadN X102.here hx rfl (hb hby d5_5) rfl ?_
  refine XS.aloadN X102.here hx rfl (hb hby d5_6) rfl rfl ?_
  refine XS.iconst X102.here hx rfl (hb hby d5_7) ?_
  refine XS.iloadN X102.here hx rfl (hb hby d5_8) rfl ?_
  exact k_)
 by_cases m0 : (255 : Int32) < c0
 ·have f105 := (V1.ext E102)
  obtain ⟨_, _, ⟨T106, L106, k106, n106⟩, -, X106, ⟨Lc106, hQ106, l106, y106, z106⟩, st106⟩ := Jvm.LawKit.callS X102 hx (y := (⟨"java/lang/StringUTF16", "compress", "([CI[BII)I"⟩ : MethodName)) hown (mvT hZ (own_w hw 25 rfl)) (mvT hZ (own_w hw 26 rfl)) (mvT hZ (own_w hw 22 rfl)) (mvT hZ (own_w hw 27 rfl)) (by decide) (backOf (W := 0) (rm6_U4_0 l Z a0 hw [] a1 b102 k1 k102 c0 c1 c2 c3 h102 n0 (Nat.le_trans Z0 K103.1) f105 V102 ne_a1_b102 ge_b102 m0) hZ (own_w hw 27 rfl) (own_w hw 22 rfl) (by decide) (by decide)) (g := (mkF m 9 #[.val (.ref a1), .val (.int (0 : Int32)), .val (.int (4 : Int32)), .val (.ref b102), .unset, .unset] [(.int (4 : Int32)), (.int (0 : Int32)), (.ref b102), (.int (0 : Int32)), (.ref a1)])) rfl (by rw [hml]; rfl) (argsL := [(.ref a1), (.int (0 : Int32)), (.ref b102), (.int (0 : Int32)), (.int (4 : Int32))]) (rest := []) (lenOf pd7 rfl) rfl (by show 2 * 0 + _ ≤ _; exact Nat.le_of_eq rfl) (hb hby d5_9) (fun _ _ => ⟨rfl, e102, (by decide : 1 + 0 ≤ _), (by decide : 4 + 0 ≤ _)⟩)
  dsimp only [Pt.U, Pt.locs, Pt.cells, Pt.slots] at X106 l106 y106 z106 st106 hQ106
  subst l106 y106 z106
  obtain ⟨rfl, N106q, q106_K, q106_V⟩ := hQ106
  have N106 := Fr.app N0 N106q
  have K107 : Keep h0 T106.heap [] := K103.trans q106_K (allS (Or.inr sz_b102) all0)
  have p108 : Go p.tables e below _ (T106.setTop (mkF m 23 #[.val (.ref a1), .val (.int (0 : Int32)), .val (.int (4 : Int32)), .val (.ref b102), .val (.int (0 : Int32)), .unset] [(.int (4 : Int32)), (.int (0 : Int32)), (.ref a1)])) := fun t_ k_ => (gc p104 st106) t_ (by
   refine XS.istore X106.here hx rfl (hb hby d5_12) rfl (l' := #[.val (.ref a1), .val (.int (0 : Int32)), .val (.int (4 : Int32)), .val (.ref b102), .val (.int (0 : Int32)), .unset]) rfl ?_
   refine XS.iload X106.here hx rfl (hb hby d5_14) rfl ?_
   refine XS.iloadN X106.here hx rfl (hb hby d5_16) rfl ?_
   refine XS.icmpNo X106.here hx rfl (hb hby d5_17) rfl (feq (by decide : ¬ ((0 : Int32) = (4 : Int32)))).1 ?_
   refine XS.aloadN X106.here hx rfl (hb hby d5_20) rfl rfl ?_
   refine XS.iloadN X106.here hx rfl (hb hby d5_21) rfl ?_
   refine XS.iloadN X106.here hx rfl (hb hby d5_22) rfl ?_
   exact k_)
  have f109 := (f105.keep q106_K (ninS ne_a1_b102 nin0))
  have f110 := ((O1.ext E102).keep q106_K (allS ge_b102 all0))
  obtain ⟨_, _, ⟨T111, L111, k111, n111⟩, -, X111, ⟨Lc111, hQ111, l111, y111, z111⟩, st111⟩ := Jvm.LawKit.callS X106 hx (y := (⟨"java/lang/StringUTF16", "toBytes", "([CII)[B"⟩ : MethodName)) hown (mvT hZ (own_w hw 103 rfl)) (mvT hZ (own_w hw 104 rfl)) (mvT hZ (own_w hw 22 rfl)) (mvT hZ (own_w hw 105 rfl)) (by decide) (backOf (W := 0) (rm21_U4 l Z a0 hw [] a1 k1 c0 c1 c2 c3 cs1 fm T106.heap n0 (Nat.le_trans Z0 K107.1) f110 G f109) hZ (own_w hw 105 rfl) (own_w hw 22 rfl) (by decide) (by decide)) (g := (mkF m 23 #[.val (.ref a1), .val (.int (0 : Int32)), .val (.int (4 : Int32)), .val (.ref b102), .val (.int (0 : Int32)), .unset] [(.int (4 : Int32)), (.int (0 : Int32)), (.ref a1)])) rfl (by rw [hml]; rfl) (argsL := [(.ref a1), (.int (0 : Int32)), (.int (4 : Int32))]) (rest := []) (lenOf pd8 rfl) rfl (by show 2 * 0 + _ ≤ _; exact Nat.le_of_eq rfl) (hb hby d5_23) (fun _ _ => ⟨rfl, rfl, (by decide : 1 + 1 ≤ _), (by decide : 4 + 8 ≤ _)⟩)
  dsimp only [Pt.U, Pt.locs, Pt.cells, Pt.slots] at X111 l111 y111 z111 st111 hQ111
  subst l111 y111 z111
  obtain ⟨x112, x113, rfl, N111q, q111_K, q111_g, q111_z, q111_V⟩ := hQ111
  have N111 := Fr.app N106 N111q
  have K114 : Keep h0 T111.heap [] := K107.trans q111_K all0
  have ne_a1_x112 : a1 ≠ x112 := Nat.ne_of_lt (Nat.lt_of_lt_of_le f109.lt q111_z)
  have ne_b102_x112 : b102 ≠ x112 := Nat.ne_of_lt (Nat.lt_of_lt_of_le q106_V.lt q111_z)
  have p115 : Go p.tables e below _ (T111.setTop (mkF m 32 #[.val (.ref a1), .val (.int (0 : Int32)), .val (.int (4 : Int32)), .val (.ref b102), .val (.int (0 : Int32)), .val (.ref x112)] [(.int (0 : Int32)), (.ref x112)])) := fun t_ k_ => (gc p108 st111) t_ (by
   refine XS.astore X111.here hx rfl (hb hby d5_26) rfl rfl (l' := #[.val (.ref a1), .val (.int (0 : Int32)), .val (.int (4 : Int32)), .val (.ref b102), .val (.int (0 : Int32)), .val (.ref x112)]) rfl ?_
   refine XS.aload X111.here hx rfl (hb hby d5_28) rfl rfl ?_
   refine XS.iload X111.here hx rfl (hb hby d5_30) rfl ?_
   exact k_)
  have f116 := (f110.keep q111_K all0)
  obtain ⟨_, _, ⟨T117, L117, k117, n117⟩, -, X117, ⟨Lc117, hQ117, l117, y117, z117⟩, st117⟩ := Jvm.LawKit.callS X111 hx (y := (⟨"java/lang/StringUTF16", "getChar", "([BI)C"⟩ : MethodName)) hown (mvT hZ (own_w hw 119 rfl)) (mvT hZ (own_w hw 120 rfl)) (mvT hZ (own_w hw 22 rfl)) (mvT hZ (own_w hw 121 rfl)) (by decide) (backOf (W := 0) (rm25 l Z a0 hw [] x112 (0 : Int32) x113 (8 : Int32) [(.int (own_x0 c0)), (.int (own_x8 c0)), (.int (own_x0 c1)), (.int (own_x8 c1)), (.int (own_x0 c2)), (.int (own_x8 c2)), (.int (own_x0 c3)), (.int (own_x8 c3))] (own_x0 c0) (own_x8 c0) c0 cs1 fm T111.heap n0 (Nat.le_trans Z0 K114.1) f116 G q111_V (by decide) (by decide) rfl rfl (own_l16 c0 a0_ b0_)) hZ (own_w hw 121 rfl) (own_w hw 22 rfl) (by decide) (by decide)) (g := (mkF m 32 #[.val (.ref a1), .val (.int (0 : Int32)), .val (.int (4 : Int32)), .val (.ref b102), .val (.int (0 : Int32)), .val (.ref x112)] [(.int (0 : Int32)), (.ref x112)])) rfl (by rw [hml]; rfl) (argsL := [(.ref x112), (.int (0 : Int32))]) (rest := []) (lenOf pd4 rfl) rfl (by show 2 * 0 + _ ≤ _; exact Nat.le_of_eq rfl) (hb hby d5_32) (fun _ _ => ⟨rfl, rfl, (by decide : 2 + 0 ≤ _), (by decide : 12 + 0 ≤ _)⟩)
  dsimp only [Pt.U, Pt.locs, Pt.cells, Pt.slots] at X117 l117 y117 z117 st117 hQ117
  subst l117 y117 z117
  obtain ⟨rfl, N117q, q117_hh⟩ := hQ117
  have N117 := Fr.app N111 N117q
  have p118 : Go p.tables e below _ (T117.setTop (mkF m 38 #[.val (.ref a1), .val (.int (0 : Int32)), .val (.int (4 : Int32)), .val (.ref b102), .val (.int (0 : Int32)), .val (.ref x112)] [(.int (255 : Int32)), (.int c0)])) := fun t_ k_ => (gc p115 st117) t_ (by
   refine XS.sipush X117.here hx rfl (hb hby d5_35) ?_
   exact k_)
  have c119 : ((255 : Int32) < c0) := m0
  have p120 : Go p.tables e below _ (T117.setTop (mkF m 56 #[.val (.ref a1), .val (.int (0 : Int32)), .val (.int (4 : Int32)), .val (.ref b102), .val (.int (0 : Int32)), .val (.ref x112)] [(.ref x112)])) := fun t_ k_ => p118 t_ (by
   refine XS.icmpYes X117.here hx rfl (pc0 := 38) (pc' := 54) rfl (hb hby d5_38) rfl (tlt c119).2.2.1 (by decide) (by decide) ?_
   refine XS.aload X117.here hx rfl (hb hby d5_54) rfl rfl ?_
   exact k_)
  obtain ⟨fs, hr, hrun, hended, hW, hsame⟩ := X117.leave (v := some (.ref x112)) (fun h => by rw [Bd.returns] at h; cases h)
  refine ⟨_, _, p120 _ (retOut X117 hx (w := (.ref x112)) (i := .areturn) Bd.returns rfl (Or.inr (Or.inr (Or.inr (Or.inr ⟨rfl, rfl, rfl⟩)))) (hb hby d5_56) hr), hrun, hended, _, _, rfl, ?_, ⟨_, rfl⟩, hW, hsame.mono (by decide) (by decide)⟩
  show Q5_U4 Z a1 k1 c0 c1 c2 c3 cs1 fm h0 n0 _ T117.heap _
  rw [q117_hh]
  exact ⟨x112, x113, rfl, N117, K114, q111_g, (Nat.le_trans K107.1 q111_z), q111_V⟩
 ·skip
  by_cases m1 : (255 : Int32) < c1
  ·have f121 := (V1.ext E102)
   obtain ⟨_, _, ⟨T122, L122, k122, n122⟩, -, X122, ⟨Lc122, hQ122, l122, y122, z122⟩, st122⟩ := Jvm.LawKit.callS X102 hx (y := (⟨"java/lang/StringUTF16", "compress", "([CI[BII)I"⟩ : MethodName)) hown (mvT hZ (own_w hw 25 rfl)) (mvT hZ (own_w hw 26 rfl)) (mvT hZ (own_w hw 22 rfl)) (mvT hZ (own_w hw 27 rfl)) (by decide) (backOf (W := 0) (rm6_U4_1 l Z a0 hw [] a1 b102 k1 k102 c0 c1 c2 c3 h102 n0 (Nat.le_trans Z0 K103.1) f121 V102 ne_a1_b102 ge_b102 m0 m1) hZ (own_w hw 27 rfl) (own_w hw 22 rfl) (by decide) (by decide)) (g := (mkF m 9 #[.val (.ref a1), .val (.int (0 : Int32)), .val (.int (4 : Int32)), .val (.ref b102), .unset, .unset] [(.int (4 : Int32)), (.int (0 : Int32)), (.ref b102), (.int (0 : Int32)), (.ref a1)])) rfl (by rw [hml]; rfl) (argsL := [(.ref a1), (.int (0 : Int32)), (.ref b102), (.int (0 : Int32)), (.int (4 : Int32))]) (rest := []) (lenOf pd7 rfl) rfl (by show 2 * 0 + _ ≤ _; exact Nat.le_of_eq rfl) (hb hby d5_9) (fun _ _ => ⟨rfl, e102, (by decide : 1 + 0 ≤ _), (by decide : 4 + 0 ≤ _)⟩)
   dsimp only [Pt.U, Pt.locs, Pt.cells, Pt.slots] at X122 l122 y122 z122 st122 hQ122
   subst l122 y122 z122
   obtain ⟨rfl, N122q, q122_K, q122_V⟩ := hQ122
   have N122 := Fr.app N0 N122q
   have K123 : Keep h0 T122.heap [] := K103.trans q122_K (allS (Or.inr sz_b102) all0)
   have p124 : Go p.tables e below _ (T122.setTop (mkF m 23 #[.val (.ref a1), .val (.int (0 : Int32)), .val (.int (4 : Int32)), .val (.ref b102), .val (.int (1 : Int32)), .unset] [(.int (4 : Int32)), (.int (0 : Int32)), (.ref a1)])) := fun t_ k_ => (gc p104 st122) t_ (by
    refine XS.istore X122.here hx rfl (hb hby d5_12) rfl (l' := #[.val (.ref a1), .val (.int (0 : Int32)), .val (.int (4 : Int32)), .val (.ref b102), .val (.int (1 : Int32)), .unset]) rfl ?_
    refine XS.iload X122.here hx rfl (hb hby d5_14) rfl ?_
    refine XS.iloadN X122.here hx rfl (hb hby d5_16) rfl ?_
    refine XS.icmpNo X122.here hx rfl (hb hby d5_17) rfl (feq (by decide : ¬ ((1 : Int32) = (4 : Int32)))).1 ?_
    refine XS.aloadN X122.here hx rfl (hb hby d5_20) rfl rfl ?_
    refine XS.iloadN X122.here hx rfl (hb hby d5_21) rfl ?_
    refine XS.iloadN X122.here hx rfl (hb hby d5_22) rfl ?_
    exact k_)
   have f125 := (f121.keep q122_K (ninS ne_a1_b102 nin0))
   have f126 := ((O1.ext E102).keep q122_K (allS ge_b102 all0))
   obtain ⟨_, _, ⟨T127, L127, k127, n127⟩, -, X127, ⟨Lc127, hQ127, l127, y127, z127⟩, st127⟩ := Jvm.LawKit.callS X122 hx (y := (⟨"java/lang/StringUTF16", "toBytes", "([CII)[B"⟩ : MethodName)) hown (mvT hZ (own_w hw 103 rfl)) (mvT hZ (own_w hw 104 rfl)) (mvT hZ (own_w hw 22 rfl)) (mvT hZ (own_w hw 105 rfl)) (by decide) (backOf (W := 0) (rm21_U4 l Z a0 hw [] a1 k1 c0 c1 c2 c3 cs1 fm T122.heap n0 (Nat.le_trans Z0 K123.1) f126 G f125) hZ (own_w hw 105 rfl) (own_w hw 22 rfl) (by decide) (by decide)) (g := (mkF m 23 #[.val (.ref a1), .val (.int (0 : Int32)), .val (.int (4 : Int32)), .val (.ref b102), .val (.int (1 : Int32)), .unset] [(.int (4 : Int32)), (.int (0 : Int32)), (.ref a1)])) rfl (by rw [hml]; rfl) (argsL := [(.ref a1), (.int (0 : Int32)), (.int (4 : Int32))]) (rest := []) (lenOf pd8 rfl) rfl (by show 2 * 0 + _ ≤ _; exact Nat.le_of_eq rfl) (hb hby d5_23) (fun _ _ => ⟨rfl, rfl, (by decide : 1 + 1 ≤ _), (by decide : 4 + 8 ≤ _)⟩)
   dsimp only [Pt.U, Pt.locs, Pt.cells, Pt.slots] at X127 l127 y127 z127 st127 hQ127
   subst l127 y127 z127
   obtain ⟨x128, x129, rfl, N127q, q127_K, q127_g, q127_z, q127_V⟩ := hQ127
   have N127 := Fr.app N122 N127q
   have K130 : Keep h0 T127.heap [] := K123.trans q127_K all0
   have ne_a1_x128 : a1 ≠ x128 := Nat.ne_of_lt (Nat.lt_of_lt_of_le f125.lt q127_z)
   have ne_b102_x128 : b102 ≠ x128 := Nat.ne_of_lt (Nat.lt_of_lt_of_le q122_V.lt q127_z)
   have p131 : Go p.tables e below _ (T127.setTop (mkF m 32 #[.val (.ref a1), .val (.int (0 : Int32)), .val (.int (4 : Int32)), .val (.ref b102), .val (.int (1 : Int32)), .val (.ref x128)] [(.int (1 : Int32)), (.ref x128)])) := fun t_ k_ => (gc p124 st127) t_ (by
    refine XS.astore X127.here hx rfl (hb hby d5_26) rfl rfl (l' := #[.val (.ref a1), .val (.int (0 : Int32)), .val (.int (4 : Int32)), .val (.ref b102), .val (.int (1 : Int32)), .val (.ref x128)]) rfl ?_
    refine XS.aload X127.here hx rfl (hb hby d5_28) rfl rfl ?_
    refine XS.iload X127.here hx rfl (hb hby d5_30) rfl ?_
    exact k_)
   have f132 := (f126.keep q127_K all0)
   obtain ⟨_, _, ⟨T133, L133, k133, n133⟩, -, X133, ⟨Lc133, hQ133, l133, y133, z133⟩, st133⟩ := Jvm.LawKit.callS X127 hx (y := (⟨"java/lang/StringUTF16", "getChar", "([BI)C"⟩ : MethodName)) hown (mvT hZ (own_w hw 119 rfl)) (mvT hZ (own_w hw 120 rfl)) (mvT hZ (own_w hw 22 rfl)) (mvT hZ (own_w hw 121 rfl)) (by decide) (backOf (W := 0) (rm25 l Z a0 hw [] x128 (1 : Int32) x129 (8 : Int32) [(.int (own_x0 c0)), (.int (own_x8 c0)), (.int (own_x0 c1)), (.int (own_x8 c1)), (.int (own_x0 c2)), (.int (own_x8 c2)), (.int (own_x0 c3)), (.int (own_x8 c3))] (own_x0 c1) (own_x8 c1) c1 cs1 fm T127.heap n0 (Nat.le_trans Z0 K130.1) f132 G q127_V (by decide) (by decide) rfl rfl (own_l16 c1 a1_ b1_)) hZ (own_w hw 121 rfl) (own_w hw 22 rfl) (by decide) (by decide)) (g := (mkF m 32 #[.val (.ref a1), .val (.int (0 : Int32)), .val (.int (4 : Int32)), .val (.ref b102), .val (.int (1 : Int32)), .val (.ref x128)] [(.int (1 : Int32)), (.ref x128)])) rfl (by rw [hml]; rfl) (argsL := [(.ref x128), (.int (1 : Int32))]) (rest := []) (lenOf pd4 rfl) rfl (by show 2 * 0 + _ ≤ _; exact Nat.le_of_eq rfl) (hb hby d5_32) (fun _ _ => ⟨rfl, rfl, (by decide : 2 + 0 ≤ _), (by decide : 12 + 0 ≤ _)⟩)
   dsimp only [Pt.U, Pt.locs, Pt.cells, Pt.slots] at X133 l133 y133 z133 st133 hQ133
   subst l133 y133 z133
   obtain ⟨rfl, N133q, q133_hh⟩ := hQ133
   have N133 := Fr.app N127 N133q
   have p134 : Go p.tables e below _ (T133.setTop (mkF m 38 #[.val (.ref a1), .val (.int (0 : Int32)), .val (.int (4 : Int32)), .val (.ref b102), .val (.int (1 : Int32)), .val (.ref x128)] [(.int (255 : Int32)), (.int c1)])) := fun t_ k_ => (gc p131 st133) t_ (by
    refine XS.sipush X133.here hx rfl (hb hby d5_35) ?_
    exact k_)
   have c135 : ((255 : Int32) < c1) := m1
   have p136 : Go p.tables e below _ (T133.setTop (mkF m 56 #[.val (.ref a1), .val (.int (0 : Int32)), .val (.int (4 : Int32)), .val (.ref b102), .val (.int (1 : Int32)), .val (.ref x128)] [(.ref x128)])) := fun t_ k_ => p134 t_ (by
    refine XS.icmpYes X133.here hx rfl (pc0 := 38) (pc' := 54) rfl (hb hby d5_38) rfl (tlt c135).2.2.1 (by decide) (by decide) ?_
    refine XS.aload X133.here hx rfl (hb hby d5_54) rfl rfl ?_
    exact k_)
   obtain ⟨fs, hr, hrun, hended, hW, hsame⟩ := X133.leave (v := some (.ref x128)) (fun h => by rw [Bd.returns] at h; cases h)
   refine ⟨_, _, p136 _ (retOut X133 hx (w := (.ref x128)) (i := .areturn) Bd.returns rfl (Or.inr (Or.inr (Or.inr (Or.inr ⟨rfl, rfl, rfl⟩)))) (hb hby d5_56) hr), hrun, hended, _, _, rfl, ?_, ⟨_, rfl⟩, hW, hsame.mono (by decide) (by decide)⟩
   show Q5_U4 Z a1 k1 c0 c1 c2 c3 cs1 fm h0 n0 _ T133.heap _
   rw [q133_hh]
   exact ⟨x128, x129, rfl, N133, K130, q127_g, (Nat.le_trans K123.1 q127_z), q127_V⟩
  ·skip
   by_cases m2 : (255 : Int32) < c2
   ·have f137 := (V1.ext E102)
    obtain ⟨_, _, ⟨T138, L138, k138, n138⟩, -, X138, ⟨Lc138, hQ138, l138, y138, z138⟩, st138⟩ := Jvm.LawKit.callS X102 hx (y := (⟨"java/lang/StringUTF16", "compress", "([CI[BII)I"⟩ : MethodName)) hown (mvT hZ (own_w hw 25 rfl)) (mvT hZ (own_w hw 26 rfl)) (mvT hZ (own_w hw 22 rfl)) (mvT hZ (own_w hw 27 rfl)) (by decide) (backOf (W := 0) (rm6_U4_2 l Z a0 hw [] a1 b102 k1 k102 c0 c1 c2 c3 h102 n0 (Nat.le_trans Z0 K103.1) f137 V102 ne_a1_b102 ge_b102 m0 m1 m2) hZ (own_w hw 27 rfl) (own_w hw 22 rfl) (by decide) (by decide)) (g := (mkF m 9 #[.val (.ref a1), .val (.int (0 : Int32)), .val (.int (4 : Int32)), .val (.ref b102), .unset, .unset] [(.int (4 : Int32)), (.int (0 : Int32)), (.ref b102), (.int (0 : Int32)), (.ref a1)])) rfl (by rw [hml]; rfl) (argsL := [(.ref a1), (.int (0 : Int32)), (.ref b102), (.int (0 : Int32)), (.int (4 : Int32))]) (rest := []) (lenOf pd7 rfl) rfl (by show 2 * 0 + _ ≤ _; exact Nat.le_of_eq rfl) (hb hby d5_9) (fun _ _ => ⟨rfl, e102, (by decide : 1 + 0 ≤ _), (by decide : 4 + 0 ≤ _)⟩)
    dsimp only [Pt.U, Pt.locs, Pt.cells, Pt.slots] at X138 l138 y138 z138 st138 hQ138
    subst l138 y138 z138
    obtain ⟨rfl, N138q, q138_K, q138_V⟩ := hQ138
    have N138 := Fr.app N0 N138q
    have K139 : Keep h0 T138.heap [] := K103.trans q138_K (allS (Or.inr sz_b102) all0)
    have p140 : Go p.tables e below _ (T138.setTop (mkF m 23 #[.val (.ref a1), .val (.int (0 : Int32)), .val (.int (4 : Int32)), .val (.ref b102), .val (.int (2 : Int32)), .unset] [(.int (4 : Int32)), (.int (0 : Int32)), (.ref a1)])) := fun t_ k_ => (gc p104 st138) t_ (by
     refine XS.istore X138.here hx rfl (hb hby d5_12) rfl (l' := #[.val (.ref a1), .val (.int (0 : Int32)), .val (.int (4 : Int32)), .val (.ref b102), .val (.int (2 : Int32)), .unset]) rfl ?_
     refine XS.iload X138.here hx rfl (hb hby d5_14) rfl ?_
     refine XS.iloadN X138.here hx rfl (hb hby d5_16) rfl ?_
     refine XS.icmpNo X138.here hx rfl (hb hby d5_17) rfl (feq (by decide : ¬ ((2 : Int32) = (4 : Int32)))).1 ?_
     refine XS.aloadN X138.here hx rfl (hb hby d5_20) rfl rfl ?_
     refine XS.iloadN X138.here hx rfl (hb hby d5_21) rfl ?_
     refine XS.iloadN X138.here hx rfl (hb hby d5_22) rfl ?_
     exact k_)
    have f141 := (f137.keep q138_K (ninS ne_a1_b102 nin0))
    have f142 := ((O1.ext E102).keep q138_K (allS ge_b102 all0))
    obtain ⟨_, _, ⟨T143, L143, k143, n143⟩, -, X143, ⟨Lc143, hQ143, l143, y143, z143⟩, st143⟩ := Jvm.LawKit.callS X138 hx (y := (⟨"java/lang/StringUTF16", "toBytes", "([CII)[B"⟩ : MethodName)) hown (mvT hZ (own_w hw 103 rfl)) (mvT hZ (own_w hw 104 rfl)) (mvT hZ (own_w hw 22 rfl)) (mvT hZ (own_w hw 105 rfl)) (by decide) (backOf (W := 0) (rm21_U4 l Z a0 hw [] a1 k1 c0 c1 c2 c3 cs1 fm T138.heap n0 (Nat.le_trans Z0 K139.1) f142 G f141) hZ (own_w hw 105 rfl) (own_w hw 22 rfl) (by decide) (by decide)) (g := (mkF m 23 #[.val (.ref a1), .val (.int (0 : Int32)), .val (.int (4 : Int32)), .val (.ref b102), .val (.int (2 : Int32)), .unset] [(.int (4 : Int32)), (.int (0 : Int32)), (.ref a1)])) rfl (by rw [hml]; rfl) (argsL := [(.ref a1), (.int (0 : Int32)), (.int (4 : Int32))]) (rest := []) (lenOf pd8 rfl) rfl (by show 2 * 0 + _ ≤ _; exact Nat.le_of_eq rfl) (hb hby d5_23) (fun _ _ => ⟨rfl, rfl, (by decide : 1 + 1 ≤ _), (by decide : 4 + 8 ≤ _)⟩)
    dsimp only [Pt.U, Pt.locs, Pt.cells, Pt.slots] at X143 l143 y143 z143 st143 hQ143
    subst l143 y143 z143
    obtain ⟨x144, x145, rfl, N143q, q143_K, q143_g, q143_z, q143_V⟩ := hQ143
    have N143 := Fr.app N138 N143q
    have K146 : Keep h0 T143.heap [] := K139.trans q143_K all0
    have ne_a1_x144 : a1 ≠ x144 := Nat.ne_of_lt (Nat.lt_of_lt_of_le f141.lt q143_z)
    have ne_b102_x144 : b102 ≠ x144 := Nat.ne_of_lt (Nat.lt_of_lt_of_le q138_V.lt q143_z)
    have p147 : Go p.tables e below _ (T143.setTop (mkF m 32 #[.val (.ref a1), .val (.int (0 : Int32)), .val (.int (4 : Int32)), .val (.ref b102), .val (.int (2 : Int32)), .val (.ref x144)] [(.int (2 : Int32)), (.ref x144)])) := fun t_ k_ => (gc p140 st143) t_ (by
     refine XS.astore X143.here hx rfl (hb hby d5_26) rfl rfl (l' := #[.val (.ref a1), .val (.int (0 : Int32)), .val (.int (4 : Int32)), .val (.ref b102), .val (.int (2 : Int32)), .val (.ref x144)]) rfl ?_
     refine XS.aload X143.here hx rfl (hb hby d5_28) rfl rfl ?_
     refine XS.iload X143.here hx rfl (hb hby d5_30) rfl ?_
     exact k_)
    have f148 := (f142.keep q143_K all0)
    obtain ⟨_, _, ⟨T149, L149, k149, n149⟩, -, X149, ⟨Lc149, hQ149, l149, y149, z149⟩, st149⟩ := Jvm.LawKit.callS X143 hx (y := (⟨"java/lang/StringUTF16", "getChar", "([BI)C"⟩ : MethodName)) hown (mvT hZ (own_w hw 119 rfl)) (mvT hZ (own_w hw 120 rfl)) (mvT hZ (own_w hw 22 rfl)) (mvT hZ (own_w hw 121 rfl)) (by decide) (backOf (W := 0) (rm25 l Z a0 hw [] x144 (2 : Int32) x145 (8 : Int32) [(.int (own_x0 c0)), (.int (own_x8 c0)), (.int (own_x0 c1)), (.int (own_x8 c1)), (.int (own_x0 c2)), (.int (own_x8 c2)), (.int (own_x0 c3)), (.int (own_x8 c3))] (own_x0 c2) (own_x8 c2) c2 cs1 fm T143.heap n0 (Nat.le_trans Z0 K146.1) f148 G q143_V (by decide) (by decide) rfl rfl (own_l16 c2 a2_ b2_)) hZ (own_w hw 121 rfl) (own_w hw 22 rfl) (by decide) (by decide)) (g := (mkF m 32 #[.val (.ref a1), .val (.int (0 : Int32)), .val (.int (4 : Int32)), .val (.ref b102), .val (.int (2 : Int32)), .val (.ref x144)] [(.int (2 : Int32)), (.ref x144)])) rfl (by rw [hml]; rfl) (argsL := [(.ref x144), (.int (2 : Int32))]) (rest := []) (lenOf pd4 rfl) rfl (by show 2 * 0 + _ ≤ _; exact Nat.le_of_eq rfl) (hb hby d5_32) (fun _ _ => ⟨rfl, rfl, (by decide : 2 + 0 ≤ _), (by decide : 12 + 0 ≤ _)⟩)
    dsimp only [Pt.U, Pt.locs, Pt.cells, Pt.slots] at X149 l149 y149 z149 st149 hQ149
    subst l149 y149 z149
    obtain ⟨rfl, N149q, q149_hh⟩ := hQ149
    have N149 := Fr.app N143 N149q
    have p150 : Go p.tables e below _ (T149.setTop (mkF m 38 #[.val (.ref a1), .val (.int (0 : Int32)), .val (.int (4 : Int32)), .val (.ref b102), .val (.int (2 : Int32)), .val (.ref x144)] [(.int (255 : Int32)), (.int c2)])) := fun t_ k_ => (gc p147 st149) t_ (by
     refine XS.sipush X149.here hx rfl (hb hby d5_35) ?_
     exact k_)
    have c151 : ((255 : Int32) < c2) := m2
    have p152 : Go p.tables e below _ (T149.setTop (mkF m 56 #[.val (.ref a1), .val (.int (0 : Int32)), .val (.int (4 : Int32)), .val (.ref b102), .val (.int (2 : Int32)), .val (.ref x144)] [(.ref x144)])) := fun t_ k_ => p150 t_ (by
     refine XS.icmpYes X149.here hx rfl (pc0 := 38) (pc' := 54) rfl (hb hby d5_38) rfl (tlt c151).2.2.1 (by decide) (by decide) ?_
     refine XS.aload X149.here hx rfl (hb hby d5_54) rfl rfl ?_
     exact k_)
    obtain ⟨fs, hr, hrun, hended, hW, hsame⟩ := X149.leave (v := some (.ref x144)) (fun h => by rw [Bd.returns] at h; cases h)
    refine ⟨_, _, p152 _ (retOut X149 hx (w := (.ref x144)) (i := .areturn) Bd.returns rfl (Or.inr (Or.inr (Or.inr (Or.inr ⟨rfl, rfl, rfl⟩)))) (hb hby d5_56) hr), hrun, hended, _, _, rfl, ?_, ⟨_, rfl⟩, hW, hsame.mono (by decide) (by decide)⟩
    show Q5_U4 Z a1 k1 c0 c1 c2 c3 cs1 fm h0 n0 _ T149.heap _
    rw [q149_hh]
    exact ⟨x144, x145, rfl, N149, K146, q143_g, (Nat.le_trans K139.1 q143_z), q143_V⟩
   ·skip
    by_cases m3 : (255 : Int32) < c3
    ·have f153 := (V1.ext E102)
     obtain ⟨_, _, ⟨T154, L154, k154, n154⟩, -, X154, ⟨Lc154, hQ154, l154, y154, z154⟩, st154⟩ := Jvm.LawKit.callS X102 hx (y := (⟨"java/lang/StringUTF16", "compress", "([CI[BII)I"⟩ : MethodName)) hown (mvT hZ (own_w hw 25 rfl)) (mvT hZ (own_w hw 26 rfl)) (mvT hZ (own_w hw 22 rfl)) (mvT hZ (own_w hw 27 rfl)) (by decide) (backOf (W := 0) (rm6_U4_3 l Z a0 hw [] a1 b102 k1 k102 c0 c1 c2 c3 h102 n0 (Nat.le_trans Z0 K103.1) f153 V102 ne_a1_b102 ge_b102 m0 m1 m2 m3) hZ (own_w hw 27 rfl) (own_w hw 22 rfl) (by decide) (by decide)) (g := (mkF m 9 #[.val (.ref a1), .val (.int (0 : Int32)), .val (.int (4 : Int32)), .val (.ref b102), .unset, .unset] [(.int (4 : Int32)), (.int (0 : Int32)), (.ref b102), (.int (0 : Int32)), (.ref a1)])) rfl (by rw [hml]; rfl) (argsL := [(.ref a1), (.int (0 : Int32)), (.ref b102), (.int (0 : Int32)), (.int (4 : Int32))]) (rest := []) (lenOf pd7 rfl) rfl (by show 2 * 0 + _ ≤ _; exact Nat.le_of_eq rfl) (hb hby d5_9) (fun _ _ => ⟨rfl, e102, (by decide : 1 + 0 ≤ _), (by decide : 4 + 0 ≤ _)⟩)
     dsimp only [Pt.U, Pt.locs, Pt.cells, Pt.slots] at X154 l154 y154 z154 st154 hQ154
     subst l154 y154 z154
     obtain ⟨rfl, N154q, q154_K, q154_V⟩ := hQ154
     have N154 := Fr.app N0 N154q
     have K155 : Keep h0 T154.heap [] := K103.trans q154_K (allS (Or.inr sz_b102) all0)
     have p156 : Go p.tables e below _ (T154.setTop (mkF m 23 #[.val (.ref a1), .val (.int (0 : Int32)), .val (.int (4 : Int32)), .val (.ref b102), .val (.int (3 : Int32)), .unset] [(.int (4 : Int32)), (.int (0 : Int32)), (.ref a1)])) := fun t_ k_ => (gc p104 st154) t_ (by
      refine XS.istore X154.here hx rfl (hb hby d5_12) rfl (l' := #[.val (.ref a1), .val (.int (0 : Int32)), .val (.int (4 : Int32)), .val (.ref b102), .val (.int (3 : Int32)), .unset]) rfl ?_
      refine XS.iload X154.here hx rfl (hb hby d5_14) rfl ?_
      refine XS.iloadN X154.here hx rfl (hb hby d5_16) rfl ?_
      refine XS.icmpNo X154.here hx rfl (hb hby d5_17) rfl (feq (by decide : ¬ ((3 : Int32) = (4 : Int32)))).1 ?_
      refine XS.aloadN X154.here hx rfl (hb hby d5_20) rfl rfl ?_
      refine XS.iloadN X154.here hx rfl (hb hby d5_21) rfl ?_
      refine XS.iloadN X154.here hx rfl (hb hby d5_22) rfl ?_
      exact k_)
     have f157 := (f153.keep q154_K (ninS ne_a1_b102 nin0))
     have f158 := ((O1.ext E102).keep q154_K (allS ge_b102 all0))
     obtain ⟨_, _, ⟨T159, L159, k159, n159⟩, -, X159, ⟨Lc159, hQ159, l159, y159, z159⟩, st159⟩ := Jvm.LawKit.callS X154 hx (y := (⟨"java/lang/StringUTF16", "toBytes", "([CII)[B"⟩ : MethodName)) hown (mvT hZ (own_w hw 103 rfl)) (mvT hZ (own_w hw 104 rfl)) (mvT hZ (own_w hw 22 rfl)) (mvT hZ (own_w hw 105 rfl)) (by decide) (backOf (W := 0) (rm21_U4 l Z a0 hw [] a1 k1 c0 c1 c2 c3 cs1 fm T154.heap n0 (Nat.le_trans Z0 K155.1) f158 G f157) hZ (own_w hw 105 rfl) (own_w hw 22 rfl) (by decide) (by decide)) (g := (mkF m 23 #[.val (.ref a1), .val (.int (0 : Int32)), .val (.int (4 : Int32)), .val (.ref b102), .val (.int (3 : Int32)), .unset] [(.int (4 : Int32)), (.int (0 : Int32)), (.ref a1)])) rfl (by rw [hml]; rfl) (argsL := [(.ref a1), (.int (0 : Int32)), (.int (4 : Int32))]) (rest := []) (lenOf pd8 rfl) rfl (by show 2 * 0 + _ ≤ _; exact Nat.le_of_eq rfl) (hb hby d5_23) (fun _ _ => ⟨rfl, rfl, (by decide : 1 + 1 ≤ _), (by decide : 4 + 8 ≤ _)⟩)
     dsimp only [Pt.U, Pt.locs, Pt.cells, Pt.slots] at X159 l159 y159 z159 st159 hQ159
     subst l159 y159 z159
     obtain ⟨x160, x161, rfl, N159q, q159_K, q159_g, q159_z, q159_V⟩ := hQ159
     have N159 := Fr.app N154 N159q
     have K162 : Keep h0 T159.heap [] := K155.trans q159_K all0
     have ne_a1_x160 : a1 ≠ x160 := Nat.ne_of_lt (Nat.lt_of_lt_of_le f157.lt q159_z)
     have ne_b102_x160 : b102 ≠ x160 := Nat.ne_of_lt (Nat.lt_of_lt_of_le q154_V.lt q159_z)
     have p163 : Go p.tables e below _ (T159.setTop (mkF m 32 #[.val (.ref a1), .val (.int (0 : Int32)), .val (.int (4 : Int32)), .val (.ref b102), .val (.int (3 : Int32)), .val (.ref x160)] [(.int (3 : Int32)), (.ref x160)])) := fun t_ k_ => (gc p156 st159) t_ (by
      refine XS.astore X159.here hx rfl (hb hby d5_26) rfl rfl (l' := #[.val (.ref a1), .val (.int (0 : Int32)), .val (.int (4 : Int32)), .val (.ref b102), .val (.int (3 : Int32)), .val (.ref x160)]) rfl ?_
      refine XS.aload X159.here hx rfl (hb hby d5_28) rfl rfl ?_
      refine XS.iload X159.here hx rfl (hb hby d5_30) rfl ?_
      exact k_)
     have f164 := (f158.keep q159_K all0)
     obtain ⟨_, _, ⟨T165, L165, k165, n165⟩, -, X165, ⟨Lc165, hQ165, l165, y165, z165⟩, st165⟩ := Jvm.LawKit.callS X159 hx (y := (⟨"java/lang/StringUTF16", "getChar", "([BI)C"⟩ : MethodName)) hown (mvT hZ (own_w hw 119 rfl)) (mvT hZ (own_w hw 120 rfl)) (mvT hZ (own_w hw 22 rfl)) (mvT hZ (own_w hw 121 rfl)) (by decide) (backOf (W := 0) (rm25 l Z a0 hw [] x160 (3 : Int32) x161 (8 : Int32) [(.int (own_x0 c0)), (.int (own_x8 c0)), (.int (own_x0 c1)), (.int (own_x8 c1)), (.int (own_x0 c2)), (.int (own_x8 c2)), (.int (own_x0 c3)), (.int (own_x8 c3))] (own_x0 c3) (own_x8 c3) c3 cs1 fm T159.heap n0 (Nat.le_trans Z0 K162.1) f164 G q159_V (by decide) (by decide) rfl rfl (own_l16 c3 a3_ b3_)) hZ (own_w hw 121 rfl) (own_w hw 22 rfl) (by decide) (by decide)) (g := (mkF m 32 #[.val (.ref a1), .val (.int (0 : Int32)), .val (.int (4 : Int32)), .val (.ref b102), .val (.int (3 : Int32)), .val (.ref x160)] [(.int (3 : Int32)), (.ref x160)])) rfl (by rw [hml]; rfl) (argsL := [(.ref x160), (.int (3 : Int32))]) (rest := []) (lenOf pd4 rfl) rfl (by show 2 * 0 + _ ≤ _; exact Nat.le_of_eq rfl) (hb hby d5_32) (fun _ _ => ⟨rfl, rfl, (by decide : 2 + 0 ≤ _), (by decide : 12 + 0 ≤ _)⟩)
     dsimp only [Pt.U, Pt.locs, Pt.cells, Pt.slots] at X165 l165 y165 z165 st165 hQ165
     subst l165 y165 z165
     obtain ⟨rfl, N165q, q165_hh⟩ := hQ165
     have N165 := Fr.app N159 N165q
     have p166 : Go p.tables e below _ (T165.setTop (mkF m 38 #[.val (.ref a1), .val (.int (0 : Int32)), .val (.int (4 : Int32)), .val (.ref b102), .val (.int (3 : Int32)), .val (.ref x160)] [(.int (255 : Int32)), (.int c3)])) := fun t_ k_ => (gc p163 st165) t_ (by
      refine XS.sipush X165.here hx rfl (hb hby d5_35) ?_
      exact k_)
     have c167 : ((255 : Int32) < c3) := m3
     have p168 : Go p.tables e below _ (T165.setTop (mkF m 56 #[.val (.ref a1), .val (.int (0 : Int32)), .val (.int (4 : Int32)), .val (.ref b102), .val (.int (3 : Int32)), .val (.ref x160)] [(.ref x160)])) := fun t_ k_ => p166 t_ (by
      refine XS.icmpYes X165.here hx rfl (pc0 := 38) (pc' := 54) rfl (hb hby d5_38) rfl (tlt c167).2.2.1 (by decide) (by decide) ?_
      refine XS.aload X165.here hx rfl (hb hby d5_54) rfl rfl ?_
      exact k_)
     obtain ⟨fs, hr, hrun, hended, hW, hsame⟩ := X165.leave (v := some (.ref x160)) (fun h => by rw [Bd.returns] at h; cases h)
     refine ⟨_, _, p168 _ (retOut X165 hx (w := (.ref x160)) (i := .areturn) Bd.returns rfl (Or.inr (Or.inr (Or.inr (Or.inr ⟨rfl, rfl, rfl⟩)))) (hb hby d5_56) hr), hrun, hended, _, _, rfl, ?_, ⟨_, rfl⟩, hW, hsame.mono (by decide) (by decide)⟩
     show Q5_U4 Z a1 k1 c0 c1 c2 c3 cs1 fm h0 n0 _ T165.heap _
     rw [q165_hh]
     exact ⟨x160, x161, rfl, N165, K162, q159_g, (Nat.le_trans K155.1 q159_z), q159_V⟩
    ·exact absurd big (by simp [m0, m1, m2, m3])
theorem ef_rm7_U4 (m : MethodId) (a1 : Addr) (k1 : ClassId) (vs : List Value) : entryFrame m #[(.ref a1), (.int (4 : Int32))] 2 = mkF m 0 #[.val (.ref a1), .val (.int (4 : Int32))] [] := by first | (simp [entryFrame, mkF, argsToLocals, Value.category]; done) | rfl
def Q7_U4 (Z : State) (a1 : Addr) (k1 : ClassId) (vs : List Value) (h0 : Heap) (n0 : Nat) (v : Option Value) (h : Heap) (L : List Loc) : Prop := v = some (.int (1 : Int32)) ∧ Fr n0 L ∧ (h = h0)
set_option maxRecDepth 65536 in
set_option maxHeartbeats 40000000 in
theorem rm7_U4 (l : Launch) (Z : State) (a0 : Array Value) (hw : ∀ d ∈ tables_1, d.before a0 Z = true) (ws : List Jvm.Cond) (a1 : Addr) (k1 : ClassId) (vs : List Value) (h0 : Heap) (n0 : Nat) (Z0 : n0 ≤ h0.size) (V1 : Arv Z h0 a1 k1 .byte (8 : Int32) vs (.int (0 : Int32))) :
  MetFree l (⟨"java/lang/StringUTF16", "coderFromArrayLen", "([BI)B"⟩ : MethodName) (head1 (Jvm.Cond.code (⟨"java/lang/StringUTF16", "coderFromArrayLen", "([BI)B"⟩ : MethodName) jdk_52_method_15_code 2 (some .byte) :: ws) ({ frames := 0, cells := 0, slots := 0, locals := 0 } : Room)) (fun a U => a = #[(.ref a1), (.int (4 : Int32))] ∧ Z.Warmed39 U.vm ∧ U.heap = h0) (fun _ _ _ _ _ => True) (fun _ U o U' => ∃ v L, o = .returned v ∧ Q7_U4 Z a1 k1 vs h0 n0 v U'.heap L ∧ FrameEnd U o U' L ({ frames := 0, cells := 0, slots := 0, locals := 0 } : Room).cells ({ frames := 0, cells := 0, slots := 0, locals := 0 } : Room).slots) := by
 refine MetFree.of_bodySF pn7 hisR ?_
 intro p e s m args below meth c s₁ Bd hml0 hP hK
 obtain ⟨rfl, hZ, hh⟩ := hP
 have hx := Bd.exec
 have hby := Bd.bytes
 have hml : c.maxLocals = 2 := hml0
 have hown : s.vm.findClass "java/lang/StringUTF16" = some m.cls := findClass_of_methodNamed Bd.named
 have hnm := (name_of_methodNamed Bd.named Bd.method).1
 have X0 : Stand p l e ({ frames := 0, cells := 0, slots := 0, locals := 0 } : Room) s m #[(.ref a1), (.int (4 : Int32))] below meth c s₁ [] 0 0 := Stand.of_body Bd
 have e0 : s₁.heap = h0 := by rw [← hh, Bd.state]; rfl
 have N0 := Fr.nil n0
 have p0 : Go p.tables e below (s₁.setTop (entryFrame m #[(.ref a1), (.int (4 : Int32))] 2)) (s₁.setTop (mkF m 0 #[.val (.ref a1), .val (.int (4 : Int32))] [])) := fun t_ k_ => castTop (ef_rm7_U4 m a1 k1 vs) k_
 have p101 : Go p.tables e below _ (s₁.setTop (mkF m 2 #[.val (.ref a1), .val (.int (4 : Int32))] [(.ref a1), (.int (4 : Int32))])) := fun t_ k_ => p0 t_ (by
  refine XS.iloadN X0.here hx rfl (hb hby d7_0) rfl ?_
  refine XS.aloadN X0.here hx rfl (hb hby d7_1) rfl rfl ?_
  exact k_)
 obtain ⟨cl102, Ar102, -, S102, Ng102, -, -⟩ := id V1
 have p103 : Go p.tables e below _ (s₁.setTop (mkF m 8 #[.val (.ref a1), .val (.int (4 : Int32))] [(.int (1 : Int32))])) := fun t_ k_ => p101 t_ (by
  refine X0.arraylength hx (by rw [e0]; exact Ar102.1) (State.isArrayOf_alike hZ.alike Ar102.2.1) (g := (mkF m 2 #[.val (.ref a1), .val (.int (4 : Int32))] [(.ref a1), (.int (4 : Int32))])) rfl rfl (hb hby d7_2) _ ?_
  rw [len_of S102 Ng102]
  show Steps p.tables e below (s₁.setTop (mkF m 3 #[.val (.ref a1), .val (.int (4 : Int32))] [(.int (8 : Int32)), (.int (4 : Int32))])) _
  refine XS.isub X0.here hx rfl (hb hby d7_3) rfl ?_
  refine XS.bipush X0.here hx rfl (hb hby d7_4) ?_
  refine XS.iushr X0.here hx rfl (hb hby d7_6) rfl ?_
  refine XS.i2b X0.here hx rfl (hb hby d7_7) rfl ?_
  exact k_)
 obtain ⟨fs, hr, hrun, hended, hW, hsame⟩ := X0.leave (v := some (.int (1 : Int32))) (fun h => by rw [Bd.returns] at h; cases h)
 refine ⟨_, _, p103 _ (retN X0 hx (t := .byte) Bd.returns (by simp) (hb hby d7_8) hr), hrun, hended, _, _, rfl, ?_, ⟨_, rfl⟩, hW, hsame.mono (by decide) (by decide)⟩
 show Q7_U4 Z a1 k1 vs h0 n0 _ s₁.heap _
 rw [e0]
 exact ⟨rfl, N0, rfl⟩
theorem ef_rm3_U4 (m : MethodId) (a1 : Addr) (a2 : Addr) (k1 : ClassId) (c0 : Int32) (c1 : Int32) (c2 : Int32) (c3 : Int32) (cs1 : Int32) (fm : Value) : entryFrame m #[(.ref a1), (.ref a2), (.int (0 : Int32)), (.int (4 : Int32)), .null] 6 = mkF m 0 #[.val (.ref a1), .val (.ref a2), .val (.int (0 : Int32)), .val (.int (4 : Int32)), .val .null, .unset] [] := by first | (simp [entryFrame, mkF, argsToLocals, Value.category]; done) | rfl
def Q3_U4 (Z : State) (a1 : Addr) (a2 : Addr) (k1 : ClassId) (c0 : Int32) (c1 : Int32) (c2 : Int32) (c3 : Int32) (cs1 : Int32) (fm : Value) (h0 : Heap) (n0 : Nat) (v : Option Value) (h : Heap) (L : List Loc) : Prop := ∃ (b : Addr) (kb : ClassId), v = none ∧ Fr n0 L ∧ (Keep h0 h [a1]) ∧ (Exa Z h a1 "java/lang/String") ∧ (Fld Z h a1 "java/lang/String" "coder" "B" (.int (1 : Int32))) ∧ (Fld Z h a1 "java/lang/String" "value" "[B" (.ref b)) ∧ (n0 ≤ b) ∧ (h0.size ≤ b) ∧ (Arv Z h b kb .byte (8 : Int32) [(.int (own_x0 c0)), (.int (own_x8 c0)), (.int (own_x0 c1)), (.int (own_x8 c1)), (.int (own_x0 c2)), (.int (own_x8 c2)), (.int (own_x0 c3)), (.int (own_x8 c3))] (.int (0 : Int32))) ∧ (a1 ≠ b)
set_option maxRecDepth 65536 in
set_option maxHeartbeats 40000000 in
theorem rm3_U4 (l : Launch) (Z : State) (a0 : Array Value) (hw : ∀ d ∈ tables_1, d.before a0 Z = true) (ws : List Jvm.Cond) (a1 : Addr) (a2 : Addr) (k1 : ClassId) (c0 : Int32) (c1 : Int32) (c2 : Int32) (c3 : Int32) (cs1 : Int32) (fm : Value) (h0 : Heap) (n0 : Nat) (Z0 : n0 ≤ h0.size) (O1 : Old Z n0 h0) (G : own_G Z cs1 fm) (F1 : Fld Z h0 a1 "java/lang/String" "coder" "B" (.int (0 : Int32))) (F2 : Fld Z h0 a1 "java/lang/String" "value" "[B" .null) (E1 : Exa Z h0 a1 "java/lang/String") (V1 : Arv Z h0 a2 k1 .char (4 : Int32) [(.int c0), (.int c1), (.int c2), (.int c3)] (.int (0 : Int32))) (ne : a1 ≠ a2) (g1 : n0 ≤ a1) (a0_ : ¬ (c0 < (0 : Int32))) (b0_ : ¬ ((65535 : Int32) < c0)) (a1_ : ¬ (c1 < (0 : Int32))) (b1_ : ¬ ((65535 : Int32) < c1)) (a2_ : ¬ (c2 < (0 : Int32))) (b2_ : ¬ ((65535 : Int32) < c2)) (a3_ : ¬ (c3 < (0 : Int32))) (b3_ : ¬ ((65535 : Int32) < c3)) (big : ((255 : Int32) < c0) ∨ ((255 : Int32) < c1) ∨ ((255 : Int32) < c2) ∨ ((255 : Int32) < c3)) :
  MetFree l (⟨"java/lang/String", "<init>", "([CIILjava/lang/Void;)V"⟩ : MethodName) (head1 (Jvm.Cond.code (⟨"java/lang/String", "<init>", "([CIILjava/lang/Void;)V"⟩ : MethodName) jdk_42_method_149_code 6 none :: ws) ({ frames := 4, cells := 2, slots := 12, locals := 57 } : Room)) (fun a U => a = #[(.ref a1), (.ref a2), (.int (0 : Int32)), (.int (4 : Int32)), .null] ∧ Z.Warmed39 U.vm ∧ U.heap = h0) (fun _ _ _ _ _ => True) (fun _ U o U' => ∃ v L, o = .returned v ∧ Q3_U4 Z a1 a2 k1 c0 c1 c2 c3 cs1 fm h0 n0 v U'.heap L ∧ FrameEnd U o U' L ({ frames := 4, cells := 2, slots := 12, locals := 57 } : Room).cells ({ frames := 4, cells := 2, slots := 12, locals := 57 } : Room).slots) := by
 refine MetFree.of_bodySF pn3 hisR ?_
 intro p e s m args below meth c s₁ Bd hml0 hP hK
 obtain ⟨rfl, hZ, hh⟩ := hP
 have hx := Bd.exec
 have hby := Bd.bytes
 have hml : c.maxLocals = 6 := hml0
 have hown : s.vm.findClass "java/lang/String" = some m.cls := findClass_of_methodNamed Bd.named
 have hnm := (name_of_methodNamed Bd.named Bd.method).1
 have X0 : Stand p l e ({ frames := 4, cells := 2, slots := 12, locals := 57 } : Room) s m #[(.ref a1), (.ref a2), (.int (0 : Int32)), (.int (4 : Int32)), .null] below meth c s₁ [] 0 0 := Stand.of_body Bd
 have e0 : s₁.heap = h0 := by rw [← hh, Bd.state]; rfl
 have N0 := Fr.nil n0
 have p0 : Go p.tables e below (s₁.setTop (entryFrame m #[(.ref a1), (.ref a2), (.int (0 : Int32)), (.int (4 : Int32)), .null] 6)) (s₁.setTop (mkF m 0 #[.val (.ref a1), .val (.ref a2), .val (.int (0 : Int32)), .val (.int (4 : Int32)), .val .null, .unset] [])) := fun t_ k_ => castTop (ef_rm3_U4 m a1 a2 k1 c0 c1 c2 c3 cs1 fm) k_
 have p101 : Go p.tables e below _ (s₁.setTop (mkF m 1 #[.val (.ref a1), .val (.ref a2), .val (.int (0 : Int32)), .val (.int (4 : Int32)), .val .null, .unset] [(.ref a1)])) := fun t_ k_ => p0 t_ (by
  refine XS.aloadN X0.here hx rfl (hb hby d3_0) rfl rfl ?_
  exact k_)
 obtain ⟨T102, X102, e102, st102⟩ := initO X0 hx hZ hown (own_w hw 16 rfl) (own_w hw 17 rfl) (own_w hw 18 rfl) e0 (g := (mkF m 1 #[.val (.ref a1), .val (.ref a2), .val (.int (0 : Int32)), .val (.int (4 : Int32)), .val .null, .unset] [(.ref a1)])) rfl (by rw [hml]; rfl) rfl (hb hby d3_1) (by decide) (W := 0) (by show 2 * 0 + _ ≤ _; exact Nat.le_of_eq rfl) (by decide)
 have p103 : Go p.tables e below _ (T102.setTop (mkF m 27 #[.val (.ref a1), .val (.ref a2), .val (.int (0 : Int32)), .val (.int (4 : Int32)), .val .null, .unset] [])) := fun t_ k_ => (gc p101 st102) t_ (by
  refine XS.iloadN X102.here hx rfl (hb hby d3_4) rfl ?_
  refine XS.ifYes X102.here hx rfl (pc0 := 5) (pc' := 27) rfl (hb hby d3_5) rfl ((if0 _ _).trans (feq (by decide : ¬ ((4 : Int32) = (0 : Int32)))).2) (by decide) (by decide) ?_
  exact k_)
 obtain ⟨T104, X104, e104, st104⟩ := getS2 X102 hx hZ hown (host := "") (Or.inl (own_w hw 19 rfl)) Via.refl e102 (G.1.ext O1.2) (g := (mkF m 27 #[.val (.ref a1), .val (.ref a2), .val (.int (0 : Int32)), .val (.int (4 : Int32)), .val .null, .unset] [])) rfl (hb hby d3_27)
 have c105 : ¬ (cs1 = (0 : Int32)) := G.2.1
 have p106 : Go p.tables e below _ (T104.setTop (mkF m 36 #[.val (.ref a1), .val (.ref a2), .val (.int (0 : Int32)), .val (.int (4 : Int32)), .val .null, .unset] [(.int (4 : Int32)), (.int (0 : Int32)), (.ref a2)])) := fun t_ k_ => (gc p103 st104) t_ (by
  refine XS.ifNo X104.here hx rfl (hb hby d3_30) rfl ((if0 _ _).trans (feq c105).1) ?_
  refine XS.aloadN X104.here hx rfl (hb hby d3_33) rfl rfl ?_
  refine XS.iloadN X104.here hx rfl (hb hby d3_34) rfl ?_
  refine XS.iloadN X104.here hx rfl (hb hby d3_35) rfl ?_
  exact k_)
 obtain ⟨_, _, ⟨T107, L107, k107, n107⟩, -, X107, ⟨Lc107, hQ107, l107, y107, z107⟩, st107⟩ := Jvm.LawKit.callS X104 hx (y := (⟨"java/lang/StringUTF16", "compress", "([CII)[B"⟩ : MethodName)) hown (mvT hZ (own_w hw 20 rfl)) (mvT hZ (own_w hw 21 rfl)) (mvT hZ (own_w hw 22 rfl)) (mvT hZ (own_w hw 23 rfl)) (by decide) (backOf (W := 0) (rm5_U4 l Z a0 hw [] a2 k1 c0 c1 c2 c3 cs1 fm h0 n0 (Nat.le_trans Z0 (Keep.refl h0 [a1]).1) O1 G V1 a0_ b0_ a1_ b1_ a2_ b2_ a3_ b3_ big) hZ (own_w hw 23 rfl) (own_w hw 22 rfl) (by decide) (by decide)) (g := (mkF m 36 #[.val (.ref a1), .val (.ref a2), .val (.int (0 : Int32)), .val (.int (4 : Int32)), .val .null, .unset] [(.int (4 : Int32)), (.int (0 : Int32)), (.ref a2)])) rfl (by rw [hml]; rfl) (argsL := [(.ref a2), (.int (0 : Int32)), (.int (4 : Int32))]) (rest := []) (lenOf pd8 rfl) rfl (by show 2 * 0 + _ ≤ _; exact Nat.le_of_eq rfl) (hb hby d3_36) (fun _ _ => ⟨rfl, e104, (by decide : 0 + 2 ≤ _), (by decide : 0 + 12 ≤ _)⟩)
 dsimp only [Pt.U, Pt.locs, Pt.cells, Pt.slots] at X107 l107 y107 z107 st107 hQ107
 subst l107 y107 z107
 obtain ⟨x108, x109, rfl, N107q, q107_K, q107_g, q107_z, q107_V⟩ := hQ107
 have N107 := Fr.app N0 N107q
 have K110 : Keep h0 T107.heap [a1] := (Keep.refl h0 [a1]).trans q107_K all0
 have ne_a1_x108 : a1 ≠ x108 := Nat.ne_of_lt (Nat.lt_of_lt_of_le E1.lt q107_z)
 have ne_a2_x108 : a2 ≠ x108 := Nat.ne_of_lt (Nat.lt_of_lt_of_le V1.lt q107_z)
 have p111 : Go p.tables e below _ (T107.setTop (mkF m 45 #[.val (.ref a1), .val (.ref a2), .val (.int (0 : Int32)), .val (.int (4 : Int32)), .val .null, .val (.ref x108)] [(.int (4 : Int32)), (.ref x108), (.ref a1)])) := fun t_ k_ => (gc p106 st107) t_ (by
  refine XS.astore X107.here hx rfl (hb hby d3_39) rfl rfl (l' := #[.val (.ref a1), .val (.ref a2), .val (.int (0 : Int32)), .val (.int (4 : Int32)), .val .null, .val (.ref x108)]) rfl ?_
  refine XS.aloadN X107.here hx rfl (hb hby d3_41) rfl rfl ?_
  refine XS.aload X107.here hx rfl (hb hby d3_42) rfl rfl ?_
  refine XS.iloadN X107.here hx rfl (hb hby d3_44) rfl ?_
  exact k_)
 obtain ⟨_, _, ⟨T112, L112, k112, n112⟩, -, X112, ⟨Lc112, hQ112, l112, y112, z112⟩, st112⟩ := Jvm.LawKit.callS X107 hx (y := (⟨"java/lang/StringUTF16", "coderFromArrayLen", "([BI)B"⟩ : MethodName)) hown (mvT hZ (own_w hw 28 rfl)) (mvT hZ (own_w hw 29 rfl)) (mvT hZ (own_w hw 22 rfl)) (mvT hZ (own_w hw 30 rfl)) (by decide) (backOf (W := 1) (rm7_U4 l Z a0 hw [] x108 x109 [(.int (own_x0 c0)), (.int (own_x8 c0)), (.int (own_x0 c1)), (.int (own_x8 c1)), (.int (own_x0 c2)), (.int (own_x8 c2)), (.int (own_x0 c3)), (.int (own_x8 c3))] T107.heap n0 (Nat.le_trans Z0 K110.1) q107_V) hZ (own_w hw 30 rfl) (own_w hw 22 rfl) (by decide) (by decide)) (g := (mkF m 45 #[.val (.ref a1), .val (.ref a2), .val (.int (0 : Int32)), .val (.int (4 : Int32)), .val .null, .val (.ref x108)] [(.int (4 : Int32)), (.ref x108), (.ref a1)])) rfl (by rw [hml]; rfl) (argsL := [(.ref x108), (.int (4 : Int32))]) (rest := [(.ref a1)]) (lenOf pd9 rfl) rfl (by show 2 * 0 + _ ≤ _; exact Nat.le_of_eq rfl) (hb hby d3_45) (fun _ _ => ⟨rfl, rfl, (by decide : 2 + 0 ≤ _), (by decide : 12 + 0 ≤ _)⟩)
 dsimp only [Pt.U, Pt.locs, Pt.cells, Pt.slots] at X112 l112 y112 z112 st112 hQ112
 subst l112 y112 z112
 obtain ⟨rfl, N112q, q112_hh⟩ := hQ112
 have N112 := Fr.app N107 N112q
 have f113 := (F1.keep q107_K nin0)
 have f114 := (E1.keep q107_K)
 obtain ⟨T115, h115, X115, e115, W115, st115⟩ := putFN X112 hx hZ hown (own_w hw 31 rfl) Via.refl q112_hh f113 f114 (Or.inr ⟨(own_w hw 32 rfl), rfl, hnm⟩) (own_w hw 7 rfl) (ty := .byte) (v' := (.int (1 : Int32))) (by decide) rfl (by decide) (g := (mkF m 48 #[.val (.ref a1), .val (.ref a2), .val (.int (0 : Int32)), .val (.int (4 : Int32)), .val .null, .val (.ref x108)] [(.int (1 : Int32)), (.ref a1)])) rfl rfl (hb hby d3_48)
 have K116 : Keep h0 h115 [a1] := K110.wr W115 (Or.inl (List.mem_of_getElem? (i := 0) rfl))
 have N115 := Fr.snoc X115 N112 g1
 have F115 : Fld Z h115 a1 "java/lang/String" "coder" "B" (.int (1 : Int32)) := f113.same W115
 have p117 : Go p.tables e below _ (T115.setTop (mkF m 54 #[.val (.ref a1), .val (.ref a2), .val (.int (0 : Int32)), .val (.int (4 : Int32)), .val .null, .val (.ref x108)] [(.ref x108), (.ref a1)])) := fun t_ k_ => (gc (gc p111 st112) st115) t_ (by
  refine XS.aloadN X115.here hx rfl (hb hby d3_51) rfl rfl ?_
  refine XS.aload X115.here hx rfl (hb hby d3_52) rfl rfl ?_
  exact k_)
 have f118 := ((F2.keep q107_K nin0).other W115 (Or.inr (slot_ne (Or.inr (own_w hw 34 rfl)) (Or.inr (own_w hw 32 rfl)) (by decide) (t := (.array .byte)) (t' := .byte) (by decide) (by decide))))
 have f119 := (f114.wr W115)
 obtain ⟨T120, h120, X120, e120, W120, st120⟩ := putF X115 hx hZ hown (host := "") (Or.inl (own_w hw 33 rfl)) Via.refl e115 f118 f119 (Or.inr ⟨(own_w hw 34 rfl), rfl, hnm⟩) (own_w hw 7 rfl) (ty := (.array .byte)) (by decide) rfl rfl (g := (mkF m 54 #[.val (.ref a1), .val (.ref a2), .val (.int (0 : Int32)), .val (.int (4 : Int32)), .val .null, .val (.ref x108)] [(.ref x108), (.ref a1)])) rfl rfl (hb hby d3_54)
 have K121 : Keep h0 h120 [a1] := K116.wr W120 (Or.inl (List.mem_of_getElem? (i := 0) rfl))
 have N120 := Fr.snoc X120 N115 g1
 have F120 : Fld Z h120 a1 "java/lang/String" "value" "[B" (.ref x108) := f118.same W120
 have f122 := (f119.wr W120)
 have f123 := (F115.other W120 (Or.inr (slot_ne (Or.inr (own_w hw 32 rfl)) (Or.inr (own_w hw 34 rfl)) (by decide) (t := .byte) (t' := (.array .byte)) (by decide) (by decide))))
 have f124 := ((q107_V.other W115 (Ne.symm ne_a1_x108)).other W120 (Ne.symm ne_a1_x108))
 obtain ⟨fs, hr, hrun, hended, hW, hsame⟩ := X120.leave (v := none) (fun _ => rfl)
 refine ⟨_, _, (gc p117 st120) _ (X120.returnOut hx Bd.returns (hb hby d3_57) hr), hrun, hended, _, _, rfl, ?_, ⟨_, rfl⟩, hW, hsame.mono (by decide) (by decide)⟩
 show Q3_U4 Z a1 a2 k1 c0 c1 c2 c3 cs1 fm h0 n0 _ T120.heap _
 rw [e120]
 exact ⟨x108, x109, rfl, N120, K121, f122, f123, F120, q107_g, (Nat.le_trans (Keep.refl h0 [a1]).1 q107_z), f124, ne_a1_x108⟩
theorem ef_rm2_U4 (m : MethodId) (a1 : Addr) (a2 : Addr) (k1 : ClassId) (c0 : Int32) (c1 : Int32) (c2 : Int32) (c3 : Int32) (cs1 : Int32) (fm : Value) : entryFrame m #[(.ref a1), (.ref a2)] 2 = mkF m 0 #[.val (.ref a1), .val (.ref a2)] [] := by first | (simp [entryFrame, mkF, argsToLocals, Value.category]; done) | rfl
def Q2_U4 (Z : State) (a1 : Addr) (a2 : Addr) (k1 : ClassId) (c0 : Int32) (c1 : Int32) (c2 : Int32) (c3 : Int32) (cs1 : Int32) (fm : Value) (h0 : Heap) (n0 : Nat) (v : Option Value) (h : Heap) (L : List Loc) : Prop := ∃ (b : Addr) (kb : ClassId), v = none ∧ Fr n0 L ∧ (Keep h0 h [a1]) ∧ (Exa Z h a1 "java/lang/String") ∧ (Fld Z h a1 "java/lang/String" "coder" "B" (.int (1 : Int32))) ∧ (Fld Z h a1 "java/lang/String" "value" "[B" (.ref b)) ∧ (n0 ≤ b) ∧ (h0.size ≤ b) ∧ (Arv Z h b kb .byte (8 : Int32) [(.int (own_x0 c0)), (.int (own_x8 c0)), (.int (own_x0 c1)), (.int (own_x8 c1)), (.int (own_x0 c2)), (.int (own_x8 c2)), (.int (own_x0 c3)), (.int (own_x8 c3))] (.int (0 : Int32))) ∧ (a1 ≠ b)
set_option maxRecDepth 65536 in
set_option maxHeartbeats 40000000 in
theorem rm2_U4 (l : Launch) (Z : State) (a0 : Array Value) (hw : ∀ d ∈ tables_1, d.before a0 Z = true) (ws : List Jvm.Cond) (a1 : Addr) (a2 : Addr) (k1 : ClassId) (c0 : Int32) (c1 : Int32) (c2 : Int32) (c3 : Int32) (cs1 : Int32) (fm : Value) (h0 : Heap) (n0 : Nat) (Z0 : n0 ≤ h0.size) (O1 : Old Z n0 h0) (G : own_G Z cs1 fm) (F1 : Fld Z h0 a1 "java/lang/String" "coder" "B" (.int (0 : Int32))) (F2 : Fld Z h0 a1 "java/lang/String" "value" "[B" .null) (E1 : Exa Z h0 a1 "java/lang/String") (V1 : Arv Z h0 a2 k1 .char (4 : Int32) [(.int c0), (.int c1), (.int c2), (.int c3)] (.int (0 : Int32))) (ne : a1 ≠ a2) (g1 : n0 ≤ a1) (a0_ : ¬ (c0 < (0 : Int32))) (b0_ : ¬ ((65535 : Int32) < c0)) (a1_ : ¬ (c1 < (0 : Int32))) (b1_ : ¬ ((65535 : Int32) < c1)) (a2_ : ¬ (c2 < (0 : Int32))) (b2_ : ¬ ((65535 : Int32) < c2)) (a3_ : ¬ (c3 < (0 : Int32))) (b3_ : ¬ ((65535 : Int32) < c3)) (big : ((255 : Int32) < c0) ∨ ((255 : Int32) < c1) ∨ ((255 : Int32) < c2) ∨ ((255 : Int32) < c3)) :
  MetFree l (⟨"java/lang/String", "<init>", "([C)V"⟩ : MethodName) (head1 (Jvm.Cond.code (⟨"java/lang/String", "<init>", "([C)V"⟩ : MethodName) jdk_42_method_3_code 2 none :: ws) ({ frames := 5, cells := 2, slots := 12, locals := 74 } : Room)) (fun a U => a = #[(.ref a1), (.ref a2)] ∧ Z.Warmed39 U.vm ∧ U.heap = h0) (fun _ _ _ _ _ => True) (fun _ U o U' => ∃ v L, o = .returned v ∧ Q2_U4 Z a1 a2 k1 c0 c1 c2 c3 cs1 fm h0 n0 v U'.heap L ∧ FrameEnd U o U' L ({ frames := 5, cells := 2, slots := 12, locals := 74 } : Room).cells ({ frames := 5, cells := 2, slots := 12, locals := 74 } : Room).slots) := by
 refine MetFree.of_bodySF pn2 hisR ?_
 intro p e s m args below meth c s₁ Bd hml0 hP hK
 obtain ⟨rfl, hZ, hh⟩ := hP
 have hx := Bd.exec
 have hby := Bd.bytes
 have hml : c.maxLocals = 2 := hml0
 have hown : s.vm.findClass "java/lang/String" = some m.cls := findClass_of_methodNamed Bd.named
 have hnm := (name_of_methodNamed Bd.named Bd.method).1
 have X0 : Stand p l e ({ frames := 5, cells := 2, slots := 12, locals := 74 } : Room) s m #[(.ref a1), (.ref a2)] below meth c s₁ [] 0 0 := Stand.of_body Bd
 have e0 : s₁.heap = h0 := by rw [← hh, Bd.state]; rfl
 have N0 := Fr.nil n0
 have p0 : Go p.tables e below (s₁.setTop (entryFrame m #[(.ref a1), (.ref a2)] 2)) (s₁.setTop (mkF m 0 #[.val (.ref a1), .val (.ref a2)] [])) := fun t_ k_ => castTop (ef_rm2_U4 m a1 a2 k1 c0 c1 c2 c3 cs1 fm) k_
 have p101 : Go p.tables e below _ (s₁.setTop (mkF m 4 #[.val (.ref a1), .val (.ref a2)] [(.ref a2), (.int (0 : Int32)), (.ref a2), (.ref a1)])) := fun t_ k_ => p0 t_ (by
  refine XS.aloadN X0.here hx rfl (hb hby d2_0) rfl rfl ?_
  refine XS.aloadN X0.here hx rfl (hb hby d2_1) rfl rfl ?_
  refine XS.iconst X0.here hx rfl (hb hby d2_2) ?_
  refine XS.aloadN X0.here hx rfl (hb hby d2_3) rfl rfl ?_
  exact k_)
 obtain ⟨cl102, Ar102, -, S102, Ng102, -, -⟩ := id V1
 have p103 : Go p.tables e below _ (s₁.setTop (mkF m 6 #[.val (.ref a1), .val (.ref a2)] [.null, (.int (4 : Int32)), (.int (0 : Int32)), (.ref a2), (.ref a1)])) := fun t_ k_ => p101 t_ (by
  refine X0.arraylength hx (by rw [e0]; exact Ar102.1) (State.isArrayOf_alike hZ.alike Ar102.2.1) (g := (mkF m 4 #[.val (.ref a1), .val (.ref a2)] [(.ref a2), (.int (0 : Int32)), (.ref a2), (.ref a1)])) rfl rfl (hb hby d2_4) _ ?_
  rw [len_of S102 Ng102]
  show Steps p.tables e below (s₁.setTop (mkF m 5 #[.val (.ref a1), .val (.ref a2)] [(.int (4 : Int32)), (.int (0 : Int32)), (.ref a2), (.ref a1)])) _
  refine XS.aconstNull X0.here hx rfl (hb hby d2_5) ?_
  exact k_)
 obtain ⟨_, _, ⟨T104, L104, k104, n104⟩, -, X104, ⟨Lc104, hQ104, l104, y104, z104⟩, st104⟩ := X0.specialBack hx (y := (⟨"java/lang/String", "<init>", "([CIILjava/lang/Void;)V"⟩ : MethodName)) rfl hown (mvT hZ (own_w hw 12 rfl)) (mvT hZ (own_w hw 13 rfl)) (mvT hZ (own_w hw 15 rfl)) (by decide) (backOf (W := 0) (rm3_U4 l Z a0 hw [] a1 a2 k1 c0 c1 c2 c3 cs1 fm h0 n0 (Nat.le_trans Z0 (Keep.refl h0 [a1]).1) O1 G F1 F2 E1 V1 ne g1 a0_ b0_ a1_ b1_ a2_ b2_ a3_ b3_ big) hZ (own_w hw 15 rfl) (own_w hw 8 rfl) (by decide) (by decide)) (g := (mkF m 6 #[.val (.ref a1), .val (.ref a2)] [.null, (.int (4 : Int32)), (.int (0 : Int32)), (.ref a2), (.ref a1)])) rfl (by rw [hml]; rfl) (Steps.refl _) (a := a1) (argsL := [(.ref a2), (.int (0 : Int32)), (.int (4 : Int32)), .null]) (rest := []) (lenOf pd10 rfl) rfl (by show 2 * 0 + _ ≤ _; exact Nat.le_of_eq rfl) (hb hby d2_6) (fun _ _ => ⟨rfl, e0, (by decide : 0 + 2 ≤ _), (by decide : 0 + 12 ≤ _)⟩)
 dsimp only [Pt.U, Pt.locs, Pt.cells, Pt.slots] at X104 l104 y104 z104 st104 hQ104
 subst l104 y104 z104
 obtain ⟨x105, x106, rfl, N104q, q104_K, q104_E, q104_c, q104_v, q104_g, q104_z, q104_V, q104_n⟩ := hQ104
 have N104 := Fr.app N0 N104q
 have K107 : Keep h0 T104.heap [a1] := (Keep.refl h0 [a1]).trans q104_K (allS (Or.inl (List.mem_of_getElem? (i := 0) rfl)) all0)
 have ne_a1_x105 : a1 ≠ x105 := Nat.ne_of_lt (Nat.lt_of_lt_of_le E1.lt q104_z)
 have ne_a2_x105 : a2 ≠ x105 := Nat.ne_of_lt (Nat.lt_of_lt_of_le V1.lt q104_z)
 obtain ⟨fs, hr, hrun, hended, hW, hsame⟩ := X104.leave (v := none) (fun _ => rfl)
 refine ⟨_, _, (gcT p103 st104) _ (X104.returnOut hx Bd.returns (hb hby d2_9) hr), hrun, hended, _, _, rfl, ?_, ⟨_, rfl⟩, hW, hsame.mono (by decide) (by decide)⟩
 show Q2_U4 Z a1 a2 k1 c0 c1 c2 c3 cs1 fm h0 n0 _ T104.heap _
 exact ⟨x105, x106, rfl, N104, K107, q104_E, q104_c, q104_v, q104_g, (Nat.le_trans (Keep.refl h0 [a1]).1 q104_z), q104_V, q104_n⟩
theorem d8_13 : decode prog_16_method_1_code 13 = .ok (.iload_n 3, 1) := by decide +kernel
theorem d8_14 : decode prog_16_method_1_code 14 = .ok (.aload_n 1, 1) := by decide +kernel
theorem d8_15 : decode prog_16_method_1_code 15 = .ok (.invokevirtual 13, 3) := by decide +kernel
theorem d8_18 : decode prog_16_method_1_code 18 = .ok (.if_icmp .ge 22, 3) := by decide +kernel
theorem pd14 : parseMethodDescriptor "()I" = some ⟨[], some .int⟩ := by decide +kernel
theorem d8_21 : decode prog_16_method_1_code 21 = .ok (.aload_n 1, 1) := by decide +kernel
theorem d8_22 : decode prog_16_method_1_code 22 = .ok (.iload_n 3, 1) := by decide +kernel
theorem d8_23 : decode prog_16_method_1_code 23 = .ok (.invokevirtual 19, 3) := by decide +kernel
theorem d8_26 : decode prog_16_method_1_code 26 = .ok (.bipush 10, 2) := by decide +kernel
theorem d8_28 : decode prog_16_method_1_code 28 = .ok (.if_icmp .ne 6, 3) := by decide +kernel
theorem d8_31 : decode prog_16_method_1_code 31 = .ok (.iinc 2 1, 3) := by decide +kernel
theorem d8_34 : decode prog_16_method_1_code 34 = .ok (.iinc 3 1, 3) := by decide +kernel
theorem d8_37 : decode prog_16_method_1_code 37 = .ok (.goto (-24), 3) := by decide +kernel
theorem pd15 : parseMethodDescriptor "(I)C" = some ⟨[.int], some .char⟩ := by decide +kernel
set_option maxRecDepth 65536 in
set_option maxHeartbeats 40000000 in
theorem lpA0 {p : Program} {l : Launch} {e : Env} {s : State} {m : MethodId} {args : Array Value} {below : List Frame} {meth : Method} {c : Code} (Z : State) (a0 : Array Value) (hx : p.tables.exec = Jvm.exec) (hZ : Z.Warmed39 s.vm) (hw : ∀ d ∈ tables_1, d.before a0 Z = true) (hby : c.code = prog_16_method_1_code) (hml : c.maxLocals = 5) (hown : s.vm.findClass "com/example/subsume/subsume/model/Lines" = some m.cls) (a1 : Addr) (a2 : Addr) (bv : Addr) (kv : ClassId) (z : Int32) (vs : List Value) (cs : List Int32) (n : Nat) (cs1 : Int32) (fm : Value) (h0 : Heap) (n0 : Nat) (Z0 : n0 ≤ h0.size) (O1 : Old Z n0 h0) (G : own_G Z cs1 fm) (E2 : Exa Z h0 a2 "java/lang/String") (G1 : Fld Z h0 a2 "java/lang/String" "coder" "B" (.int (0 : Int32))) (G2 : Fld Z h0 a2 "java/lang/String" "value" "[B" (.ref bv)) (V1 : Arv Z h0 bv kv .byte z vs (.int (0 : Int32))) (hz : (z >>> (0 : Int32)) = (Int32.ofNat n)) (hn : n ≤ 8) (HB : ∀ i, i < n → ∃ b : Int32, vs.getD ((Int32.ofNat i)).toNatClampNeg (.int (0 : Int32)) = .int b ∧ own_c8 b = own_at cs i) (hz0 : z = Int32.ofNat n) : ∀ (k i : Nat) (T : State) (locs : List Loc), i + k = n → Stand p l e ({ frames := 6, cells := 1, slots := 9, locals := 150 } : Room) s m args below meth c T locs 0 0 → T.heap = h0 → Fr n0 locs → ∃ (T' : State) (L' : List Loc), Stand p l e ({ frames := 6, cells := 1, slots := 9, locals := 150 } : Room) s m args below meth c T' L' 0 0 ∧ T'.heap = h0 ∧ Fr n0 L' ∧ Go p.tables e below (T.setTop (mkF m 13 #[.val (.ref a1), .val (.ref a2), .val (.int (Int32.ofNat (1 + own_nl cs i))), .val (.int (Int32.ofNat i)), .unset] [])) (T'.setTop (mkF m 40 #[.val (.ref a1), .val (.ref a2), .val (.int (Int32.ofNat (1 + own_nl cs n))), .val (.int (Int32.ofNat n)), .unset] [])) := by
 intro k
 induction k with
 | zero =>
  intro i T locs hk X0 e0 N0
  have hin : i = n := by omega
  have hnl := own_nl_le cs i
  have p0 : Go p.tables e below (T.setTop (mkF m 13 #[.val (.ref a1), .val (.ref a2), .val (.int (Int32.ofNat (1 + own_nl cs i))), .val (.int (Int32.ofNat i)), .unset] [])) (T.setTop (mkF m 13 #[.val (.ref a1), .val (.ref a2), .val (.int (Int32.ofNat (1 + own_nl cs i))), .val (.int (Int32.ofNat i)), .unset] [])) := fun t_ k_ => k_
  have p101 : Go p.tables e below _ (T.setTop (mkF m 15 #[.val (.ref a1), .val (.ref a2), .val (.int (Int32.ofNat (1 + own_nl cs i))), .val (.int (Int32.ofNat i)), .unset] [(.ref a2), (.int (Int32.ofNat i))])) := fun t_ k_ => p0 t_ (by
   refine XS.iloadN X0.here hx rfl (hb hby d8_13) rfl ?_
   refine XS.aloadN X0.here hx rfl (hb hby d8_14) rfl rfl ?_
   exact k_)
  obtain ⟨cq102, kq102, q102a, q102b, q102c⟩ := isOf hZ e0 E2
  obtain ⟨_, _, ⟨T102, L102, k102, n102⟩, -, X102, ⟨Lc102, hQ102, l102, y102, z102⟩, st102⟩ := X0.virtualBack hx (y := (⟨"java/lang/String", "length", "()I"⟩ : MethodName)) (z := (⟨"java/lang/String", "length", "()I"⟩ : MethodName)) hown (mvT hZ (own_w hw 45 rfl)) (mvT hZ (own_w hw 46 rfl)) (notFace_of_selects (args := #[]) (mvT hZ (own_w hw 48 rfl))) (mvT hZ (own_w hw 48 rfl)) (mvT hZ (own_w hw 47 rfl)) (by decide) (backOf (W := 1) (rm9_0 l Z a0 hw [] a2 (Int32.ofNat n) bv kv z vs cs1 fm h0 n0 (Nat.le_trans Z0 (Keep.refl h0 []).1) O1 G E2 G1 G2 V1 hz) hZ (own_w hw 49 rfl) (own_w hw 8 rfl) (by decide) (by decide)) q102a q102c (g := (mkF m 15 #[.val (.ref a1), .val (.ref a2), .val (.int (Int32.ofNat (1 + own_nl cs i))), .val (.int (Int32.ofNat i)), .unset] [(.ref a2), (.int (Int32.ofNat i))])) rfl (by rw [hml]; rfl) (Steps.refl _) (argsL := []) (rest := [(.int (Int32.ofNat i))]) (lenOf pd14 rfl) rfl (by show 2 * 0 + _ ≤ _; exact Nat.le_of_eq rfl) (hb hby d8_15) (fun _ _ => ⟨rfl, e0, (by decide : 0 + 0 ≤ _), (by decide : 0 + 0 ≤ _)⟩)
  dsimp only [Pt.U, Pt.locs, Pt.cells, Pt.slots] at X102 l102 y102 z102 st102 hQ102
  subst l102 y102 z102
  obtain ⟨rfl, N102q, q102_hh⟩ := hQ102
  have N102 := Fr.app N0 N102q
  have c103 : ¬ ((Int32.ofNat i) < (Int32.ofNat n)) := (fun q => by rw [own_lt32 (by omega) (by omega)] at q; omega)
  have p104 : Go p.tables e below _ (T102.setTop (mkF m 40 #[.val (.ref a1), .val (.ref a2), .val (.int (Int32.ofNat (1 + own_nl cs i))), .val (.int (Int32.ofNat i)), .unset] [])) := fun t_ k_ => (gcT p101 st102) t_ (by
   refine XS.icmpYes X102.here hx rfl (pc0 := 18) (pc' := 40) rfl (hb hby d8_18) rfl (flt c103).2.1 (by decide) (by decide) ?_
   exact k_)
  exact ⟨_, _, X102, q102_hh, N102, by have z := p104; rw [hin] at z ⊢; exact z⟩
 | succ k ih =>
  intro i T locs hk X0 e0 N0
  have hi : i < n := by omega
  have hnl := own_nl_le cs i
  have p0 : Go p.tables e below (T.setTop (mkF m 13 #[.val (.ref a1), .val (.ref a2), .val (.int (Int32.ofNat (1 + own_nl cs i))), .val (.int (Int32.ofNat i)), .unset] [])) (T.setTop (mkF m 13 #[.val (.ref a1), .val (.ref a2), .val (.int (Int32.ofNat (1 + own_nl cs i))), .val (.int (Int32.ofNat i)), .unset] [])) := fun t_ k_ => k_
  have p101 : Go p.tables e below _ (T.setTop (mkF m 15 #[.val (.ref a1), .val (.ref a2), .val (.int (Int32.ofNat (1 + own_nl cs i))), .val (.int (Int32.ofNat i)), .unset] [(.ref a2), (.int (Int32.ofNat i))])) := fun t_ k_ => p0 t_ (by
   refine XS.iloadN X0.here hx rfl (hb hby d8_13) rfl ?_
   refine XS.aloadN X0.here hx rfl (hb hby d8_14) rfl rfl ?_
   exact k_)
  obtain ⟨cq102, kq102, q102a, q102b, q102c⟩ := isOf hZ e0 E2
  obtain ⟨_, _, ⟨T102, L102, k102, n102⟩, -, X102, ⟨Lc102, hQ102, l102, y102, z102⟩, st102⟩ := X0.virtualBack hx (y := (⟨"java/lang/String", "length", "()I"⟩ : MethodName)) (z := (⟨"java/lang/String", "length", "()I"⟩ : MethodName)) hown (mvT hZ (own_w hw 45 rfl)) (mvT hZ (own_w hw 46 rfl)) (notFace_of_selects (args := #[]) (mvT hZ (own_w hw 48 rfl))) (mvT hZ (own_w hw 48 rfl)) (mvT hZ (own_w hw 47 rfl)) (by decide) (backOf (W := 1) (rm9_0 l Z a0 hw [] a2 (Int32.ofNat n) bv kv z vs cs1 fm h0 n0 (Nat.le_trans Z0 (Keep.refl h0 []).1) O1 G E2 G1 G2 V1 hz) hZ (own_w hw 49 rfl) (own_w hw 8 rfl) (by decide) (by decide)) q102a q102c (g := (mkF m 15 #[.val (.ref a1), .val (.ref a2), .val (.int (Int32.ofNat (1 + own_nl cs i))), .val (.int (Int32.ofNat i)), .unset] [(.ref a2), (.int (Int32.ofNat i))])) rfl (by rw [hml]; rfl) (Steps.refl _) (argsL := []) (rest := [(.int (Int32.ofNat i))]) (lenOf pd14 rfl) rfl (by show 2 * 0 + _ ≤ _; exact Nat.le_of_eq rfl) (hb hby d8_15) (fun _ _ => ⟨rfl, e0, (by decide : 0 + 0 ≤ _), (by decide : 0 + 0 ≤ _)⟩)
  dsimp only [Pt.U, Pt.locs, Pt.cells, Pt.slots] at X102 l102 y102 z102 st102 hQ102
  subst l102 y102 z102
  obtain ⟨rfl, N102q, q102_hh⟩ := hQ102
  have N102 := Fr.app N0 N102q
  have c103 : ((Int32.ofNat i) < (Int32.ofNat n)) := (own_lt32 (by omega) (by omega)).mpr hi
  have p104 : Go p.tables e below _ (T102.setTop (mkF m 23 #[.val (.ref a1), .val (.ref a2), .val (.int (Int32.ofNat (1 + own_nl cs i))), .val (.int (Int32.ofNat i)), .unset] [(.int (Int32.ofNat i)), (.ref a2)])) := fun t_ k_ => (gcT p101 st102) t_ (by
   refine XS.icmpNo X102.here hx rfl (hb hby d8_18) rfl (tlt c103).2.1 ?_
   refine XS.aloadN X102.here hx rfl (hb hby d8_21) rfl rfl ?_
   refine XS.iloadN X102.here hx rfl (hb hby d8_22) rfl ?_
   exact k_)
  obtain ⟨b, hg, hc⟩ := HB i hi
  obtain ⟨cq105, kq105, q105a, q105b, q105c⟩ := isOf hZ q102_hh E2
  obtain ⟨_, _, ⟨T105, L105, k105, n105⟩, -, X105, ⟨Lc105, hQ105, l105, y105, z105⟩, st105⟩ := X102.virtualBack hx (y := (⟨"java/lang/String", "charAt", "(I)C"⟩ : MethodName)) (z := (⟨"java/lang/String", "charAt", "(I)C"⟩ : MethodName)) hown (mvT hZ (own_w hw 55 rfl)) (mvT hZ (own_w hw 56 rfl)) (notFace_of_selects (args := #[]) (mvT hZ (own_w hw 58 rfl))) (mvT hZ (own_w hw 58 rfl)) (mvT hZ (own_w hw 57 rfl)) (by decide) (backOf (W := 0) (rm11_0 l Z a0 hw [] a2 (Int32.ofNat i) bv kv z vs b (own_at cs i) cs1 fm h0 n0 (Nat.le_trans Z0 (Keep.refl h0 []).1) O1 G E2 G1 G2 V1 (own_nn32 (by omega)) (by rw [hz0]; exact (own_lt32 (by omega) (by omega)).mpr hi) hg hc) hZ (own_w hw 59 rfl) (own_w hw 8 rfl) (by decide) (by decide)) q105a q105c (g := (mkF m 23 #[.val (.ref a1), .val (.ref a2), .val (.int (Int32.ofNat (1 + own_nl cs i))), .val (.int (Int32.ofNat i)), .unset] [(.int (Int32.ofNat i)), (.ref a2)])) rfl (by rw [hml]; rfl) (Steps.refl _) (argsL := [(.int (Int32.ofNat i))]) (rest := []) (lenOf pd15 rfl) rfl (by show 2 * 0 + _ ≤ _; exact Nat.le_of_eq rfl) (hb hby d8_23) (fun _ _ => ⟨rfl, q102_hh, (by decide : 0 + 0 ≤ _), (by decide : 0 + 0 ≤ _)⟩)
  dsimp only [Pt.U, Pt.locs, Pt.cells, Pt.slots] at X105 l105 y105 z105 st105 hQ105
  subst l105 y105 z105
  obtain ⟨rfl, N105q, q105_hh⟩ := hQ105
  have N105 := Fr.app N102 N105q
  have p106 : Go p.tables e below _ (T105.setTop (mkF m 28 #[.val (.ref a1), .val (.ref a2), .val (.int (Int32.ofNat (1 + own_nl cs i))), .val (.int (Int32.ofNat i)), .unset] [(.int (10 : Int32)), (.int (own_at cs i))])) := fun t_ k_ => (gcT p104 st105) t_ (by
   refine XS.bipush X105.here hx rfl (hb hby d8_26) ?_
   exact k_)
  by_cases c107 : (own_at cs i) = (10 : Int32)
  ·have p108 : Go p.tables e below _ (T105.setTop (mkF m 31 #[.val (.ref a1), .val (.ref a2), .val (.int (Int32.ofNat (1 + own_nl cs i))), .val (.int (Int32.ofNat i)), .unset] [])) := fun t_ k_ => p106 t_ (by
    refine XS.icmpNo X105.here hx rfl (hb hby d8_28) rfl (teq c107).2 ?_
    exact k_)
   have p109 : Go p.tables e below _ (T105.setTop (mkF m 13 #[.val (.ref a1), .val (.ref a2), .val (.int ((Int32.ofNat (1 + own_nl cs i)) + (1 : Int32))), .val (.int ((Int32.ofNat i) + (1 : Int32))), .unset] [])) := fun t_ k_ => p108 t_ (by
    refine XS.iinc X105.here hx rfl (hb hby d8_31) rfl (l' := #[.val (.ref a1), .val (.ref a2), .val (.int ((Int32.ofNat (1 + own_nl cs i)) + (1 : Int32))), .val (.int (Int32.ofNat i)), .unset]) rfl ?_
    refine XS.iinc X105.here hx rfl (hb hby d8_34) rfl (l' := #[.val (.ref a1), .val (.ref a2), .val (.int ((Int32.ofNat (1 + own_nl cs i)) + (1 : Int32))), .val (.int ((Int32.ofNat i) + (1 : Int32))), .unset]) rfl ?_
    refine XS.goto X105.here hx rfl (pc0 := 37) (pc' := 13) rfl (hb hby d8_37) (by decide) (by decide) ?_
    exact k_)
   obtain ⟨T', L', X', e', N', g'⟩ := ih (i + 1) T105 _ (by omega) X105 q105_hh N105
   refine ⟨T', L', X', e', N', fun t_ k_ => p109 t_ ?_⟩
   have z := g' t_ k_
   rw [own_nl_s, if_pos c107, ← Nat.add_assoc, own_up1 (1 + own_nl cs i), own_up1 i] at z
   exact z
  ·have p110 : Go p.tables e below _ (T105.setTop (mkF m 34 #[.val (.ref a1), .val (.ref a2), .val (.int (Int32.ofNat (1 + own_nl cs i))), .val (.int (Int32.ofNat i)), .unset] [])) := fun t_ k_ => p106 t_ (by
    refine XS.icmpYes X105.here hx rfl (pc0 := 28) (pc' := 34) rfl (hb hby d8_28) rfl (feq c107).2 (by decide) (by decide) ?_
    exact k_)
   have p111 : Go p.tables e below _ (T105.setTop (mkF m 13 #[.val (.ref a1), .val (.ref a2), .val (.int (Int32.ofNat (1 + own_nl cs i))), .val (.int ((Int32.ofNat i) + (1 : Int32))), .unset] [])) := fun t_ k_ => p110 t_ (by
    refine XS.iinc X105.here hx rfl (hb hby d8_34) rfl (l' := #[.val (.ref a1), .val (.ref a2), .val (.int (Int32.ofNat (1 + own_nl cs i))), .val (.int ((Int32.ofNat i) + (1 : Int32))), .unset]) rfl ?_
    refine XS.goto X105.here hx rfl (pc0 := 37) (pc' := 13) rfl (hb hby d8_37) (by decide) (by decide) ?_
    exact k_)
   obtain ⟨T', L', X', e', N', g'⟩ := ih (i + 1) T105 _ (by omega) X105 q105_hh N105
   refine ⟨T', L', X', e', N', fun t_ k_ => p111 t_ ?_⟩
   have z := g' t_ k_
   rw [own_nl_s, if_neg c107, Nat.add_zero, own_up1 i] at z
   exact z
theorem d8_52 : decode prog_16_method_1_code 52 = .ok (.iload 4, 2) := by decide +kernel
theorem d8_54 : decode prog_16_method_1_code 54 = .ok (.aload_n 1, 1) := by decide +kernel
theorem d8_55 : decode prog_16_method_1_code 55 = .ok (.invokevirtual 13, 3) := by decide +kernel
theorem d8_58 : decode prog_16_method_1_code 58 = .ok (.if_icmp .ge 33, 3) := by decide +kernel
theorem d8_61 : decode prog_16_method_1_code 61 = .ok (.aload_n 1, 1) := by decide +kernel
theorem d8_62 : decode prog_16_method_1_code 62 = .ok (.iload 4, 2) := by decide +kernel
theorem d8_64 : decode prog_16_method_1_code 64 = .ok (.invokevirtual 19, 3) := by decide +kernel
theorem d8_67 : decode prog_16_method_1_code 67 = .ok (.bipush 10, 2) := by decide +kernel
theorem d8_69 : decode prog_16_method_1_code 69 = .ok (.if_icmp .ne 16, 3) := by decide +kernel
theorem d8_72 : decode prog_16_method_1_code 72 = .ok (.aload_n 0, 1) := by decide +kernel
theorem d8_73 : decode prog_16_method_1_code 73 = .ok (.getfield 23, 3) := by decide +kernel
theorem d8_76 : decode prog_16_method_1_code 76 = .ok (.iload_n 3, 1) := by decide +kernel
theorem d8_77 : decode prog_16_method_1_code 77 = .ok (.iinc 3 1, 3) := by decide +kernel
theorem d8_80 : decode prog_16_method_1_code 80 = .ok (.iload 4, 2) := by decide +kernel
theorem d8_82 : decode prog_16_method_1_code 82 = .ok (.iconst 1, 1) := by decide +kernel
theorem d8_83 : decode prog_16_method_1_code 83 = .ok (.iadd, 1) := by decide +kernel
theorem d8_84 : decode prog_16_method_1_code 84 = .ok (.iastore, 1) := by decide +kernel
theorem d8_85 : decode prog_16_method_1_code 85 = .ok (.iinc 4 1, 3) := by decide +kernel
theorem d8_88 : decode prog_16_method_1_code 88 = .ok (.goto (-36), 3) := by decide +kernel
set_option maxRecDepth 65536 in
set_option maxHeartbeats 40000000 in
theorem lpB0 {p : Program} {l : Launch} {e : Env} {s : State} {m : MethodId} {args : Array Value} {below : List Frame} {meth : Method} {c : Code} (Z : State) (a0 : Array Value) (hx : p.tables.exec = Jvm.exec) (hZ : Z.Warmed39 s.vm) (hw : ∀ d ∈ tables_1, d.before a0 Z = true) (hby : c.code = prog_16_method_1_code) (hml : c.maxLocals = 5) (hown : s.vm.findClass "com/example/subsume/subsume/model/Lines" = some m.cls) (a1 : Addr) (a2 : Addr) (bv : Addr) (kv : ClassId) (z : Int32) (vs : List Value) (cs : List Int32) (n : Nat) (cs1 : Int32) (fm : Value) (bs : Addr) (ks : ClassId) (n0 : Nat) (G : own_G Z cs1 fm) (hz : (z >>> (0 : Int32)) = (Int32.ofNat n)) (hn : n ≤ 8) (HB : ∀ i, i < n → ∃ b : Int32, vs.getD ((Int32.ofNat i)).toNatClampNeg (.int (0 : Int32)) = .int b ∧ own_c8 b = own_at cs i) (hz0 : z = Int32.ofNat n) (m1 : a1 ≠ bs) (m2 : a2 ≠ bs) (m3 : bv ≠ bs) (gs : n0 ≤ bs) : ∀ (k i : Nat) (T : State) (h0 : Heap) (locs : List Loc), i + k = n → Stand p l e ({ frames := 6, cells := 1, slots := 9, locals := 150 } : Room) s m args below meth c T locs 1 9 → T.heap = h0 → n0 ≤ h0.size → Fr n0 locs → Old Z n0 h0 → Exa Z h0 a2 "java/lang/String" → Fld Z h0 a2 "java/lang/String" "coder" "B" (.int (0 : Int32)) → Fld Z h0 a2 "java/lang/String" "value" "[B" (.ref bv) → Arv Z h0 bv kv .byte z vs (.int (0 : Int32)) → Fld Z h0 a1 "com/example/subsume/subsume/model/Lines" "starts" "[I" (.ref bs) → Fld Z h0 a1 "com/example/subsume/subsume/model/Lines" "text" "Ljava/lang/String;" (.ref a2) → Exa Z h0 a1 "com/example/subsume/subsume/model/Lines" → Arv Z h0 bs ks .int (Int32.ofNat (1 + own_nl cs n)) ((own_st cs n i).map Value.int) (.int (0 : Int32)) → ∃ (T' : State) (h' : Heap) (lc : List Loc), Stand p l e ({ frames := 6, cells := 1, slots := 9, locals := 150 } : Room) s m args below meth c T' lc 1 9 ∧ T'.heap = h' ∧ Fr n0 lc ∧ Keep h0 h' [bs] ∧ Fld Z h' a1 "com/example/subsume/subsume/model/Lines" "starts" "[I" (.ref bs) ∧ Fld Z h' a1 "com/example/subsume/subsume/model/Lines" "text" "Ljava/lang/String;" (.ref a2) ∧ Exa Z h' a1 "com/example/subsume/subsume/model/Lines" ∧ Arv Z h' bs ks .int (Int32.ofNat (1 + own_nl cs n)) ((own_st cs n n).map Value.int) (.int (0 : Int32)) ∧ Go p.tables e below (T.setTop (mkF m 52 #[.val (.ref a1), .val (.ref a2), .val (.int (Int32.ofNat (1 + own_nl cs n))), .val (.int (Int32.ofNat (1 + own_nl cs i))), .val (.int (Int32.ofNat i))] [])) (T'.setTop (mkF m 91 #[.val (.ref a1), .val (.ref a2), .val (.int (Int32.ofNat (1 + own_nl cs n))), .val (.int (Int32.ofNat (1 + own_nl cs n))), .val (.int (Int32.ofNat n))] [])) := by
 intro k
 induction k with
 | zero =>
  intro i T h0 locs hk X0 e0 Z0 N0 O1 E2 G1 G2 V1 S1 S2 E1 V2
  have hin : i = n := by omega
  have hnl := own_nl_le cs i
  have hnn := own_nl_le cs n
  have p0 : Go p.tables e below (T.setTop (mkF m 52 #[.val (.ref a1), .val (.ref a2), .val (.int (Int32.ofNat (1 + own_nl cs n))), .val (.int (Int32.ofNat (1 + own_nl cs i))), .val (.int (Int32.ofNat i))] [])) (T.setTop (mkF m 52 #[.val (.ref a1), .val (.ref a2), .val (.int (Int32.ofNat (1 + own_nl cs n))), .val (.int (Int32.ofNat (1 + own_nl cs i))), .val (.int (Int32.ofNat i))] [])) := fun t_ k_ => k_
  have p101 : Go p.tables e below _ (T.setTop (mkF m 55 #[.val (.ref a1), .val (.ref a2), .val (.int (Int32.ofNat (1 + own_nl cs n))), .val (.int (Int32.ofNat (1 + own_nl cs i))), .val (.int (Int32.ofNat i))] [(.ref a2), (.int (Int32.ofNat i))])) := fun t_ k_ => p0 t_ (by
   refine XS.iload X0.here hx rfl (hb hby d8_52) rfl ?_
   refine XS.aloadN X0.here hx rfl (hb hby d8_54) rfl rfl ?_
   exact k_)
  obtain ⟨cq102, kq102, q102a, q102b, q102c⟩ := isOf hZ e0 E2
  obtain ⟨_, _, ⟨T102, L102, k102, n102⟩, -, X102, ⟨Lc102, hQ102, l102, y102, z102⟩, st102⟩ := X0.virtualBack hx (y := (⟨"java/lang/String", "length", "()I"⟩ : MethodName)) (z := (⟨"java/lang/String", "length", "()I"⟩ : MethodName)) hown (mvT hZ (own_w hw 45 rfl)) (mvT hZ (own_w hw 46 rfl)) (notFace_of_selects (args := #[]) (mvT hZ (own_w hw 48 rfl))) (mvT hZ (own_w hw 48 rfl)) (mvT hZ (own_w hw 47 rfl)) (by decide) (backOf (W := 1) (rm9_0 l Z a0 hw [] a2 (Int32.ofNat n) bv kv z vs cs1 fm h0 n0 (Nat.le_trans Z0 (Keep.refl h0 [bs]).1) O1 G E2 G1 G2 V1 hz) hZ (own_w hw 49 rfl) (own_w hw 8 rfl) (by decide) (by decide)) q102a q102c (g := (mkF m 55 #[.val (.ref a1), .val (.ref a2), .val (.int (Int32.ofNat (1 + own_nl cs n))), .val (.int (Int32.ofNat (1 + own_nl cs i))), .val (.int (Int32.ofNat i))] [(.ref a2), (.int (Int32.ofNat i))])) rfl (by rw [hml]; rfl) (Steps.refl _) (argsL := []) (rest := [(.int (Int32.ofNat i))]) (lenOf pd14 rfl) rfl (by show 2 * 0 + _ ≤ _; exact Nat.le_of_eq rfl) (hb hby d8_55) (fun _ _ => ⟨rfl, e0, (by decide : 1 + 0 ≤ _), (by decide : 9 + 0 ≤ _)⟩)
  dsimp only [Pt.U, Pt.locs, Pt.cells, Pt.slots] at X102 l102 y102 z102 st102 hQ102
  subst l102 y102 z102
  obtain ⟨rfl, N102q, q102_hh⟩ := hQ102
  have N102 := Fr.app N0 N102q
  have c103 : ¬ ((Int32.ofNat i) < (Int32.ofNat n)) := (fun q => by rw [own_lt32 (by omega) (by omega)] at q; omega)
  have p104 : Go p.tables e below _ (T102.setTop (mkF m 91 #[.val (.ref a1), .val (.ref a2), .val (.int (Int32.ofNat (1 + own_nl cs n))), .val (.int (Int32.ofNat (1 + own_nl cs i))), .val (.int (Int32.ofNat i))] [])) := fun t_ k_ => (gcT p101 st102) t_ (by
   refine XS.icmpYes X102.here hx rfl (pc0 := 58) (pc' := 91) rfl (hb hby d8_58) rfl (flt c103).2.1 (by decide) (by decide) ?_
   exact k_)
  subst hin; exact ⟨_, _, _, X102, q102_hh, N102, (Keep.refl h0 [bs]), S1, S2, E1, V2, p104⟩
 | succ k ih =>
  intro i T h0 locs hk X0 e0 Z0 N0 O1 E2 G1 G2 V1 S1 S2 E1 V2
  have hi : i < n := by omega
  have hnl := own_nl_le cs i
  have hnn := own_nl_le cs n
  have p0 : Go p.tables e below (T.setTop (mkF m 52 #[.val (.ref a1), .val (.ref a2), .val (.int (Int32.ofNat (1 + own_nl cs n))), .val (.int (Int32.ofNat (1 + own_nl cs i))), .val (.int (Int32.ofNat i))] [])) (T.setTop (mkF m 52 #[.val (.ref a1), .val (.ref a2), .val (.int (Int32.ofNat (1 + own_nl cs n))), .val (.int (Int32.ofNat (1 + own_nl cs i))), .val (.int (Int32.ofNat i))] [])) := fun t_ k_ => k_
  have p101 : Go p.tables e below _ (T.setTop (mkF m 55 #[.val (.ref a1), .val (.ref a2), .val (.int (Int32.ofNat (1 + own_nl cs n))), .val (.int (Int32.ofNat (1 + own_nl cs i))), .val (.int (Int32.ofNat i))] [(.ref a2), (.int (Int32.ofNat i))])) := fun t_ k_ => p0 t_ (by
   refine XS.iload X0.here hx rfl (hb hby d8_52) rfl ?_
   refine XS.aloadN X0.here hx rfl (hb hby d8_54) rfl rfl ?_
   exact k_)
  obtain ⟨cq102, kq102, q102a, q102b, q102c⟩ := isOf hZ e0 E2
  obtain ⟨_, _, ⟨T102, L102, k102, n102⟩, -, X102, ⟨Lc102, hQ102, l102, y102, z102⟩, st102⟩ := X0.virtualBack hx (y := (⟨"java/lang/String", "length", "()I"⟩ : MethodName)) (z := (⟨"java/lang/String", "length", "()I"⟩ : MethodName)) hown (mvT hZ (own_w hw 45 rfl)) (mvT hZ (own_w hw 46 rfl)) (notFace_of_selects (args := #[]) (mvT hZ (own_w hw 48 rfl))) (mvT hZ (own_w hw 48 rfl)) (mvT hZ (own_w hw 47 rfl)) (by decide) (backOf (W := 1) (rm9_0 l Z a0 hw [] a2 (Int32.ofNat n) bv kv z vs cs1 fm h0 n0 (Nat.le_trans Z0 (Keep.refl h0 [bs]).1) O1 G E2 G1 G2 V1 hz) hZ (own_w hw 49 rfl) (own_w hw 8 rfl) (by decide) (by decide)) q102a q102c (g := (mkF m 55 #[.val (.ref a1), .val (.ref a2), .val (.int (Int32.ofNat (1 + own_nl cs n))), .val (.int (Int32.ofNat (1 + own_nl cs i))), .val (.int (Int32.ofNat i))] [(.ref a2), (.int (Int32.ofNat i))])) rfl (by rw [hml]; rfl) (Steps.refl _) (argsL := []) (rest := [(.int (Int32.ofNat i))]) (lenOf pd14 rfl) rfl (by show 2 * 0 + _ ≤ _; exact Nat.le_of_eq rfl) (hb hby d8_55) (fun _ _ => ⟨rfl, e0, (by decide : 1 + 0 ≤ _), (by decide : 9 + 0 ≤ _)⟩)
  dsimp only [Pt.U, Pt.locs, Pt.cells, Pt.slots] at X102 l102 y102 z102 st102 hQ102
  subst l102 y102 z102
  obtain ⟨rfl, N102q, q102_hh⟩ := hQ102
  have N102 := Fr.app N0 N102q
  have c103 : ((Int32.ofNat i) < (Int32.ofNat n)) := (own_lt32 (by omega) (by omega)).mpr hi
  have p104 : Go p.tables e below _ (T102.setTop (mkF m 64 #[.val (.ref a1), .val (.ref a2), .val (.int (Int32.ofNat (1 + own_nl cs n))), .val (.int (Int32.ofNat (1 + own_nl cs i))), .val (.int (Int32.ofNat i))] [(.int (Int32.ofNat i)), (.ref a2)])) := fun t_ k_ => (gcT p101 st102) t_ (by
   refine XS.icmpNo X102.here hx rfl (hb hby d8_58) rfl (tlt c103).2.1 ?_
   refine XS.aloadN X102.here hx rfl (hb hby d8_61) rfl rfl ?_
   refine XS.iload X102.here hx rfl (hb hby d8_62) rfl ?_
   exact k_)
  obtain ⟨b, hg, hc⟩ := HB i hi
  obtain ⟨cq105, kq105, q105a, q105b, q105c⟩ := isOf hZ q102_hh E2
  obtain ⟨_, _, ⟨T105, L105, k105, n105⟩, -, X105, ⟨Lc105, hQ105, l105, y105, z105⟩, st105⟩ := X102.virtualBack hx (y := (⟨"java/lang/String", "charAt", "(I)C"⟩ : MethodName)) (z := (⟨"java/lang/String", "charAt", "(I)C"⟩ : MethodName)) hown (mvT hZ (own_w hw 55 rfl)) (mvT hZ (own_w hw 56 rfl)) (notFace_of_selects (args := #[]) (mvT hZ (own_w hw 58 rfl))) (mvT hZ (own_w hw 58 rfl)) (mvT hZ (own_w hw 57 rfl)) (by decide) (backOf (W := 0) (rm11_0 l Z a0 hw [] a2 (Int32.ofNat i) bv kv z vs b (own_at cs i) cs1 fm h0 n0 (Nat.le_trans Z0 (Keep.refl h0 [bs]).1) O1 G E2 G1 G2 V1 (own_nn32 (by omega)) (by rw [hz0]; exact (own_lt32 (by omega) (by omega)).mpr hi) hg hc) hZ (own_w hw 59 rfl) (own_w hw 8 rfl) (by decide) (by decide)) q105a q105c (g := (mkF m 64 #[.val (.ref a1), .val (.ref a2), .val (.int (Int32.ofNat (1 + own_nl cs n))), .val (.int (Int32.ofNat (1 + own_nl cs i))), .val (.int (Int32.ofNat i))] [(.int (Int32.ofNat i)), (.ref a2)])) rfl (by rw [hml]; rfl) (Steps.refl _) (argsL := [(.int (Int32.ofNat i))]) (rest := []) (lenOf pd15 rfl) rfl (by show 2 * 0 + _ ≤ _; exact Nat.le_of_eq rfl) (hb hby d8_64) (fun _ _ => ⟨rfl, q102_hh, (by decide : 1 + 0 ≤ _), (by decide : 9 + 0 ≤ _)⟩)
  dsimp only [Pt.U, Pt.locs, Pt.cells, Pt.slots] at X105 l105 y105 z105 st105 hQ105
  subst l105 y105 z105
  obtain ⟨rfl, N105q, q105_hh⟩ := hQ105
  have N105 := Fr.app N102 N105q
  have p106 : Go p.tables e below _ (T105.setTop (mkF m 69 #[.val (.ref a1), .val (.ref a2), .val (.int (Int32.ofNat (1 + own_nl cs n))), .val (.int (Int32.ofNat (1 + own_nl cs i))), .val (.int (Int32.ofNat i))] [(.int (10 : Int32)), (.int (own_at cs i))])) := fun t_ k_ => (gcT p104 st105) t_ (by
   refine XS.bipush X105.here hx rfl (hb hby d8_67) ?_
   exact k_)
  by_cases c107 : (own_at cs i) = (10 : Int32)
  ·have p108 : Go p.tables e below _ (T105.setTop (mkF m 72 #[.val (.ref a1), .val (.ref a2), .val (.int (Int32.ofNat (1 + own_nl cs n))), .val (.int (Int32.ofNat (1 + own_nl cs i))), .val (.int (Int32.ofNat i))] [])) := fun t_ k_ => p106 t_ (by
    refine XS.icmpNo X105.here hx rfl (hb hby d8_69) rfl (teq c107).2 ?_
    exact k_)
   have p109 : Go p.tables e below _ (T105.setTop (mkF m 73 #[.val (.ref a1), .val (.ref a2), .val (.int (Int32.ofNat (1 + own_nl cs n))), .val (.int (Int32.ofNat (1 + own_nl cs i))), .val (.int (Int32.ofNat i))] [(.ref a1)])) := fun t_ k_ => p108 t_ (by
    refine XS.aloadN X105.here hx rfl (hb hby d8_72) rfl rfl ?_
    exact k_)
   obtain ⟨T110, X110, e110, st110⟩ := getF X105 hx hZ hown (host := "") (Or.inl (own_w hw 78 rfl)) Via.refl q105_hh S1 (g := (mkF m 73 #[.val (.ref a1), .val (.ref a2), .val (.int (Int32.ofNat (1 + own_nl cs n))), .val (.int (Int32.ofNat (1 + own_nl cs i))), .val (.int (Int32.ofNat i))] [(.ref a1)])) rfl rfl (hb hby d8_73)
   have p111 : Go p.tables e below _ (T110.setTop (mkF m 84 #[.val (.ref a1), .val (.ref a2), .val (.int (Int32.ofNat (1 + own_nl cs n))), .val (.int ((Int32.ofNat (1 + own_nl cs i)) + (1 : Int32))), .val (.int (Int32.ofNat i))] [(.int ((Int32.ofNat i) + (1 : Int32))), (.int (Int32.ofNat (1 + own_nl cs i))), (.ref bs)])) := fun t_ k_ => (gc p109 st110) t_ (by
    refine XS.iloadN X110.here hx rfl (hb hby d8_76) rfl ?_
    refine XS.iinc X110.here hx rfl (hb hby d8_77) rfl (l' := #[.val (.ref a1), .val (.ref a2), .val (.int (Int32.ofNat (1 + own_nl cs n))), .val (.int ((Int32.ofNat (1 + own_nl cs i)) + (1 : Int32))), .val (.int (Int32.ofNat i))]) rfl ?_
    refine XS.iload X110.here hx rfl (hb hby d8_80) rfl ?_
    refine XS.iconst X110.here hx rfl (hb hby d8_82) ?_
    refine XS.iadd X110.here hx rfl (hb hby d8_83) rfl ?_
    exact k_)
   obtain ⟨cl112, Ar112, q112, S112, Ng112, H112, G112⟩ := id V2
   have hin112 := inb_of S112 (j := (Int32.ofNat (1 + own_nl cs i))) ⟨own_nn32 (by omega), (own_lt32 (by omega) (by omega)).mpr (own_nl_lt cs hi c107)⟩
   obtain ⟨T112, h112, X112, e112, W112, st112⟩ := stI X110 hx hZ e110 Ar112 (j := (Int32.ofNat (1 + own_nl cs i))) hin112 (g := (mkF m 84 #[.val (.ref a1), .val (.ref a2), .val (.int (Int32.ofNat (1 + own_nl cs n))), .val (.int ((Int32.ofNat (1 + own_nl cs i)) + (1 : Int32))), .val (.int (Int32.ofNat i))] [(.int ((Int32.ofNat i) + (1 : Int32))), (.int (Int32.ofNat (1 + own_nl cs i))), (.ref bs)])) rfl rfl (hb hby d8_84)
   have K113 : Keep h0 h112 [bs] := (Keep.refl h0 [bs]).wr W112 (Or.inl (List.mem_of_getElem? (i := 0) rfl))
   have N112 := Fr.snoc X112 N105 gs
   have V112 : Arv Z h112 bs ks .int (Int32.ofNat (1 + own_nl cs n)) ((own_st cs n (i + 1)).map Value.int) (.int (0 : Int32)) := by
    have z := Arv.set Ar112 q112 S112 Ng112 H112 G112 rfl W112 (1 + own_nl cs i) (own_cl32 (by omega)) (by rw [List.length_map, own_st_len]; exact own_nl_lt cs hi c107)
    rw [show own_st cs n (i + 1) = (own_st cs n i).set (1 + own_nl cs i) (Int32.ofNat (i + 1)) by simp [own_st, c107], List.map_set, own_up1 i]; exact z
   have p114 : Go p.tables e below _ (T112.setTop (mkF m 52 #[.val (.ref a1), .val (.ref a2), .val (.int (Int32.ofNat (1 + own_nl cs n))), .val (.int ((Int32.ofNat (1 + own_nl cs i)) + (1 : Int32))), .val (.int ((Int32.ofNat i) + (1 : Int32)))] [])) := fun t_ k_ => (gc p111 st112) t_ (by
    refine XS.iinc X112.here hx rfl (hb hby d8_85) rfl (l' := #[.val (.ref a1), .val (.ref a2), .val (.int (Int32.ofNat (1 + own_nl cs n))), .val (.int ((Int32.ofNat (1 + own_nl cs i)) + (1 : Int32))), .val (.int ((Int32.ofNat i) + (1 : Int32)))]) rfl ?_
    refine XS.goto X112.here hx rfl (pc0 := 88) (pc' := 52) rfl (hb hby d8_88) (by decide) (by decide) ?_
    exact k_)
   have f115 := (O1.wr W112 gs)
   have f116 := (E2.wr W112)
   have f117 := (G1.other W112 (Or.inl m2))
   have f118 := (G2.other W112 (Or.inl m2))
   have f119 := (V1.other W112 m3)
   have f120 := (S1.other W112 (Or.inl m1))
   have f121 := (S2.other W112 (Or.inl m1))
   have f122 := (E1.wr W112)
   obtain ⟨T', h', lc', X', e', N', K', S1', S2', E1', V2', g'⟩ := ih (i + 1) T112 h112 _ (by omega) X112 e112 (Nat.le_trans Z0 K113.1) N112 f115 f116 f117 f118 f119 f120 f121 f122 V112  
   refine ⟨T', h', lc', X', e', N', K113.trans K' (allS (Or.inl (List.mem_of_getElem? (i := 0) rfl)) all0), S1', S2', E1', V2', fun t_ k_ => p114 t_ ?_⟩
   have z := g' t_ k_
   rw [own_nl_s cs i, if_pos c107, ← Nat.add_assoc, own_up1 (1 + own_nl cs i), own_up1 i] at z
   exact z
  ·have p123 : Go p.tables e below _ (T105.setTop (mkF m 85 #[.val (.ref a1), .val (.ref a2), .val (.int (Int32.ofNat (1 + own_nl cs n))), .val (.int (Int32.ofNat (1 + own_nl cs i))), .val (.int (Int32.ofNat i))] [])) := fun t_ k_ => p106 t_ (by
    refine XS.icmpYes X105.here hx rfl (pc0 := 69) (pc' := 85) rfl (hb hby d8_69) rfl (feq c107).2 (by decide) (by decide) ?_
    exact k_)
   have p124 : Go p.tables e below _ (T105.setTop (mkF m 52 #[.val (.ref a1), .val (.ref a2), .val (.int (Int32.ofNat (1 + own_nl cs n))), .val (.int (Int32.ofNat (1 + own_nl cs i))), .val (.int ((Int32.ofNat i) + (1 : Int32)))] [])) := fun t_ k_ => p123 t_ (by
    refine XS.iinc X105.here hx rfl (hb hby d8_85) rfl (l' := #[.val (.ref a1), .val (.ref a2), .val (.int (Int32.ofNat (1 + own_nl cs n))), .val (.int (Int32.ofNat (1 + own_nl cs i))), .val (.int ((Int32.ofNat i) + (1 : Int32)))]) rfl ?_
    refine XS.goto X105.here hx rfl (pc0 := 88) (pc' := 52) rfl (hb hby d8_88) (by decide) (by decide) ?_
    exact k_)
   have V9 : Arv Z h0 bs ks .int (Int32.ofNat (1 + own_nl cs n)) ((own_st cs n (i + 1)).map Value.int) (.int (0 : Int32)) := by rw [show own_st cs n (i + 1) = own_st cs n i by simp [own_st, c107]]; exact V2
   obtain ⟨T', h', lc', X', e', N', K', S1', S2', E1', V2', g'⟩ := ih (i + 1) T105 h0 _ (by omega) X105 q105_hh (Nat.le_trans Z0 (Keep.refl h0 [bs]).1) N105 O1 E2 G1 G2 V1 S1 S2 E1 V9  
   refine ⟨T', h', lc', X', e', N', (Keep.refl h0 [bs]).trans K' (allS (Or.inl (List.mem_of_getElem? (i := 0) rfl)) all0), S1', S2', E1', V2', fun t_ k_ => p124 t_ ?_⟩
   have z := g' t_ k_
   rw [own_nl_s cs i, if_neg c107, Nat.add_zero, own_up1 i] at z
   exact z
theorem d8_0 : decode prog_16_method_1_code 0 = .ok (.aload_n 0, 1) := by decide +kernel
theorem d8_1 : decode prog_16_method_1_code 1 = .ok (.invokespecial 1, 3) := by decide +kernel
theorem d8_4 : decode prog_16_method_1_code 4 = .ok (.aload_n 0, 1) := by decide +kernel
theorem d8_5 : decode prog_16_method_1_code 5 = .ok (.aload_n 1, 1) := by decide +kernel
theorem d8_6 : decode prog_16_method_1_code 6 = .ok (.putfield 7, 3) := by decide +kernel
theorem d8_9 : decode prog_16_method_1_code 9 = .ok (.iconst 1, 1) := by decide +kernel
theorem d8_10 : decode prog_16_method_1_code 10 = .ok (.istore_n 2, 1) := by decide +kernel
theorem d8_11 : decode prog_16_method_1_code 11 = .ok (.iconst 0, 1) := by decide +kernel
theorem d8_12 : decode prog_16_method_1_code 12 = .ok (.istore_n 3, 1) := by decide +kernel
theorem d8_40 : decode prog_16_method_1_code 40 = .ok (.aload_n 0, 1) := by decide +kernel
theorem d8_41 : decode prog_16_method_1_code 41 = .ok (.iload_n 2, 1) := by decide +kernel
theorem d8_42 : decode prog_16_method_1_code 42 = .ok (.newarray .int, 2) := by decide +kernel
theorem d8_44 : decode prog_16_method_1_code 44 = .ok (.putfield 23, 3) := by decide +kernel
theorem d8_47 : decode prog_16_method_1_code 47 = .ok (.iconst 1, 1) := by decide +kernel
theorem d8_48 : decode prog_16_method_1_code 48 = .ok (.istore_n 3, 1) := by decide +kernel
theorem d8_49 : decode prog_16_method_1_code 49 = .ok (.iconst 0, 1) := by decide +kernel
theorem d8_50 : decode prog_16_method_1_code 50 = .ok (.istore 4, 2) := by decide +kernel
theorem d8_91 : decode prog_16_method_1_code 91 = .ok (.return_, 1) := by decide +kernel
theorem pn8 : plainFor (⟨"com/example/subsume/subsume/model/Lines", "<init>", "(Ljava/lang/String;)V"⟩ : MethodName) = true := plainFor_of_name (by first | (simp [plainName, overriddenIn]; done) | decide +kernel)
theorem ef_rm8_0 (m : MethodId) (a1 : Addr) (a2 : Addr) (bv : Addr) (kv : ClassId) (z : Int32) (vs : List Value) (cs : List Int32) (n : Nat) (cs1 : Int32) (fm : Value) : entryFrame m #[(.ref a1), (.ref a2)] 5 = mkF m 0 #[.val (.ref a1), .val (.ref a2), .unset, .unset, .unset] [] := by first | (simp [entryFrame, mkF, argsToLocals, Value.category]; done) | rfl
def Q8_0 (Z : State) (a1 : Addr) (a2 : Addr) (bv : Addr) (kv : ClassId) (z : Int32) (vs : List Value) (cs : List Int32) (n : Nat) (cs1 : Int32) (fm : Value) (h0 : Heap) (n0 : Nat) (v : Option Value) (h : Heap) (L : List Loc) : Prop := ∃ (bs : Addr) (ks : ClassId), v = none ∧ Fr n0 L ∧ (Keep h0 h [a1]) ∧ (Exa Z h a1 "com/example/subsume/subsume/model/Lines") ∧ (Fld Z h a1 "com/example/subsume/subsume/model/Lines" "text" "Ljava/lang/String;" (.ref a2)) ∧ (Fld Z h a1 "com/example/subsume/subsume/model/Lines" "starts" "[I" (.ref bs)) ∧ (Arv Z h bs ks .int (Int32.ofNat (1 + own_nl cs n)) ((own_st cs n n).map Value.int) (.int (0 : Int32))) ∧ (n0 ≤ bs) ∧ (h0.size ≤ bs) ∧ (a1 ≠ bs)
set_option maxRecDepth 65536 in
set_option maxHeartbeats 40000000 in
theorem rm8_0 (l : Launch) (Z : State) (a0 : Array Value) (hw : ∀ d ∈ tables_1, d.before a0 Z = true) (ws : List Jvm.Cond) (a1 : Addr) (a2 : Addr) (bv : Addr) (kv : ClassId) (z : Int32) (vs : List Value) (cs : List Int32) (n : Nat) (cs1 : Int32) (fm : Value) (h0 : Heap) (n0 : Nat) (Z0 : n0 ≤ h0.size) (O1 : Old Z n0 h0) (G : own_G Z cs1 fm) (E2 : Exa Z h0 a2 "java/lang/String") (G1 : Fld Z h0 a2 "java/lang/String" "coder" "B" (.int (0 : Int32))) (G2 : Fld Z h0 a2 "java/lang/String" "value" "[B" (.ref bv)) (V1 : Arv Z h0 bv kv .byte z vs (.int (0 : Int32))) (S1 : Fld Z h0 a1 "com/example/subsume/subsume/model/Lines" "starts" "[I" .null) (S2 : Fld Z h0 a1 "com/example/subsume/subsume/model/Lines" "text" "Ljava/lang/String;" .null) (E1 : Exa Z h0 a1 "com/example/subsume/subsume/model/Lines") (g1 : n0 ≤ a1) (n1 : a1 ≠ a2) (n2 : a1 ≠ bv) (hz : (z >>> (0 : Int32)) = (Int32.ofNat n)) (hn : n ≤ 8) (HB : ∀ i, i < n → ∃ b : Int32, vs.getD ((Int32.ofNat i)).toNatClampNeg (.int (0 : Int32)) = .int b ∧ own_c8 b = own_at cs i) (hz0 : z = Int32.ofNat n) :
  MetFree l (⟨"com/example/subsume/subsume/model/Lines", "<init>", "(Ljava/lang/String;)V"⟩ : MethodName) (head1 (Jvm.Cond.code (⟨"com/example/subsume/subsume/model/Lines", "<init>", "(Ljava/lang/String;)V"⟩ : MethodName) prog_16_method_1_code 5 none :: ws) ({ frames := 6, cells := 1, slots := 9, locals := 150 } : Room)) (fun a U => a = #[(.ref a1), (.ref a2)] ∧ Z.Warmed39 U.vm ∧ U.heap = h0) (fun _ _ _ _ _ => True) (fun _ U o U' => ∃ v L, o = .returned v ∧ Q8_0 Z a1 a2 bv kv z vs cs n cs1 fm h0 n0 v U'.heap L ∧ FrameEnd U o U' L ({ frames := 6, cells := 1, slots := 9, locals := 150 } : Room).cells ({ frames := 6, cells := 1, slots := 9, locals := 150 } : Room).slots) := by
 refine MetFree.of_bodySF pn8 hisR ?_
 intro p e s m args below meth c s₁ Bd hml0 hP hK
 obtain ⟨rfl, hZ, hh⟩ := hP
 have hx := Bd.exec
 have hby := Bd.bytes
 have hml : c.maxLocals = 5 := hml0
 have hown : s.vm.findClass "com/example/subsume/subsume/model/Lines" = some m.cls := findClass_of_methodNamed Bd.named
 have hnm := (name_of_methodNamed Bd.named Bd.method).1
 have X0 : Stand p l e ({ frames := 6, cells := 1, slots := 9, locals := 150 } : Room) s m #[(.ref a1), (.ref a2)] below meth c s₁ [] 0 0 := Stand.of_body Bd
 have e0 : s₁.heap = h0 := by rw [← hh, Bd.state]; rfl
 have N0 := Fr.nil n0
 have p0 : Go p.tables e below (s₁.setTop (entryFrame m #[(.ref a1), (.ref a2)] 5)) (s₁.setTop (mkF m 0 #[.val (.ref a1), .val (.ref a2), .unset, .unset, .unset] [])) := fun t_ k_ => castTop (ef_rm8_0 m a1 a2 bv kv z vs cs n cs1 fm) k_
 have p101 : Go p.tables e below _ (s₁.setTop (mkF m 1 #[.val (.ref a1), .val (.ref a2), .unset, .unset, .unset] [(.ref a1)])) := fun t_ k_ => p0 t_ (by
  refine XS.aloadN X0.here hx rfl (hb hby d8_0) rfl rfl ?_
  exact k_)
 obtain ⟨T102, X102, e102, st102⟩ := initO X0 hx hZ hown (own_w hw 42 rfl) (own_w hw 17 rfl) (own_w hw 18 rfl) e0 (g := (mkF m 1 #[.val (.ref a1), .val (.ref a2), .unset, .unset, .unset] [(.ref a1)])) rfl (by rw [hml]; rfl) rfl (hb hby d8_1) (by decide) (W := 0) (by show 2 * 0 + _ ≤ _; exact Nat.le_of_eq rfl) (by decide)
 have p103 : Go p.tables e below _ (T102.setTop (mkF m 6 #[.val (.ref a1), .val (.ref a2), .unset, .unset, .unset] [(.ref a2), (.ref a1)])) := fun t_ k_ => (gc p101 st102) t_ (by
  refine XS.aloadN X102.here hx rfl (hb hby d8_4) rfl rfl ?_
  refine XS.aloadN X102.here hx rfl (hb hby d8_5) rfl rfl ?_
  exact k_)
 obtain ⟨T104, h104, X104, e104, W104, st104⟩ := putF X102 hx hZ hown (host := "") (Or.inl (own_w hw 43 rfl)) Via.refl e102 S2 E1 (Or.inr ⟨(own_w hw 44 rfl), rfl, hnm⟩) (own_w hw 37 rfl) (ty := (.object "java/lang/String")) (by decide) rfl rfl (g := (mkF m 6 #[.val (.ref a1), .val (.ref a2), .unset, .unset, .unset] [(.ref a2), (.ref a1)])) rfl rfl (hb hby d8_6)
 have K105 : Keep h0 h104 [a1] := (Keep.refl h0 [a1]).wr W104 (Or.inl (List.mem_of_getElem? (i := 0) rfl))
 have N104 := Fr.snoc X104 N0 g1
 have F104 : Fld Z h104 a1 "com/example/subsume/subsume/model/Lines" "text" "Ljava/lang/String;" (.ref a2) := S2.same W104
 have p106 : Go p.tables e below _ (T104.setTop (mkF m 13 #[.val (.ref a1), .val (.ref a2), .val (.int (1 : Int32)), .val (.int (0 : Int32)), .unset] [])) := fun t_ k_ => (gc p103 st104) t_ (by
  refine XS.iconst X104.here hx rfl (hb hby d8_9) ?_
  refine XS.istoreN X104.here hx rfl (hb hby d8_10) rfl (l' := #[.val (.ref a1), .val (.ref a2), .val (.int (1 : Int32)), .unset, .unset]) rfl ?_
  refine XS.iconst X104.here hx rfl (hb hby d8_11) ?_
  refine XS.istoreN X104.here hx rfl (hb hby d8_12) rfl (l' := #[.val (.ref a1), .val (.ref a2), .val (.int (1 : Int32)), .val (.int (0 : Int32)), .unset]) rfl ?_
  exact k_)
 have hnn := own_nl_le cs n
 have p108 : Go p.tables e below _ (T104.setTop (mkF m 13 #[.val (.ref a1), .val (.ref a2), .val (.int (Int32.ofNat (1 + own_nl cs 0))), .val (.int (Int32.ofNat 0)), .unset] [])) := p106
 have f109 := (O1.wr W104 g1)
 have f110 := (E2.wr W104)
 have f111 := (G1.other W104 (Or.inl (Ne.symm n1)))
 have f112 := (G2.other W104 (Or.inl (Ne.symm n1)))
 have f113 := (V1.other W104 (Ne.symm n2))
 obtain ⟨T107, L107, X107, e107, N107, g107⟩ := lpA0 Z a0 hx hZ hw hby hml hown a1 a2 bv kv z vs cs n cs1 fm h104 n0 (Nat.le_trans Z0 K105.1) f109 G f110 f111 f112 f113 hz hn HB hz0 n 0 T104 _ (by omega) X104 e104 N104
 have p114 : Go p.tables e below _ (T107.setTop (mkF m 40 #[.val (.ref a1), .val (.ref a2), .val (.int (Int32.ofNat (1 + own_nl cs n))), .val (.int (Int32.ofNat n)), .unset] [])) := fun t_ k_ => p108 t_ (g107 t_ k_)
 have p115 : Go p.tables e below _ (T107.setTop (mkF m 42 #[.val (.ref a1), .val (.ref a2), .val (.int (Int32.ofNat (1 + own_nl cs n))), .val (.int (Int32.ofNat n)), .unset] [(.int (Int32.ofNat (1 + own_nl cs n))), (.ref a1)])) := fun t_ k_ => p114 t_ (by
  refine XS.aloadN X107.here hx rfl (hb hby d8_40) rfl rfl ?_
  refine XS.iloadN X107.here hx rfl (hb hby d8_41) rfl ?_
  exact k_)
 obtain ⟨T116, h116, k116, X116, e116, E116, A116, st116⟩ := newP X107 hx hZ (own_w hw 77 rfl) e107 (g := (mkF m 42 #[.val (.ref a1), .val (.ref a2), .val (.int (Int32.ofNat (1 + own_nl cs n))), .val (.int (Int32.ofNat n)), .unset] [(.int (Int32.ofNat (1 + own_nl cs n))), (.ref a1)])) rfl (hb hby d8_42) rfl (own_nn32 (by omega)) (cap := 9) (by rw [own_cl32 (by omega)]; omega) (by decide) (by decide) (by decide)
 obtain ⟨b116, g116⟩ : ∃ z, z = h104.size := ⟨_, rfl⟩
 rw [← g116] at A116 st116
 have ne_a2_b116 : a2 ≠ b116 := Nat.ne_of_lt (Nat.lt_of_lt_of_le f110.lt (Nat.le_of_eq g116.symm))
 have ne_bv_b116 : bv ≠ b116 := Nat.ne_of_lt (Nat.lt_of_lt_of_le f113.lt (Nat.le_of_eq g116.symm))
 have f117 := (S1.other W104 (Or.inr (slot_ne (Or.inr (own_w hw 79 rfl)) (Or.inr (own_w hw 44 rfl)) (by decide) (t := (.array .int)) (t' := (.object "java/lang/String")) (by decide) (by decide))))
 have ne_a1_b116 : a1 ≠ b116 := Nat.ne_of_lt (Nat.lt_of_lt_of_le f117.lt (Nat.le_of_eq g116.symm))
 have ge_b116 : n0 ≤ b116 := Nat.le_trans (Nat.le_trans Z0 K105.1) (Nat.le_of_eq g116.symm)
 have sz_b116 : h0.size ≤ b116 := Nat.le_trans K105.1 (Nat.le_of_eq g116.symm)
 have K118 : Keep h0 h116 [a1] := K105.ext E116
 have V116 : Arv Z h116 b116 k116 .int (Int32.ofNat (1 + own_nl cs n)) [] (.int (0 : Int32)) := Arv.new A116 (own_nn32 (by omega))
 have f119 := (f117.ext E116)
 have f120 := ((E1.wr W104).ext E116)
 obtain ⟨T121, h121, X121, e121, W121, st121⟩ := putF X116 hx hZ hown (host := "") (Or.inl (own_w hw 78 rfl)) Via.refl e116 f119 f120 (Or.inr ⟨(own_w hw 79 rfl), rfl, hnm⟩) (own_w hw 37 rfl) (ty := (.array .int)) (by decide) rfl rfl (g := (mkF m 44 #[.val (.ref a1), .val (.ref a2), .val (.int (Int32.ofNat (1 + own_nl cs n))), .val (.int (Int32.ofNat n)), .unset] [(.ref b116), (.ref a1)])) rfl rfl (hb hby d8_44)
 have K122 : Keep h0 h121 [a1] := K118.wr W121 (Or.inl (List.mem_of_getElem? (i := 0) rfl))
 have N121 := Fr.snoc X121 N107 g1
 have F121 : Fld Z h121 a1 "com/example/subsume/subsume/model/Lines" "starts" "[I" (.ref b116) := f119.same W121
 have p123 : Go p.tables e below _ (T121.setTop (mkF m 52 #[.val (.ref a1), .val (.ref a2), .val (.int (Int32.ofNat (1 + own_nl cs n))), .val (.int (1 : Int32)), .val (.int (0 : Int32))] [])) := fun t_ k_ => (gc (gc p115 st116) st121) t_ (by
  refine XS.iconst X121.here hx rfl (hb hby d8_47) ?_
  refine XS.istoreN X121.here hx rfl (hb hby d8_48) rfl (l' := #[.val (.ref a1), .val (.ref a2), .val (.int (Int32.ofNat (1 + own_nl cs n))), .val (.int (1 : Int32)), .unset]) rfl ?_
  refine XS.iconst X121.here hx rfl (hb hby d8_49) ?_
  refine XS.istore X121.here hx rfl (hb hby d8_50) rfl (l' := #[.val (.ref a1), .val (.ref a2), .val (.int (Int32.ofNat (1 + own_nl cs n))), .val (.int (1 : Int32)), .val (.int (0 : Int32))]) rfl ?_
  exact k_)
 have p125 : Go p.tables e below _ (T121.setTop (mkF m 52 #[.val (.ref a1), .val (.ref a2), .val (.int (Int32.ofNat (1 + own_nl cs n))), .val (.int (Int32.ofNat (1 + own_nl cs 0))), .val (.int (Int32.ofNat 0))] [])) := p123
 have f126 := (V116.other W121 (Ne.symm ne_a1_b116))
 have vs0 : Arv Z h121 b116 k116 .int (Int32.ofNat (1 + own_nl cs n)) ((own_st cs n 0).map Value.int) (.int (0 : Int32)) := f126.pad (by intro i; have z := pad_rep [] (Value.int (0 : Int32)) (1 + own_nl cs n) i; simpa [own_st, List.map_replicate] using z)
 have f127 := ((f109.ext E116).wr W121 g1)
 have f128 := ((f110.ext E116).wr W121)
 have f129 := ((f111.ext E116).other W121 (Or.inl (Ne.symm n1)))
 have f130 := ((f112.ext E116).other W121 (Or.inl (Ne.symm n1)))
 have f131 := ((f113.ext E116).other W121 (Ne.symm n2))
 have f132 := ((F104.ext E116).other W121 (Or.inr (slot_ne (Or.inr (own_w hw 44 rfl)) (Or.inr (own_w hw 79 rfl)) (by decide) (t := (.object "java/lang/String")) (t' := (.array .int)) (by decide) (by decide))))
 have f133 := (f120.wr W121)
 obtain ⟨T124, h124, lc124, X124, e124, N124, K124, S1124, S2124, E1124, V2124, g124⟩ := lpB0 Z a0 hx hZ hw hby hml hown a1 a2 bv kv z vs cs n cs1 fm b116 k116 n0 G hz hn HB hz0 ne_a1_b116 ne_a2_b116 ne_bv_b116 ge_b116  n 0 T121 h121 _ (by omega) X121 e121 (Nat.le_trans Z0 K122.1) N121 f127 f128 f129 f130 f131 F121 f132 f133 vs0
 have K134 : Keep h0 h124 [a1] := K122.trans K124 (allS (Or.inr sz_b116) all0)
 have p135 : Go p.tables e below _ (T124.setTop (mkF m 91 #[.val (.ref a1), .val (.ref a2), .val (.int (Int32.ofNat (1 + own_nl cs n))), .val (.int (Int32.ofNat (1 + own_nl cs n))), .val (.int (Int32.ofNat n))] [])) := fun t_ k_ => p125 t_ (g124 t_ k_)
 obtain ⟨fs, hr, hrun, hended, hW, hsame⟩ := X124.leave (v := none) (fun _ => rfl)
 refine ⟨_, _, p135 _ (X124.returnOut hx Bd.returns (hb hby d8_91) hr), hrun, hended, _, _, rfl, ?_, ⟨_, rfl⟩, hW, hsame.mono (by decide) (by decide)⟩
 show Q8_0 Z a1 a2 bv kv z vs cs n cs1 fm h0 n0 _ T124.heap _
 rw [e124]
 exact ⟨b116, k116, rfl, N124, K134, E1124, S2124, S1124, V2124, ge_b116, sz_b116, ne_a1_b116⟩
set_option maxRecDepth 65536 in
set_option maxHeartbeats 40000000 in
theorem lpA1 {p : Program} {l : Launch} {e : Env} {s : State} {m : MethodId} {args : Array Value} {below : List Frame} {meth : Method} {c : Code} (Z : State) (a0 : Array Value) (hx : p.tables.exec = Jvm.exec) (hZ : Z.Warmed39 s.vm) (hw : ∀ d ∈ tables_1, d.before a0 Z = true) (hby : c.code = prog_16_method_1_code) (hml : c.maxLocals = 5) (hown : s.vm.findClass "com/example/subsume/subsume/model/Lines" = some m.cls) (a1 : Addr) (a2 : Addr) (bv : Addr) (kv : ClassId) (z : Int32) (vs : List Value) (cs : List Int32) (n : Nat) (cs1 : Int32) (fm : Value) (h0 : Heap) (n0 : Nat) (Z0 : n0 ≤ h0.size) (O1 : Old Z n0 h0) (G : own_G Z cs1 fm) (E2 : Exa Z h0 a2 "java/lang/String") (G1 : Fld Z h0 a2 "java/lang/String" "coder" "B" (.int (1 : Int32))) (G2 : Fld Z h0 a2 "java/lang/String" "value" "[B" (.ref bv)) (V1 : Arv Z h0 bv kv .byte z vs (.int (0 : Int32))) (hz : (z >>> (1 : Int32)) = (Int32.ofNat n)) (hn : n ≤ 8) (HB : ∀ i, i < n → ∃ b0 b1 : Int32, (¬ ((Int32.ofNat i) <<< (1 : Int32)) < 0 ∧ ((Int32.ofNat i) <<< (1 : Int32)) < z) ∧ (¬ (((Int32.ofNat i) <<< (1 : Int32)) + (1 : Int32)) < 0 ∧ (((Int32.ofNat i) <<< (1 : Int32)) + (1 : Int32)) < z) ∧ vs.getD (((Int32.ofNat i) <<< (1 : Int32))).toNatClampNeg (.int (0 : Int32)) = .int b0 ∧ vs.getD ((((Int32.ofNat i) <<< (1 : Int32)) + (1 : Int32))).toNatClampNeg (.int (0 : Int32)) = .int b1 ∧ own_c16 b0 b1 = own_at cs i) : ∀ (k i : Nat) (T : State) (locs : List Loc), i + k = n → Stand p l e ({ frames := 6, cells := 1, slots := 9, locals := 150 } : Room) s m args below meth c T locs 0 0 → T.heap = h0 → Fr n0 locs → ∃ (T' : State) (L' : List Loc), Stand p l e ({ frames := 6, cells := 1, slots := 9, locals := 150 } : Room) s m args below meth c T' L' 0 0 ∧ T'.heap = h0 ∧ Fr n0 L' ∧ Go p.tables e below (T.setTop (mkF m 13 #[.val (.ref a1), .val (.ref a2), .val (.int (Int32.ofNat (1 + own_nl cs i))), .val (.int (Int32.ofNat i)), .unset] [])) (T'.setTop (mkF m 40 #[.val (.ref a1), .val (.ref a2), .val (.int (Int32.ofNat (1 + own_nl cs n))), .val (.int (Int32.ofNat n)), .unset] [])) := by
 intro k
 induction k with
 | zero =>
  intro i T locs hk X0 e0 N0
  have hin : i = n := by omega
  have hnl := own_nl_le cs i
  have p0 : Go p.tables e below (T.setTop (mkF m 13 #[.val (.ref a1), .val (.ref a2), .val (.int (Int32.ofNat (1 + own_nl cs i))), .val (.int (Int32.ofNat i)), .unset] [])) (T.setTop (mkF m 13 #[.val (.ref a1), .val (.ref a2), .val (.int (Int32.ofNat (1 + own_nl cs i))), .val (.int (Int32.ofNat i)), .unset] [])) := fun t_ k_ => k_
  have p101 : Go p.tables e below _ (T.setTop (mkF m 15 #[.val (.ref a1), .val (.ref a2), .val (.int (Int32.ofNat (1 + own_nl cs i))), .val (.int (Int32.ofNat i)), .unset] [(.ref a2), (.int (Int32.ofNat i))])) := fun t_ k_ => p0 t_ (by
   refine XS.iloadN X0.here hx rfl (hb hby d8_13) rfl ?_
   refine XS.aloadN X0.here hx rfl (hb hby d8_14) rfl rfl ?_
   exact k_)
  obtain ⟨cq102, kq102, q102a, q102b, q102c⟩ := isOf hZ e0 E2
  obtain ⟨_, _, ⟨T102, L102, k102, n102⟩, -, X102, ⟨Lc102, hQ102, l102, y102, z102⟩, st102⟩ := X0.virtualBack hx (y := (⟨"java/lang/String", "length", "()I"⟩ : MethodName)) (z := (⟨"java/lang/String", "length", "()I"⟩ : MethodName)) hown (mvT hZ (own_w hw 45 rfl)) (mvT hZ (own_w hw 46 rfl)) (notFace_of_selects (args := #[]) (mvT hZ (own_w hw 48 rfl))) (mvT hZ (own_w hw 48 rfl)) (mvT hZ (own_w hw 47 rfl)) (by decide) (backOf (W := 1) (rm9_1 l Z a0 hw [] a2 (Int32.ofNat n) bv kv z vs cs1 fm h0 n0 (Nat.le_trans Z0 (Keep.refl h0 []).1) O1 G E2 G1 G2 V1 hz) hZ (own_w hw 49 rfl) (own_w hw 8 rfl) (by decide) (by decide)) q102a q102c (g := (mkF m 15 #[.val (.ref a1), .val (.ref a2), .val (.int (Int32.ofNat (1 + own_nl cs i))), .val (.int (Int32.ofNat i)), .unset] [(.ref a2), (.int (Int32.ofNat i))])) rfl (by rw [hml]; rfl) (Steps.refl _) (argsL := []) (rest := [(.int (Int32.ofNat i))]) (lenOf pd14 rfl) rfl (by show 2 * 0 + _ ≤ _; exact Nat.le_of_eq rfl) (hb hby d8_15) (fun _ _ => ⟨rfl, e0, (by decide : 0 + 0 ≤ _), (by decide : 0 + 0 ≤ _)⟩)
  dsimp only [Pt.U, Pt.locs, Pt.cells, Pt.slots] at X102 l102 y102 z102 st102 hQ102
  subst l102 y102 z102
  obtain ⟨rfl, N102q, q102_hh⟩ := hQ102
  have N102 := Fr.app N0 N102q
  have c103 : ¬ ((Int32.ofNat i) < (Int32.ofNat n)) := (fun q => by rw [own_lt32 (by omega) (by omega)] at q; omega)
  have p104 : Go p.tables e below _ (T102.setTop (mkF m 40 #[.val (.ref a1), .val (.ref a2), .val (.int (Int32.ofNat (1 + own_nl cs i))), .val (.int (Int32.ofNat i)), .unset] [])) := fun t_ k_ => (gcT p101 st102) t_ (by
   refine XS.icmpYes X102.here hx rfl (pc0 := 18) (pc' := 40) rfl (hb hby d8_18) rfl (flt c103).2.1 (by decide) (by decide) ?_
   exact k_)
  exact ⟨_, _, X102, q102_hh, N102, by have z := p104; rw [hin] at z ⊢; exact z⟩
 | succ k ih =>
  intro i T locs hk X0 e0 N0
  have hi : i < n := by omega
  have hnl := own_nl_le cs i
  have p0 : Go p.tables e below (T.setTop (mkF m 13 #[.val (.ref a1), .val (.ref a2), .val (.int (Int32.ofNat (1 + own_nl cs i))), .val (.int (Int32.ofNat i)), .unset] [])) (T.setTop (mkF m 13 #[.val (.ref a1), .val (.ref a2), .val (.int (Int32.ofNat (1 + own_nl cs i))), .val (.int (Int32.ofNat i)), .unset] [])) := fun t_ k_ => k_
  have p101 : Go p.tables e below _ (T.setTop (mkF m 15 #[.val (.ref a1), .val (.ref a2), .val (.int (Int32.ofNat (1 + own_nl cs i))), .val (.int (Int32.ofNat i)), .unset] [(.ref a2), (.int (Int32.ofNat i))])) := fun t_ k_ => p0 t_ (by
   refine XS.iloadN X0.here hx rfl (hb hby d8_13) rfl ?_
   refine XS.aloadN X0.here hx rfl (hb hby d8_14) rfl rfl ?_
   exact k_)
  obtain ⟨cq102, kq102, q102a, q102b, q102c⟩ := isOf hZ e0 E2
  obtain ⟨_, _, ⟨T102, L102, k102, n102⟩, -, X102, ⟨Lc102, hQ102, l102, y102, z102⟩, st102⟩ := X0.virtualBack hx (y := (⟨"java/lang/String", "length", "()I"⟩ : MethodName)) (z := (⟨"java/lang/String", "length", "()I"⟩ : MethodName)) hown (mvT hZ (own_w hw 45 rfl)) (mvT hZ (own_w hw 46 rfl)) (notFace_of_selects (args := #[]) (mvT hZ (own_w hw 48 rfl))) (mvT hZ (own_w hw 48 rfl)) (mvT hZ (own_w hw 47 rfl)) (by decide) (backOf (W := 1) (rm9_1 l Z a0 hw [] a2 (Int32.ofNat n) bv kv z vs cs1 fm h0 n0 (Nat.le_trans Z0 (Keep.refl h0 []).1) O1 G E2 G1 G2 V1 hz) hZ (own_w hw 49 rfl) (own_w hw 8 rfl) (by decide) (by decide)) q102a q102c (g := (mkF m 15 #[.val (.ref a1), .val (.ref a2), .val (.int (Int32.ofNat (1 + own_nl cs i))), .val (.int (Int32.ofNat i)), .unset] [(.ref a2), (.int (Int32.ofNat i))])) rfl (by rw [hml]; rfl) (Steps.refl _) (argsL := []) (rest := [(.int (Int32.ofNat i))]) (lenOf pd14 rfl) rfl (by show 2 * 0 + _ ≤ _; exact Nat.le_of_eq rfl) (hb hby d8_15) (fun _ _ => ⟨rfl, e0, (by decide : 0 + 0 ≤ _), (by decide : 0 + 0 ≤ _)⟩)
  dsimp only [Pt.U, Pt.locs, Pt.cells, Pt.slots] at X102 l102 y102 z102 st102 hQ102
  subst l102 y102 z102
  obtain ⟨rfl, N102q, q102_hh⟩ := hQ102
  have N102 := Fr.app N0 N102q
  have c103 : ((Int32.ofNat i) < (Int32.ofNat n)) := (own_lt32 (by omega) (by omega)).mpr hi
  have p104 : Go p.tables e below _ (T102.setTop (mkF m 23 #[.val (.ref a1), .val (.ref a2), .val (.int (Int32.ofNat (1 + own_nl cs i))), .val (.int (Int32.ofNat i)), .unset] [(.int (Int32.ofNat i)), (.ref a2)])) := fun t_ k_ => (gcT p101 st102) t_ (by
   refine XS.icmpNo X102.here hx rfl (hb hby d8_18) rfl (tlt c103).2.1 ?_
   refine XS.aloadN X102.here hx rfl (hb hby d8_21) rfl rfl ?_
   refine XS.iloadN X102.here hx rfl (hb hby d8_22) rfl ?_
   exact k_)
  obtain ⟨b0, b1, i0, i1, g0, g1, hc⟩ := HB i hi
  obtain ⟨cq105, kq105, q105a, q105b, q105c⟩ := isOf hZ q102_hh E2
  obtain ⟨_, _, ⟨T105, L105, k105, n105⟩, -, X105, ⟨Lc105, hQ105, l105, y105, z105⟩, st105⟩ := X102.virtualBack hx (y := (⟨"java/lang/String", "charAt", "(I)C"⟩ : MethodName)) (z := (⟨"java/lang/String", "charAt", "(I)C"⟩ : MethodName)) hown (mvT hZ (own_w hw 55 rfl)) (mvT hZ (own_w hw 56 rfl)) (notFace_of_selects (args := #[]) (mvT hZ (own_w hw 58 rfl))) (mvT hZ (own_w hw 58 rfl)) (mvT hZ (own_w hw 57 rfl)) (by decide) (backOf (W := 0) (rm11_1 l Z a0 hw [] a2 (Int32.ofNat i) bv kv z vs b0 b1 (own_at cs i) cs1 fm h0 n0 (Nat.le_trans Z0 (Keep.refl h0 []).1) O1 G E2 G1 G2 V1 (own_nn32 (by omega)) (by rw [hz]; exact (own_lt32 (by omega) (by omega)).mpr hi) i0 i1 g0 g1 hc) hZ (own_w hw 59 rfl) (own_w hw 8 rfl) (by decide) (by decide)) q105a q105c (g := (mkF m 23 #[.val (.ref a1), .val (.ref a2), .val (.int (Int32.ofNat (1 + own_nl cs i))), .val (.int (Int32.ofNat i)), .unset] [(.int (Int32.ofNat i)), (.ref a2)])) rfl (by rw [hml]; rfl) (Steps.refl _) (argsL := [(.int (Int32.ofNat i))]) (rest := []) (lenOf pd15 rfl) rfl (by show 2 * 0 + _ ≤ _; exact Nat.le_of_eq rfl) (hb hby d8_23) (fun _ _ => ⟨rfl, q102_hh, (by decide : 0 + 0 ≤ _), (by decide : 0 + 0 ≤ _)⟩)
  dsimp only [Pt.U, Pt.locs, Pt.cells, Pt.slots] at X105 l105 y105 z105 st105 hQ105
  subst l105 y105 z105
  obtain ⟨rfl, N105q, q105_hh⟩ := hQ105
  have N105 := Fr.app N102 N105q
  have p106 : Go p.tables e below _ (T105.setTop (mkF m 28 #[.val (.ref a1), .val (.ref a2), .val (.int (Int32.ofNat (1 + own_nl cs i))), .val (.int (Int32.ofNat i)), .unset] [(.int (10 : Int32)), (.int (own_at cs i))])) := fun t_ k_ => (gcT p104 st105) t_ (by
   refine XS.bipush X105.here hx rfl (hb hby d8_26) ?_
   exact k_)
  by_cases c107 : (own_at cs i) = (10 : Int32)
  ·have p108 : Go p.tables e below _ (T105.setTop (mkF m 31 #[.val (.ref a1), .val (.ref a2), .val (.int (Int32.ofNat (1 + own_nl cs i))), .val (.int (Int32.ofNat i)), .unset] [])) := fun t_ k_ => p106 t_ (by
    refine XS.icmpNo X105.here hx rfl (hb hby d8_28) rfl (teq c107).2 ?_
    exact k_)
   have p109 : Go p.tables e below _ (T105.setTop (mkF m 13 #[.val (.ref a1), .val (.ref a2), .val (.int ((Int32.ofNat (1 + own_nl cs i)) + (1 : Int32))), .val (.int ((Int32.ofNat i) + (1 : Int32))), .unset] [])) := fun t_ k_ => p108 t_ (by
    refine XS.iinc X105.here hx rfl (hb hby d8_31) rfl (l' := #[.val (.ref a1), .val (.ref a2), .val (.int ((Int32.ofNat (1 + own_nl cs i)) + (1 : Int32))), .val (.int (Int32.ofNat i)), .unset]) rfl ?_
    refine XS.iinc X105.here hx rfl (hb hby d8_34) rfl (l' := #[.val (.ref a1), .val (.ref a2), .val (.int ((Int32.ofNat (1 + own_nl cs i)) + (1 : Int32))), .val (.int ((Int32.ofNat i) + (1 : Int32))), .unset]) rfl ?_
    refine XS.goto X105.here hx rfl (pc0 := 37) (pc' := 13) rfl (hb hby d8_37) (by decide) (by decide) ?_
    exact k_)
   obtain ⟨T', L', X', e', N', g'⟩ := ih (i + 1) T105 _ (by omega) X105 q105_hh N105
   refine ⟨T', L', X', e', N', fun t_ k_ => p109 t_ ?_⟩
   have z := g' t_ k_
   rw [own_nl_s, if_pos c107, ← Nat.add_assoc, own_up1 (1 + own_nl cs i), own_up1 i] at z
   exact z
  ·have p110 : Go p.tables e below _ (T105.setTop (mkF m 34 #[.val (.ref a1), .val (.ref a2), .val (.int (Int32.ofNat (1 + own_nl cs i))), .val (.int (Int32.ofNat i)), .unset] [])) := fun t_ k_ => p106 t_ (by
    refine XS.icmpYes X105.here hx rfl (pc0 := 28) (pc' := 34) rfl (hb hby d8_28) rfl (feq c107).2 (by decide) (by decide) ?_
    exact k_)
   have p111 : Go p.tables e below _ (T105.setTop (mkF m 13 #[.val (.ref a1), .val (.ref a2), .val (.int (Int32.ofNat (1 + own_nl cs i))), .val (.int ((Int32.ofNat i) + (1 : Int32))), .unset] [])) := fun t_ k_ => p110 t_ (by
    refine XS.iinc X105.here hx rfl (hb hby d8_34) rfl (l' := #[.val (.ref a1), .val (.ref a2), .val (.int (Int32.ofNat (1 + own_nl cs i))), .val (.int ((Int32.ofNat i) + (1 : Int32))), .unset]) rfl ?_
    refine XS.goto X105.here hx rfl (pc0 := 37) (pc' := 13) rfl (hb hby d8_37) (by decide) (by decide) ?_
    exact k_)
   obtain ⟨T', L', X', e', N', g'⟩ := ih (i + 1) T105 _ (by omega) X105 q105_hh N105
   refine ⟨T', L', X', e', N', fun t_ k_ => p111 t_ ?_⟩
   have z := g' t_ k_
   rw [own_nl_s, if_neg c107, Nat.add_zero, own_up1 i] at z
   exact z
set_option maxRecDepth 65536 in
set_option maxHeartbeats 40000000 in
theorem lpB1 {p : Program} {l : Launch} {e : Env} {s : State} {m : MethodId} {args : Array Value} {below : List Frame} {meth : Method} {c : Code} (Z : State) (a0 : Array Value) (hx : p.tables.exec = Jvm.exec) (hZ : Z.Warmed39 s.vm) (hw : ∀ d ∈ tables_1, d.before a0 Z = true) (hby : c.code = prog_16_method_1_code) (hml : c.maxLocals = 5) (hown : s.vm.findClass "com/example/subsume/subsume/model/Lines" = some m.cls) (a1 : Addr) (a2 : Addr) (bv : Addr) (kv : ClassId) (z : Int32) (vs : List Value) (cs : List Int32) (n : Nat) (cs1 : Int32) (fm : Value) (bs : Addr) (ks : ClassId) (n0 : Nat) (G : own_G Z cs1 fm) (hz : (z >>> (1 : Int32)) = (Int32.ofNat n)) (hn : n ≤ 8) (HB : ∀ i, i < n → ∃ b0 b1 : Int32, (¬ ((Int32.ofNat i) <<< (1 : Int32)) < 0 ∧ ((Int32.ofNat i) <<< (1 : Int32)) < z) ∧ (¬ (((Int32.ofNat i) <<< (1 : Int32)) + (1 : Int32)) < 0 ∧ (((Int32.ofNat i) <<< (1 : Int32)) + (1 : Int32)) < z) ∧ vs.getD (((Int32.ofNat i) <<< (1 : Int32))).toNatClampNeg (.int (0 : Int32)) = .int b0 ∧ vs.getD ((((Int32.ofNat i) <<< (1 : Int32)) + (1 : Int32))).toNatClampNeg (.int (0 : Int32)) = .int b1 ∧ own_c16 b0 b1 = own_at cs i) (m1 : a1 ≠ bs) (m2 : a2 ≠ bs) (m3 : bv ≠ bs) (gs : n0 ≤ bs) : ∀ (k i : Nat) (T : State) (h0 : Heap) (locs : List Loc), i + k = n → Stand p l e ({ frames := 6, cells := 1, slots := 9, locals := 150 } : Room) s m args below meth c T locs 1 9 → T.heap = h0 → n0 ≤ h0.size → Fr n0 locs → Old Z n0 h0 → Exa Z h0 a2 "java/lang/String" → Fld Z h0 a2 "java/lang/String" "coder" "B" (.int (1 : Int32)) → Fld Z h0 a2 "java/lang/String" "value" "[B" (.ref bv) → Arv Z h0 bv kv .byte z vs (.int (0 : Int32)) → Fld Z h0 a1 "com/example/subsume/subsume/model/Lines" "starts" "[I" (.ref bs) → Fld Z h0 a1 "com/example/subsume/subsume/model/Lines" "text" "Ljava/lang/String;" (.ref a2) → Exa Z h0 a1 "com/example/subsume/subsume/model/Lines" → Arv Z h0 bs ks .int (Int32.ofNat (1 + own_nl cs n)) ((own_st cs n i).map Value.int) (.int (0 : Int32)) → ∃ (T' : State) (h' : Heap) (lc : List Loc), Stand p l e ({ frames := 6, cells := 1, slots := 9, locals := 150 } : Room) s m args below meth c T' lc 1 9 ∧ T'.heap = h' ∧ Fr n0 lc ∧ Keep h0 h' [bs] ∧ Fld Z h' a1 "com/example/subsume/subsume/model/Lines" "starts" "[I" (.ref bs) ∧ Fld Z h' a1 "com/example/subsume/subsume/model/Lines" "text" "Ljava/lang/String;" (.ref a2) ∧ Exa Z h' a1 "com/example/subsume/subsume/model/Lines" ∧ Arv Z h' bs ks .int (Int32.ofNat (1 + own_nl cs n)) ((own_st cs n n).map Value.int) (.int (0 : Int32)) ∧ Go p.tables e below (T.setTop (mkF m 52 #[.val (.ref a1), .val (.ref a2), .val (.int (Int32.ofNat (1 + own_nl cs n))), .val (.int (Int32.ofNat (1 + own_nl cs i))), .val (.int (Int32.ofNat i))] [])) (T'.setTop (mkF m 91 #[.val (.ref a1), .val (.ref a2), .val (.int (Int32.ofNat (1 + own_nl cs n))), .val (.int (Int32.ofNat (1 + own_nl cs n))), .val (.int (Int32.ofNat n))] [])) := by
 intro k
 induction k with
 | zero =>
  intro i T h0 locs hk X0 e0 Z0 N0 O1 E2 G1 G2 V1 S1 S2 E1 V2
  have hin : i = n := by omega
  have hnl := own_nl_le cs i
  have hnn := own_nl_le cs n
  have p0 : Go p.tables e below (T.setTop (mkF m 52 #[.val (.ref a1), .val (.ref a2), .val (.int (Int32.ofNat (1 + own_nl cs n))), .val (.int (Int32.ofNat (1 + own_nl cs i))), .val (.int (Int32.ofNat i))] [])) (T.setTop (mkF m 52 #[.val (.ref a1), .val (.ref a2), .val (.int (Int32.ofNat (1 + own_nl cs n))), .val (.int (Int32.ofNat (1 + own_nl cs i))), .val (.int (Int32.ofNat i))] [])) := fun t_ k_ => k_
  have p101 : Go p.tables e below _ (T.setTop (mkF m 55 #[.val (.ref a1), .val (.ref a2), .val (.int (Int32.ofNat (1 + own_nl cs n))), .val (.int (Int32.ofNat (1 + own_nl cs i))), .val (.int (Int32.ofNat i))] [(.ref a2), (.int (Int32.ofNat i))])) := fun t_ k_ => p0 t_ (by
   refine XS.iload X0.here hx rfl (hb hby d8_52) rfl ?_
   refine XS.aloadN X0.here hx rfl (hb hby d8_54) rfl rfl ?_
   exact k_)
  obtain ⟨cq102, kq102, q102a, q102b, q102c⟩ := isOf hZ e0 E2
  obtain ⟨_, _, ⟨T102, L102, k102, n102⟩, -, X102, ⟨Lc102, hQ102, l102, y102, z102⟩, st102⟩ := X0.virtualBack hx (y := (⟨"java/lang/String", "length", "()I"⟩ : MethodName)) (z := (⟨"java/lang/String", "length", "()I"⟩ : MethodName)) hown (mvT hZ (own_w hw 45 rfl)) (mvT hZ (own_w hw 46 rfl)) (notFace_of_selects (args := #[]) (mvT hZ (own_w hw 48 rfl))) (mvT hZ (own_w hw 48 rfl)) (mvT hZ (own_w hw 47 rfl)) (by decide) (backOf (W := 1) (rm9_1 l Z a0 hw [] a2 (Int32.ofNat n) bv kv z vs cs1 fm h0 n0 (Nat.le_trans Z0 (Keep.refl h0 [bs]).1) O1 G E2 G1 G2 V1 hz) hZ (own_w hw 49 rfl) (own_w hw 8 rfl) (by decide) (by decide)) q102a q102c (g := (mkF m 55 #[.val (.ref a1), .val (.ref a2), .val (.int (Int32.ofNat (1 + own_nl cs n))), .val (.int (Int32.ofNat (1 + own_nl cs i))), .val (.int (Int32.ofNat i))] [(.ref a2), (.int (Int32.ofNat i))])) rfl (by rw [hml]; rfl) (Steps.refl _) (argsL := []) (rest := [(.int (Int32.ofNat i))]) (lenOf pd14 rfl) rfl (by show 2 * 0 + _ ≤ _; exact Nat.le_of_eq rfl) (hb hby d8_55) (fun _ _ => ⟨rfl, e0, (by decide : 1 + 0 ≤ _), (by decide : 9 + 0 ≤ _)⟩)
  dsimp only [Pt.U, Pt.locs, Pt.cells, Pt.slots] at X102 l102 y102 z102 st102 hQ102
  subst l102 y102 z102
  obtain ⟨rfl, N102q, q102_hh⟩ := hQ102
  have N102 := Fr.app N0 N102q
  have c103 : ¬ ((Int32.ofNat i) < (Int32.ofNat n)) := (fun q => by rw [own_lt32 (by omega) (by omega)] at q; omega)
  have p104 : Go p.tables e below _ (T102.setTop (mkF m 91 #[.val (.ref a1), .val (.ref a2), .val (.int (Int32.ofNat (1 + own_nl cs n))), .val (.int (Int32.ofNat (1 + own_nl cs i))), .val (.int (Int32.ofNat i))] [])) := fun t_ k_ => (gcT p101 st102) t_ (by
   refine XS.icmpYes X102.here hx rfl (pc0 := 58) (pc' := 91) rfl (hb hby d8_58) rfl (flt c103).2.1 (by decide) (by decide) ?_
   exact k_)
  subst hin; exact ⟨_, _, _, X102, q102_hh, N102, (Keep.refl h0 [bs]), S1, S2, E1, V2, p104⟩
 | succ k ih =>
  intro i T h0 locs hk X0 e0 Z0 N0 O1 E2 G1 G2 V1 S1 S2 E1 V2
  have hi : i < n := by omega
  have hnl := own_nl_le cs i
  have hnn := own_nl_le cs n
  have p0 : Go p.tables e below (T.setTop (mkF m 52 #[.val (.ref a1), .val (.ref a2), .val (.int (Int32.ofNat (1 + own_nl cs n))), .val (.int (Int32.ofNat (1 + own_nl cs i))), .val (.int (Int32.ofNat i))] [])) (T.setTop (mkF m 52 #[.val (.ref a1), .val (.ref a2), .val (.int (Int32.ofNat (1 + own_nl cs n))), .val (.int (Int32.ofNat (1 + own_nl cs i))), .val (.int (Int32.ofNat i))] [])) := fun t_ k_ => k_
  have p101 : Go p.tables e below _ (T.setTop (mkF m 55 #[.val (.ref a1), .val (.ref a2), .val (.int (Int32.ofNat (1 + own_nl cs n))), .val (.int (Int32.ofNat (1 + own_nl cs i))), .val (.int (Int32.ofNat i))] [(.ref a2), (.int (Int32.ofNat i))])) := fun t_ k_ => p0 t_ (by
   refine XS.iload X0.here hx rfl (hb hby d8_52) rfl ?_
   refine XS.aloadN X0.here hx rfl (hb hby d8_54) rfl rfl ?_
   exact k_)
  obtain ⟨cq102, kq102, q102a, q102b, q102c⟩ := isOf hZ e0 E2
  obtain ⟨_, _, ⟨T102, L102, k102, n102⟩, -, X102, ⟨Lc102, hQ102, l102, y102, z102⟩, st102⟩ := X0.virtualBack hx (y := (⟨"java/lang/String", "length", "()I"⟩ : MethodName)) (z := (⟨"java/lang/String", "length", "()I"⟩ : MethodName)) hown (mvT hZ (own_w hw 45 rfl)) (mvT hZ (own_w hw 46 rfl)) (notFace_of_selects (args := #[]) (mvT hZ (own_w hw 48 rfl))) (mvT hZ (own_w hw 48 rfl)) (mvT hZ (own_w hw 47 rfl)) (by decide) (backOf (W := 1) (rm9_1 l Z a0 hw [] a2 (Int32.ofNat n) bv kv z vs cs1 fm h0 n0 (Nat.le_trans Z0 (Keep.refl h0 [bs]).1) O1 G E2 G1 G2 V1 hz) hZ (own_w hw 49 rfl) (own_w hw 8 rfl) (by decide) (by decide)) q102a q102c (g := (mkF m 55 #[.val (.ref a1), .val (.ref a2), .val (.int (Int32.ofNat (1 + own_nl cs n))), .val (.int (Int32.ofNat (1 + own_nl cs i))), .val (.int (Int32.ofNat i))] [(.ref a2), (.int (Int32.ofNat i))])) rfl (by rw [hml]; rfl) (Steps.refl _) (argsL := []) (rest := [(.int (Int32.ofNat i))]) (lenOf pd14 rfl) rfl (by show 2 * 0 + _ ≤ _; exact Nat.le_of_eq rfl) (hb hby d8_55) (fun _ _ => ⟨rfl, e0, (by decide : 1 + 0 ≤ _), (by decide : 9 + 0 ≤ _)⟩)
  dsimp only [Pt.U, Pt.locs, Pt.cells, Pt.slots] at X102 l102 y102 z102 st102 hQ102
  subst l102 y102 z102
  obtain ⟨rfl, N102q, q102_hh⟩ := hQ102
  have N102 := Fr.app N0 N102q
  have c103 : ((Int32.ofNat i) < (Int32.ofNat n)) := (own_lt32 (by omega) (by omega)).mpr hi
  have p104 : Go p.tables e below _ (T102.setTop (mkF m 64 #[.val (.ref a1), .val (.ref a2), .val (.int (Int32.ofNat (1 + own_nl cs n))), .val (.int (Int32.ofNat (1 + own_nl cs i))), .val (.int (Int32.ofNat i))] [(.int (Int32.ofNat i)), (.ref a2)])) := fun t_ k_ => (gcT p101 st102) t_ (by
   refine XS.icmpNo X102.here hx rfl (hb hby d8_58) rfl (tlt c103).2.1 ?_
   refine XS.aloadN X102.here hx rfl (hb hby d8_61) rfl rfl ?_
   refine XS.iload X102.here hx rfl (hb hby d8_62) rfl ?_
   exact k_)
  obtain ⟨b0, b1, i0, i1, g0, g1, hc⟩ := HB i hi
  obtain ⟨cq105, kq105, q105a, q105b, q105c⟩ := isOf hZ q102_hh E2
  obtain ⟨_, _, ⟨T105, L105, k105, n105⟩, -, X105, ⟨Lc105, hQ105, l105, y105, z105⟩, st105⟩ := X102.virtualBack hx (y := (⟨"java/lang/String", "charAt", "(I)C"⟩ : MethodName)) (z := (⟨"java/lang/String", "charAt", "(I)C"⟩ : MethodName)) hown (mvT hZ (own_w hw 55 rfl)) (mvT hZ (own_w hw 56 rfl)) (notFace_of_selects (args := #[]) (mvT hZ (own_w hw 58 rfl))) (mvT hZ (own_w hw 58 rfl)) (mvT hZ (own_w hw 57 rfl)) (by decide) (backOf (W := 0) (rm11_1 l Z a0 hw [] a2 (Int32.ofNat i) bv kv z vs b0 b1 (own_at cs i) cs1 fm h0 n0 (Nat.le_trans Z0 (Keep.refl h0 [bs]).1) O1 G E2 G1 G2 V1 (own_nn32 (by omega)) (by rw [hz]; exact (own_lt32 (by omega) (by omega)).mpr hi) i0 i1 g0 g1 hc) hZ (own_w hw 59 rfl) (own_w hw 8 rfl) (by decide) (by decide)) q105a q105c (g := (mkF m 64 #[.val (.ref a1), .val (.ref a2), .val (.int (Int32.ofNat (1 + own_nl cs n))), .val (.int (Int32.ofNat (1 + own_nl cs i))), .val (.int (Int32.ofNat i))] [(.int (Int32.ofNat i)), (.ref a2)])) rfl (by rw [hml]; rfl) (Steps.refl _) (argsL := [(.int (Int32.ofNat i))]) (rest := []) (lenOf pd15 rfl) rfl (by show 2 * 0 + _ ≤ _; exact Nat.le_of_eq rfl) (hb hby d8_64) (fun _ _ => ⟨rfl, q102_hh, (by decide : 1 + 0 ≤ _), (by decide : 9 + 0 ≤ _)⟩)
  dsimp only [Pt.U, Pt.locs, Pt.cells, Pt.slots] at X105 l105 y105 z105 st105 hQ105
  subst l105 y105 z105
  obtain ⟨rfl, N105q, q105_hh⟩ := hQ105
  have N105 := Fr.app N102 N105q
  have p106 : Go p.tables e below _ (T105.setTop (mkF m 69 #[.val (.ref a1), .val (.ref a2), .val (.int (Int32.ofNat (1 + own_nl cs n))), .val (.int (Int32.ofNat (1 + own_nl cs i))), .val (.int (Int32.ofNat i))] [(.int (10 : Int32)), (.int (own_at cs i))])) := fun t_ k_ => (gcT p104 st105) t_ (by
   refine XS.bipush X105.here hx rfl (hb hby d8_67) ?_
   exact k_)
  by_cases c107 : (own_at cs i) = (10 : Int32)
  ·have p108 : Go p.tables e below _ (T105.setTop (mkF m 72 #[.val (.ref a1), .val (.ref a2), .val (.int (Int32.ofNat (1 + own_nl cs n))), .val (.int (Int32.ofNat (1 + own_nl cs i))), .val (.int (Int32.ofNat i))] [])) := fun t_ k_ => p106 t_ (by
    refine XS.icmpNo X105.here hx rfl (hb hby d8_69) rfl (teq c107).2 ?_
    exact k_)
   have p109 : Go p.tables e below _ (T105.setTop (mkF m 73 #[.val (.ref a1), .val (.ref a2), .val (.int (Int32.ofNat (1 + own_nl cs n))), .val (.int (Int32.ofNat (1 + own_nl cs i))), .val (.int (Int32.ofNat i))] [(.ref a1)])) := fun t_ k_ => p108 t_ (by
    refine XS.aloadN X105.here hx rfl (hb hby d8_72) rfl rfl ?_
    exact k_)
   obtain ⟨T110, X110, e110, st110⟩ := getF X105 hx hZ hown (host := "") (Or.inl (own_w hw 78 rfl)) Via.refl q105_hh S1 (g := (mkF m 73 #[.val (.ref a1), .val (.ref a2), .val (.int (Int32.ofNat (1 + own_nl cs n))), .val (.int (Int32.ofNat (1 + own_nl cs i))), .val (.int (Int32.ofNat i))] [(.ref a1)])) rfl rfl (hb hby d8_73)
   have p111 : Go p.tables e below _ (T110.setTop (mkF m 84 #[.val (.ref a1), .val (.ref a2), .val (.int (Int32.ofNat (1 + own_nl cs n))), .val (.int ((Int32.ofNat (1 + own_nl cs i)) + (1 : Int32))), .val (.int (Int32.ofNat i))] [(.int ((Int32.ofNat i) + (1 : Int32))), (.int (Int32.ofNat (1 + own_nl cs i))), (.ref bs)])) := fun t_ k_ => (gc p109 st110) t_ (by
    refine XS.iloadN X110.here hx rfl (hb hby d8_76) rfl ?_
    refine XS.iinc X110.here hx rfl (hb hby d8_77) rfl (l' := #[.val (.ref a1), .val (.ref a2), .val (.int (Int32.ofNat (1 + own_nl cs n))), .val (.int ((Int32.ofNat (1 + own_nl cs i)) + (1 : Int32))), .val (.int (Int32.ofNat i))]) rfl ?_
    refine XS.iload X110.here hx rfl (hb hby d8_80) rfl ?_
    refine XS.iconst X110.here hx rfl (hb hby d8_82) ?_
    refine XS.iadd X110.here hx rfl (hb hby d8_83) rfl ?_
    exact k_)
   obtain ⟨cl112, Ar112, q112, S112, Ng112, H112, G112⟩ := id V2
   have hin112 := inb_of S112 (j := (Int32.ofNat (1 + own_nl cs i))) ⟨own_nn32 (by omega), (own_lt32 (by omega) (by omega)).mpr (own_nl_lt cs hi c107)⟩
   obtain ⟨T112, h112, X112, e112, W112, st112⟩ := stI X110 hx hZ e110 Ar112 (j := (Int32.ofNat (1 + own_nl cs i))) hin112 (g := (mkF m 84 #[.val (.ref a1), .val (.ref a2), .val (.int (Int32.ofNat (1 + own_nl cs n))), .val (.int ((Int32.ofNat (1 + own_nl cs i)) + (1 : Int32))), .val (.int (Int32.ofNat i))] [(.int ((Int32.ofNat i) + (1 : Int32))), (.int (Int32.ofNat (1 + own_nl cs i))), (.ref bs)])) rfl rfl (hb hby d8_84)
   have K113 : Keep h0 h112 [bs] := (Keep.refl h0 [bs]).wr W112 (Or.inl (List.mem_of_getElem? (i := 0) rfl))
   have N112 := Fr.snoc X112 N105 gs
   have V112 : Arv Z h112 bs ks .int (Int32.ofNat (1 + own_nl cs n)) ((own_st cs n (i + 1)).map Value.int) (.int (0 : Int32)) := by
    have z := Arv.set Ar112 q112 S112 Ng112 H112 G112 rfl W112 (1 + own_nl cs i) (own_cl32 (by omega)) (by rw [List.length_map, own_st_len]; exact own_nl_lt cs hi c107)
    rw [show own_st cs n (i + 1) = (own_st cs n i).set (1 + own_nl cs i) (Int32.ofNat (i + 1)) by simp [own_st, c107], List.map_set, own_up1 i]; exact z
   have p114 : Go p.tables e below _ (T112.setTop (mkF m 52 #[.val (.ref a1), .val (.ref a2), .val (.int (Int32.ofNat (1 + own_nl cs n))), .val (.int ((Int32.ofNat (1 + own_nl cs i)) + (1 : Int32))), .val (.int ((Int32.ofNat i) + (1 : Int32)))] [])) := fun t_ k_ => (gc p111 st112) t_ (by
    refine XS.iinc X112.here hx rfl (hb hby d8_85) rfl (l' := #[.val (.ref a1), .val (.ref a2), .val (.int (Int32.ofNat (1 + own_nl cs n))), .val (.int ((Int32.ofNat (1 + own_nl cs i)) + (1 : Int32))), .val (.int ((Int32.ofNat i) + (1 : Int32)))]) rfl ?_
    refine XS.goto X112.here hx rfl (pc0 := 88) (pc' := 52) rfl (hb hby d8_88) (by decide) (by decide) ?_
    exact k_)
   have f115 := (O1.wr W112 gs)
   have f116 := (E2.wr W112)
   have f117 := (G1.other W112 (Or.inl m2))
   have f118 := (G2.other W112 (Or.inl m2))
   have f119 := (V1.other W112 m3)
   have f120 := (S1.other W112 (Or.inl m1))
   have f121 := (S2.other W112 (Or.inl m1))
   have f122 := (E1.wr W112)
   obtain ⟨T', h', lc', X', e', N', K', S1', S2', E1', V2', g'⟩ := ih (i + 1) T112 h112 _ (by omega) X112 e112 (Nat.le_trans Z0 K113.1) N112 f115 f116 f117 f118 f119 f120 f121 f122 V112  
   refine ⟨T', h', lc', X', e', N', K113.trans K' (allS (Or.inl (List.mem_of_getElem? (i := 0) rfl)) all0), S1', S2', E1', V2', fun t_ k_ => p114 t_ ?_⟩
   have z := g' t_ k_
   rw [own_nl_s cs i, if_pos c107, ← Nat.add_assoc, own_up1 (1 + own_nl cs i), own_up1 i] at z
   exact z
  ·have p123 : Go p.tables e below _ (T105.setTop (mkF m 85 #[.val (.ref a1), .val (.ref a2), .val (.int (Int32.ofNat (1 + own_nl cs n))), .val (.int (Int32.ofNat (1 + own_nl cs i))), .val (.int (Int32.ofNat i))] [])) := fun t_ k_ => p106 t_ (by
    refine XS.icmpYes X105.here hx rfl (pc0 := 69) (pc' := 85) rfl (hb hby d8_69) rfl (feq c107).2 (by decide) (by decide) ?_
    exact k_)
   have p124 : Go p.tables e below _ (T105.setTop (mkF m 52 #[.val (.ref a1), .val (.ref a2), .val (.int (Int32.ofNat (1 + own_nl cs n))), .val (.int (Int32.ofNat (1 + own_nl cs i))), .val (.int ((Int32.ofNat i) + (1 : Int32)))] [])) := fun t_ k_ => p123 t_ (by
    refine XS.iinc X105.here hx rfl (hb hby d8_85) rfl (l' := #[.val (.ref a1), .val (.ref a2), .val (.int (Int32.ofNat (1 + own_nl cs n))), .val (.int (Int32.ofNat (1 + own_nl cs i))), .val (.int ((Int32.ofNat i) + (1 : Int32)))]) rfl ?_
    refine XS.goto X105.here hx rfl (pc0 := 88) (pc' := 52) rfl (hb hby d8_88) (by decide) (by decide) ?_
    exact k_)
   have V9 : Arv Z h0 bs ks .int (Int32.ofNat (1 + own_nl cs n)) ((own_st cs n (i + 1)).map Value.int) (.int (0 : Int32)) := by rw [show own_st cs n (i + 1) = own_st cs n i by simp [own_st, c107]]; exact V2
   obtain ⟨T', h', lc', X', e', N', K', S1', S2', E1', V2', g'⟩ := ih (i + 1) T105 h0 _ (by omega) X105 q105_hh (Nat.le_trans Z0 (Keep.refl h0 [bs]).1) N105 O1 E2 G1 G2 V1 S1 S2 E1 V9  
   refine ⟨T', h', lc', X', e', N', (Keep.refl h0 [bs]).trans K' (allS (Or.inl (List.mem_of_getElem? (i := 0) rfl)) all0), S1', S2', E1', V2', fun t_ k_ => p124 t_ ?_⟩
   have z := g' t_ k_
   rw [own_nl_s cs i, if_neg c107, Nat.add_zero, own_up1 i] at z
   exact z
theorem ef_rm8_1 (m : MethodId) (a1 : Addr) (a2 : Addr) (bv : Addr) (kv : ClassId) (z : Int32) (vs : List Value) (cs : List Int32) (n : Nat) (cs1 : Int32) (fm : Value) : entryFrame m #[(.ref a1), (.ref a2)] 5 = mkF m 0 #[.val (.ref a1), .val (.ref a2), .unset, .unset, .unset] [] := by first | (simp [entryFrame, mkF, argsToLocals, Value.category]; done) | rfl
def Q8_1 (Z : State) (a1 : Addr) (a2 : Addr) (bv : Addr) (kv : ClassId) (z : Int32) (vs : List Value) (cs : List Int32) (n : Nat) (cs1 : Int32) (fm : Value) (h0 : Heap) (n0 : Nat) (v : Option Value) (h : Heap) (L : List Loc) : Prop := ∃ (bs : Addr) (ks : ClassId), v = none ∧ Fr n0 L ∧ (Keep h0 h [a1]) ∧ (Exa Z h a1 "com/example/subsume/subsume/model/Lines") ∧ (Fld Z h a1 "com/example/subsume/subsume/model/Lines" "text" "Ljava/lang/String;" (.ref a2)) ∧ (Fld Z h a1 "com/example/subsume/subsume/model/Lines" "starts" "[I" (.ref bs)) ∧ (Arv Z h bs ks .int (Int32.ofNat (1 + own_nl cs n)) ((own_st cs n n).map Value.int) (.int (0 : Int32))) ∧ (n0 ≤ bs) ∧ (h0.size ≤ bs) ∧ (a1 ≠ bs)
set_option maxRecDepth 65536 in
set_option maxHeartbeats 40000000 in
theorem rm8_1 (l : Launch) (Z : State) (a0 : Array Value) (hw : ∀ d ∈ tables_1, d.before a0 Z = true) (ws : List Jvm.Cond) (a1 : Addr) (a2 : Addr) (bv : Addr) (kv : ClassId) (z : Int32) (vs : List Value) (cs : List Int32) (n : Nat) (cs1 : Int32) (fm : Value) (h0 : Heap) (n0 : Nat) (Z0 : n0 ≤ h0.size) (O1 : Old Z n0 h0) (G : own_G Z cs1 fm) (E2 : Exa Z h0 a2 "java/lang/String") (G1 : Fld Z h0 a2 "java/lang/String" "coder" "B" (.int (1 : Int32))) (G2 : Fld Z h0 a2 "java/lang/String" "value" "[B" (.ref bv)) (V1 : Arv Z h0 bv kv .byte z vs (.int (0 : Int32))) (S1 : Fld Z h0 a1 "com/example/subsume/subsume/model/Lines" "starts" "[I" .null) (S2 : Fld Z h0 a1 "com/example/subsume/subsume/model/Lines" "text" "Ljava/lang/String;" .null) (E1 : Exa Z h0 a1 "com/example/subsume/subsume/model/Lines") (g1 : n0 ≤ a1) (n1 : a1 ≠ a2) (n2 : a1 ≠ bv) (hz : (z >>> (1 : Int32)) = (Int32.ofNat n)) (hn : n ≤ 8) (HB : ∀ i, i < n → ∃ b0 b1 : Int32, (¬ ((Int32.ofNat i) <<< (1 : Int32)) < 0 ∧ ((Int32.ofNat i) <<< (1 : Int32)) < z) ∧ (¬ (((Int32.ofNat i) <<< (1 : Int32)) + (1 : Int32)) < 0 ∧ (((Int32.ofNat i) <<< (1 : Int32)) + (1 : Int32)) < z) ∧ vs.getD (((Int32.ofNat i) <<< (1 : Int32))).toNatClampNeg (.int (0 : Int32)) = .int b0 ∧ vs.getD ((((Int32.ofNat i) <<< (1 : Int32)) + (1 : Int32))).toNatClampNeg (.int (0 : Int32)) = .int b1 ∧ own_c16 b0 b1 = own_at cs i) :
  MetFree l (⟨"com/example/subsume/subsume/model/Lines", "<init>", "(Ljava/lang/String;)V"⟩ : MethodName) (head1 (Jvm.Cond.code (⟨"com/example/subsume/subsume/model/Lines", "<init>", "(Ljava/lang/String;)V"⟩ : MethodName) prog_16_method_1_code 5 none :: ws) ({ frames := 6, cells := 1, slots := 9, locals := 150 } : Room)) (fun a U => a = #[(.ref a1), (.ref a2)] ∧ Z.Warmed39 U.vm ∧ U.heap = h0) (fun _ _ _ _ _ => True) (fun _ U o U' => ∃ v L, o = .returned v ∧ Q8_1 Z a1 a2 bv kv z vs cs n cs1 fm h0 n0 v U'.heap L ∧ FrameEnd U o U' L ({ frames := 6, cells := 1, slots := 9, locals := 150 } : Room).cells ({ frames := 6, cells := 1, slots := 9, locals := 150 } : Room).slots) := by
 refine MetFree.of_bodySF pn8 hisR ?_
 intro p e s m args below meth c s₁ Bd hml0 hP hK
 obtain ⟨rfl, hZ, hh⟩ := hP
 have hx := Bd.exec
 have hby := Bd.bytes
 have hml : c.maxLocals = 5 := hml0
 have hown : s.vm.findClass "com/example/subsume/subsume/model/Lines" = some m.cls := findClass_of_methodNamed Bd.named
 have hnm := (name_of_methodNamed Bd.named Bd.method).1
 have X0 : Stand p l e ({ frames := 6, cells := 1, slots := 9, locals := 150 } : Room) s m #[(.ref a1), (.ref a2)] below meth c s₁ [] 0 0 := Stand.of_body Bd
 have e0 : s₁.heap = h0 := by rw [← hh, Bd.state]; rfl
 have N0 := Fr.nil n0
 have p0 : Go p.tables e below (s₁.setTop (entryFrame m #[(.ref a1), (.ref a2)] 5)) (s₁.setTop (mkF m 0 #[.val (.ref a1), .val (.ref a2), .unset, .unset, .unset] [])) := fun t_ k_ => castTop (ef_rm8_1 m a1 a2 bv kv z vs cs n cs1 fm) k_
 have p101 : Go p.tables e below _ (s₁.setTop (mkF m 1 #[.val (.ref a1), .val (.ref a2), .unset, .unset, .unset] [(.ref a1)])) := fun t_ k_ => p0 t_ (by
  refine XS.aloadN X0.here hx rfl (hb hby d8_0) rfl rfl ?_
  exact k_)
 obtain ⟨T102, X102, e102, st102⟩ := initO X0 hx hZ hown (own_w hw 42 rfl) (own_w hw 17 rfl) (own_w hw 18 rfl) e0 (g := (mkF m 1 #[.val (.ref a1), .val (.ref a2), .unset, .unset, .unset] [(.ref a1)])) rfl (by rw [hml]; rfl) rfl (hb hby d8_1) (by decide) (W := 0) (by show 2 * 0 + _ ≤ _; exact Nat.le_of_eq rfl) (by decide)
 have p103 : Go p.tables e below _ (T102.setTop (mkF m 6 #[.val (.ref a1), .val (.ref a2), .unset, .unset, .unset] [(.ref a2), (.ref a1)])) := fun t_ k_ => (gc p101 st102) t_ (by
  refine XS.aloadN X102.here hx rfl (hb hby d8_4) rfl rfl ?_
  refine XS.aloadN X102.here hx rfl (hb hby d8_5) rfl rfl ?_
  exact k_)
 obtain ⟨T104, h104, X104, e104, W104, st104⟩ := putF X102 hx hZ hown (host := "") (Or.inl (own_w hw 43 rfl)) Via.refl e102 S2 E1 (Or.inr ⟨(own_w hw 44 rfl), rfl, hnm⟩) (own_w hw 37 rfl) (ty := (.object "java/lang/String")) (by decide) rfl rfl (g := (mkF m 6 #[.val (.ref a1), .val (.ref a2), .unset, .unset, .unset] [(.ref a2), (.ref a1)])) rfl rfl (hb hby d8_6)
 have K105 : Keep h0 h104 [a1] := (Keep.refl h0 [a1]).wr W104 (Or.inl (List.mem_of_getElem? (i := 0) rfl))
 have N104 := Fr.snoc X104 N0 g1
 have F104 : Fld Z h104 a1 "com/example/subsume/subsume/model/Lines" "text" "Ljava/lang/String;" (.ref a2) := S2.same W104
 have p106 : Go p.tables e below _ (T104.setTop (mkF m 13 #[.val (.ref a1), .val (.ref a2), .val (.int (1 : Int32)), .val (.int (0 : Int32)), .unset] [])) := fun t_ k_ => (gc p103 st104) t_ (by
  refine XS.iconst X104.here hx rfl (hb hby d8_9) ?_
  refine XS.istoreN X104.here hx rfl (hb hby d8_10) rfl (l' := #[.val (.ref a1), .val (.ref a2), .val (.int (1 : Int32)), .unset, .unset]) rfl ?_
  refine XS.iconst X104.here hx rfl (hb hby d8_11) ?_
  refine XS.istoreN X104.here hx rfl (hb hby d8_12) rfl (l' := #[.val (.ref a1), .val (.ref a2), .val (.int (1 : Int32)), .val (.int (0 : Int32)), .unset]) rfl ?_
  exact k_)
 have hnn := own_nl_le cs n
 have p108 : Go p.tables e below _ (T104.setTop (mkF m 13 #[.val (.ref a1), .val (.ref a2), .val (.int (Int32.ofNat (1 + own_nl cs 0))), .val (.int (Int32.ofNat 0)), .unset] [])) := p106
 have f109 := (O1.wr W104 g1)
 have f110 := (E2.wr W104)
 have f111 := (G1.other W104 (Or.inl (Ne.symm n1)))
 have f112 := (G2.other W104 (Or.inl (Ne.symm n1)))
 have f113 := (V1.other W104 (Ne.symm n2))
 obtain ⟨T107, L107, X107, e107, N107, g107⟩ := lpA1 Z a0 hx hZ hw hby hml hown a1 a2 bv kv z vs cs n cs1 fm h104 n0 (Nat.le_trans Z0 K105.1) f109 G f110 f111 f112 f113 hz hn HB n 0 T104 _ (by omega) X104 e104 N104
 have p114 : Go p.tables e below _ (T107.setTop (mkF m 40 #[.val (.ref a1), .val (.ref a2), .val (.int (Int32.ofNat (1 + own_nl cs n))), .val (.int (Int32.ofNat n)), .unset] [])) := fun t_ k_ => p108 t_ (g107 t_ k_)
 have p115 : Go p.tables e below _ (T107.setTop (mkF m 42 #[.val (.ref a1), .val (.ref a2), .val (.int (Int32.ofNat (1 + own_nl cs n))), .val (.int (Int32.ofNat n)), .unset] [(.int (Int32.ofNat (1 + own_nl cs n))), (.ref a1)])) := fun t_ k_ => p114 t_ (by
  refine XS.aloadN X107.here hx rfl (hb hby d8_40) rfl rfl ?_
  refine XS.iloadN X107.here hx rfl (hb hby d8_41) rfl ?_
  exact k_)
 obtain ⟨T116, h116, k116, X116, e116, E116, A116, st116⟩ := newP X107 hx hZ (own_w hw 77 rfl) e107 (g := (mkF m 42 #[.val (.ref a1), .val (.ref a2), .val (.int (Int32.ofNat (1 + own_nl cs n))), .val (.int (Int32.ofNat n)), .unset] [(.int (Int32.ofNat (1 + own_nl cs n))), (.ref a1)])) rfl (hb hby d8_42) rfl (own_nn32 (by omega)) (cap := 9) (by rw [own_cl32 (by omega)]; omega) (by decide) (by decide) (by decide)
 obtain ⟨b116, g116⟩ : ∃ z, z = h104.size := ⟨_, rfl⟩
 rw [← g116] at A116 st116
 have ne_a2_b116 : a2 ≠ b116 := Nat.ne_of_lt (Nat.lt_of_lt_of_le f110.lt (Nat.le_of_eq g116.symm))
 have ne_bv_b116 : bv ≠ b116 := Nat.ne_of_lt (Nat.lt_of_lt_of_le f113.lt (Nat.le_of_eq g116.symm))
 have f117 := (S1.other W104 (Or.inr (slot_ne (Or.inr (own_w hw 79 rfl)) (Or.inr (own_w hw 44 rfl)) (by decide) (t := (.array .int)) (t' := (.object "java/lang/String")) (by decide) (by decide))))
 have ne_a1_b116 : a1 ≠ b116 := Nat.ne_of_lt (Nat.lt_of_lt_of_le f117.lt (Nat.le_of_eq g116.symm))
 have ge_b116 : n0 ≤ b116 := Nat.le_trans (Nat.le_trans Z0 K105.1) (Nat.le_of_eq g116.symm)
 have sz_b116 : h0.size ≤ b116 := Nat.le_trans K105.1 (Nat.le_of_eq g116.symm)
 have K118 : Keep h0 h116 [a1] := K105.ext E116
 have V116 : Arv Z h116 b116 k116 .int (Int32.ofNat (1 + own_nl cs n)) [] (.int (0 : Int32)) := Arv.new A116 (own_nn32 (by omega))
 have f119 := (f117.ext E116)
 have f120 := ((E1.wr W104).ext E116)
 obtain ⟨T121, h121, X121, e121, W121, st121⟩ := putF X116 hx hZ hown (host := "") (Or.inl (own_w hw 78 rfl)) Via.refl e116 f119 f120 (Or.inr ⟨(own_w hw 79 rfl), rfl, hnm⟩) (own_w hw 37 rfl) (ty := (.array .int)) (by decide) rfl rfl (g := (mkF m 44 #[.val (.ref a1), .val (.ref a2), .val (.int (Int32.ofNat (1 + own_nl cs n))), .val (.int (Int32.ofNat n)), .unset] [(.ref b116), (.ref a1)])) rfl rfl (hb hby d8_44)
 have K122 : Keep h0 h121 [a1] := K118.wr W121 (Or.inl (List.mem_of_getElem? (i := 0) rfl))
 have N121 := Fr.snoc X121 N107 g1
 have F121 : Fld Z h121 a1 "com/example/subsume/subsume/model/Lines" "starts" "[I" (.ref b116) := f119.same W121
 have p123 : Go p.tables e below _ (T121.setTop (mkF m 52 #[.val (.ref a1), .val (.ref a2), .val (.int (Int32.ofNat (1 + own_nl cs n))), .val (.int (1 : Int32)), .val (.int (0 : Int32))] [])) := fun t_ k_ => (gc (gc p115 st116) st121) t_ (by
  refine XS.iconst X121.here hx rfl (hb hby d8_47) ?_
  refine XS.istoreN X121.here hx rfl (hb hby d8_48) rfl (l' := #[.val (.ref a1), .val (.ref a2), .val (.int (Int32.ofNat (1 + own_nl cs n))), .val (.int (1 : Int32)), .unset]) rfl ?_
  refine XS.iconst X121.here hx rfl (hb hby d8_49) ?_
  refine XS.istore X121.here hx rfl (hb hby d8_50) rfl (l' := #[.val (.ref a1), .val (.ref a2), .val (.int (Int32.ofNat (1 + own_nl cs n))), .val (.int (1 : Int32)), .val (.int (0 : Int32))]) rfl ?_
  exact k_)
 have p125 : Go p.tables e below _ (T121.setTop (mkF m 52 #[.val (.ref a1), .val (.ref a2), .val (.int (Int32.ofNat (1 + own_nl cs n))), .val (.int (Int32.ofNat (1 + own_nl cs 0))), .val (.int (Int32.ofNat 0))] [])) := p123
 have f126 := (V116.other W121 (Ne.symm ne_a1_b116))
 have vs0 : Arv Z h121 b116 k116 .int (Int32.ofNat (1 + own_nl cs n)) ((own_st cs n 0).map Value.int) (.int (0 : Int32)) := f126.pad (by intro i; have z := pad_rep [] (Value.int (0 : Int32)) (1 + own_nl cs n) i; simpa [own_st, List.map_replicate] using z)
 have f127 := ((f109.ext E116).wr W121 g1)
 have f128 := ((f110.ext E116).wr W121)
 have f129 := ((f111.ext E116).other W121 (Or.inl (Ne.symm n1)))
 have f130 := ((f112.ext E116).other W121 (Or.inl (Ne.symm n1)))
 have f131 := ((f113.ext E116).other W121 (Ne.symm n2))
 have f132 := ((F104.ext E116).other W121 (Or.inr (slot_ne (Or.inr (own_w hw 44 rfl)) (Or.inr (own_w hw 79 rfl)) (by decide) (t := (.object "java/lang/String")) (t' := (.array .int)) (by decide) (by decide))))
 have f133 := (f120.wr W121)
 obtain ⟨T124, h124, lc124, X124, e124, N124, K124, S1124, S2124, E1124, V2124, g124⟩ := lpB1 Z a0 hx hZ hw hby hml hown a1 a2 bv kv z vs cs n cs1 fm b116 k116 n0 G hz hn HB ne_a1_b116 ne_a2_b116 ne_bv_b116 ge_b116  n 0 T121 h121 _ (by omega) X121 e121 (Nat.le_trans Z0 K122.1) N121 f127 f128 f129 f130 f131 F121 f132 f133 vs0
 have K134 : Keep h0 h124 [a1] := K122.trans K124 (allS (Or.inr sz_b116) all0)
 have p135 : Go p.tables e below _ (T124.setTop (mkF m 91 #[.val (.ref a1), .val (.ref a2), .val (.int (Int32.ofNat (1 + own_nl cs n))), .val (.int (Int32.ofNat (1 + own_nl cs n))), .val (.int (Int32.ofNat n))] [])) := fun t_ k_ => p125 t_ (g124 t_ k_)
 obtain ⟨fs, hr, hrun, hended, hW, hsame⟩ := X124.leave (v := none) (fun _ => rfl)
 refine ⟨_, _, p135 _ (X124.returnOut hx Bd.returns (hb hby d8_91) hr), hrun, hended, _, _, rfl, ?_, ⟨_, rfl⟩, hW, hsame.mono (by decide) (by decide)⟩
 show Q8_1 Z a1 a2 bv kv z vs cs n cs1 fm h0 n0 _ T124.heap _
 rw [e124]
 exact ⟨b116, k116, rfl, N124, K134, E1124, S2124, S1124, V2124, ge_b116, sz_b116, ne_a1_b116⟩
theorem d1_0 : decode method_2_code 0 = .ok (.iload_n 0, 1) := by decide +kernel
theorem d1_1 : decode method_2_code 1 = .ok (.bipush 16, 2) := by decide +kernel
theorem d1_3 : decode method_2_code 3 = .ok (.iushr, 1) := by decide +kernel
theorem d1_4 : decode method_2_code 4 = .ok (.iconst 3, 1) := by decide +kernel
theorem d1_5 : decode method_2_code 5 = .ok (.iand, 1) := by decide +kernel
theorem d1_6 : decode method_2_code 6 = .ok (.istore_n 1, 1) := by decide +kernel
theorem d1_7 : decode method_2_code 7 = .ok (.iload_n 0, 1) := by decide +kernel
theorem d1_8 : decode method_2_code 8 = .ok (.sipush 1023, 3) := by decide +kernel
theorem d1_11 : decode method_2_code 11 = .ok (.iand, 1) := by decide +kernel
theorem d1_12 : decode method_2_code 12 = .ok (.istore_n 2, 1) := by decide +kernel
theorem d1_13 : decode method_2_code 13 = .ok (.iload_n 1, 1) := by decide +kernel
theorem d1_14 : decode method_2_code 14 = .ok (.ifCond .ne 9, 3) := by decide +kernel
theorem d1_17 : decode method_2_code 17 = .ok (.iload_n 0, 1) := by decide +kernel
theorem d1_18 : decode method_2_code 18 = .ok (.ldc 7, 2) := by decide +kernel
theorem d1_20 : decode method_2_code 20 = .ok (.iand, 1) := by decide +kernel
theorem d1_21 : decode method_2_code 21 = .ok (.i2c, 1) := by decide +kernel
theorem d1_22 : decode method_2_code 22 = .ok (.ireturn, 1) := by decide +kernel
theorem d1_23 : decode method_2_code 23 = .ok (.iload_n 1, 1) := by decide +kernel
theorem d1_24 : decode method_2_code 24 = .ok (.iconst 1, 1) := by decide +kernel
theorem d1_25 : decode method_2_code 25 = .ok (.if_icmp .ne 9, 3) := by decide +kernel
theorem d1_28 : decode method_2_code 28 = .ok (.ldc 8, 2) := by decide +kernel
theorem d1_30 : decode method_2_code 30 = .ok (.iload_n 2, 1) := by decide +kernel
theorem d1_31 : decode method_2_code 31 = .ok (.iadd, 1) := by decide +kernel
theorem d1_32 : decode method_2_code 32 = .ok (.i2c, 1) := by decide +kernel
theorem d1_33 : decode method_2_code 33 = .ok (.ireturn, 1) := by decide +kernel
theorem d1_34 : decode method_2_code 34 = .ok (.iload_n 1, 1) := by decide +kernel
theorem d1_35 : decode method_2_code 35 = .ok (.iconst 2, 1) := by decide +kernel
theorem d1_36 : decode method_2_code 36 = .ok (.if_icmp .ne 9, 3) := by decide +kernel
theorem d1_39 : decode method_2_code 39 = .ok (.ldc 9, 2) := by decide +kernel
theorem d1_41 : decode method_2_code 41 = .ok (.iload_n 2, 1) := by decide +kernel
theorem d1_42 : decode method_2_code 42 = .ok (.iadd, 1) := by decide +kernel
theorem d1_43 : decode method_2_code 43 = .ok (.i2c, 1) := by decide +kernel
theorem d1_44 : decode method_2_code 44 = .ok (.ireturn, 1) := by decide +kernel
theorem d1_45 : decode method_2_code 45 = .ok (.iload_n 0, 1) := by decide +kernel
theorem d1_46 : decode method_2_code 46 = .ok (.bipush 127, 2) := by decide +kernel
theorem d1_48 : decode method_2_code 48 = .ok (.iand, 1) := by decide +kernel
theorem d1_49 : decode method_2_code 49 = .ok (.i2c, 1) := by decide +kernel
theorem d1_50 : decode method_2_code 50 = .ok (.ireturn, 1) := by decide +kernel
theorem pn1 : plainFor (⟨"com/example/subsume/subsume/model/LinesCharacterPinLaw", "draw", "(I)C"⟩ : MethodName) = true := plainFor_of_name (by first | (simp [plainName, overriddenIn]; done) | decide +kernel)
theorem ef_rm1 (m : MethodId) (p1 : Int32) : entryFrame m #[(.int p1)] 3 = mkF m 0 #[.val (.int p1), .unset, .unset] [] := by first | (simp [entryFrame, mkF, argsToLocals, Value.category]; done) | rfl
def Q1 (Z : State) (p1 : Int32) (h0 : Heap) (n0 : Nat) (v : Option Value) (h : Heap) (L : List Loc) : Prop := ∃ (cc : Int32), v = some (.int cc) ∧ Fr n0 L ∧ (h = h0) ∧ (¬ (cc < (0 : Int32))) ∧ (¬ ((65535 : Int32) < cc))
set_option maxRecDepth 65536 in
set_option maxHeartbeats 40000000 in
theorem rm1 (l : Launch) (Z : State) (a0 : Array Value) (hw : ∀ d ∈ tables_1, d.before a0 Z = true) (ws : List Jvm.Cond) (p1 : Int32) (h0 : Heap) (n0 : Nat) (Z0 : n0 ≤ h0.size) :
  MetFree l (⟨"com/example/subsume/subsume/model/LinesCharacterPinLaw", "draw", "(I)C"⟩ : MethodName) (head1 (Jvm.Cond.code (⟨"com/example/subsume/subsume/model/LinesCharacterPinLaw", "draw", "(I)C"⟩ : MethodName) method_2_code 3 (some .char) :: ws) ({ frames := 0, cells := 0, slots := 0, locals := 0 } : Room)) (fun a U => a = #[(.int p1)] ∧ Z.Warmed39 U.vm ∧ U.heap = h0) (fun _ _ _ _ _ => True) (fun _ U o U' => ∃ v L, o = .returned v ∧ Q1 Z p1 h0 n0 v U'.heap L ∧ FrameEnd U o U' L ({ frames := 0, cells := 0, slots := 0, locals := 0 } : Room).cells ({ frames := 0, cells := 0, slots := 0, locals := 0 } : Room).slots) := by
 refine MetFree.of_bodySF pn1 hisR ?_
 intro p e s m args below meth c s₁ Bd hml0 hP hK
 obtain ⟨rfl, hZ, hh⟩ := hP
 have hx := Bd.exec
 have hby := Bd.bytes
 have hml : c.maxLocals = 3 := hml0
 have hown : s.vm.findClass "com/example/subsume/subsume/model/LinesCharacterPinLaw" = some m.cls := findClass_of_methodNamed Bd.named
 have hnm := (name_of_methodNamed Bd.named Bd.method).1
 have X0 : Stand p l e ({ frames := 0, cells := 0, slots := 0, locals := 0 } : Room) s m #[(.int p1)] below meth c s₁ [] 0 0 := Stand.of_body Bd
 have e0 : s₁.heap = h0 := by rw [← hh, Bd.state]; rfl
 have N0 := Fr.nil n0
 have p0 : Go p.tables e below (s₁.setTop (entryFrame m #[(.int p1)] 3)) (s₁.setTop (mkF m 0 #[.val (.int p1), .unset, .unset] [])) := fun t_ k_ => castTop (ef_rm1 m p1) k_
 have p101 : Go p.tables e below _ (s₁.setTop (mkF m 14 #[.val (.int p1), .val (.int (((p1.toUInt32 >>> (16 : UInt32)).toInt32) &&& (3 : Int32))), .val (.int (p1 &&& (1023 : Int32)))] [(.int (((p1.toUInt32 >>> (16 : UInt32)).toInt32) &&& (3 : Int32)))])) := fun t_ k_ => p0 t_ (by
  refine XS.iloadN X0.here hx rfl (hb hby d1_0) rfl ?_
  refine XS.bipush X0.here hx rfl (hb hby d1_1) ?_
  refine XS.iushr X0.here hx rfl (hb hby d1_3) rfl ?_
  refine XS.iconst X0.here hx rfl (hb hby d1_4) ?_
  refine XS.iand X0.here hx rfl (hb hby d1_5) rfl ?_
  refine XS.istoreN X0.here hx rfl (hb hby d1_6) rfl (l' := #[.val (.int p1), .val (.int (((p1.toUInt32 >>> (16 : UInt32)).toInt32) &&& (3 : Int32))), .unset]) rfl ?_
  refine XS.iloadN X0.here hx rfl (hb hby d1_7) rfl ?_
  refine XS.sipush X0.here hx rfl (hb hby d1_8) ?_
  refine XS.iand X0.here hx rfl (hb hby d1_11) rfl ?_
  refine XS.istoreN X0.here hx rfl (hb hby d1_12) rfl (l' := #[.val (.int p1), .val (.int (((p1.toUInt32 >>> (16 : UInt32)).toInt32) &&& (3 : Int32))), .val (.int (p1 &&& (1023 : Int32)))]) rfl ?_
  refine XS.iloadN X0.here hx rfl (hb hby d1_13) rfl ?_
  exact k_)
 by_cases c102 : (((p1.toUInt32 >>> (16 : UInt32)).toInt32) &&& (3 : Int32)) = (0 : Int32)
 ·have p103 : Go p.tables e below _ (s₁.setTop (mkF m 17 #[.val (.int p1), .val (.int (((p1.toUInt32 >>> (16 : UInt32)).toInt32) &&& (3 : Int32))), .val (.int (p1 &&& (1023 : Int32)))] [])) := fun t_ k_ => p101 t_ (by
   refine XS.ifNo X0.here hx rfl (hb hby d1_14) rfl ((if0 _ _).trans (teq c102).2) ?_
   exact k_)
  have p104 : Go p.tables e below _ (s₁.setTop (mkF m 22 #[.val (.int p1), .val (.int (((p1.toUInt32 >>> (16 : UInt32)).toInt32) &&& (3 : Int32))), .val (.int (p1 &&& (1023 : Int32)))] [(.int ((p1 &&& (65535 : Int32)).toUInt32.toUInt16.toUInt32.toInt32))])) := fun t_ k_ => p103 t_ (by
   refine XS.iloadN X0.here hx rfl (hb hby d1_17) rfl ?_
   refine X0.ldcInt hx hown (mvT hZ (own_w hw 4 rfl)) (g := (mkF m 18 #[.val (.int p1), .val (.int (((p1.toUInt32 >>> (16 : UInt32)).toInt32) &&& (3 : Int32))), .val (.int (p1 &&& (1023 : Int32)))] [(.int p1)])) rfl (hb hby d1_18) _ ?_
   refine XS.iand X0.here hx rfl (hb hby d1_20) rfl ?_
   refine XS.i2c X0.here hx rfl (hb hby d1_21) rfl ?_
   exact k_)
  obtain ⟨fs, hr, hrun, hended, hW, hsame⟩ := X0.leave (v := some (.int (nar .char ((p1 &&& (65535 : Int32)).toUInt32.toUInt16.toUInt32.toInt32)))) (fun h => by rw [Bd.returns] at h; cases h)
  refine ⟨_, _, p104 _ (retN X0 hx (t := .char) Bd.returns (by simp) (hb hby d1_22) hr), hrun, hended, _, _, rfl, ?_, ⟨_, rfl⟩, hW, hsame.mono (by decide) (by decide)⟩
  show Q1 Z p1 h0 n0 _ s₁.heap _
  rw [e0]
  exact ⟨_, rfl, N0, rfl, (own_narcr _).1, (own_narcr _).2⟩
 ·have p105 : Go p.tables e below _ (s₁.setTop (mkF m 23 #[.val (.int p1), .val (.int (((p1.toUInt32 >>> (16 : UInt32)).toInt32) &&& (3 : Int32))), .val (.int (p1 &&& (1023 : Int32)))] [])) := fun t_ k_ => p101 t_ (by
   refine XS.ifYes X0.here hx rfl (pc0 := 14) (pc' := 23) rfl (hb hby d1_14) rfl ((if0 _ _).trans (feq c102).2) (by decide) (by decide) ?_
   exact k_)
  have p106 : Go p.tables e below _ (s₁.setTop (mkF m 25 #[.val (.int p1), .val (.int (((p1.toUInt32 >>> (16 : UInt32)).toInt32) &&& (3 : Int32))), .val (.int (p1 &&& (1023 : Int32)))] [(.int (1 : Int32)), (.int (((p1.toUInt32 >>> (16 : UInt32)).toInt32) &&& (3 : Int32)))])) := fun t_ k_ => p105 t_ (by
   refine XS.iloadN X0.here hx rfl (hb hby d1_23) rfl ?_
   refine XS.iconst X0.here hx rfl (hb hby d1_24) ?_
   exact k_)
  by_cases c107 : (((p1.toUInt32 >>> (16 : UInt32)).toInt32) &&& (3 : Int32)) = (1 : Int32)
  ·have p108 : Go p.tables e below _ (s₁.setTop (mkF m 28 #[.val (.int p1), .val (.int (((p1.toUInt32 >>> (16 : UInt32)).toInt32) &&& (3 : Int32))), .val (.int (p1 &&& (1023 : Int32)))] [])) := fun t_ k_ => p106 t_ (by
    refine XS.icmpNo X0.here hx rfl (hb hby d1_25) rfl (teq c107).2 ?_
    exact k_)
   have p109 : Go p.tables e below _ (s₁.setTop (mkF m 33 #[.val (.int p1), .val (.int (((p1.toUInt32 >>> (16 : UInt32)).toInt32) &&& (3 : Int32))), .val (.int (p1 &&& (1023 : Int32)))] [(.int (((55296 : Int32) + (p1 &&& (1023 : Int32))).toUInt32.toUInt16.toUInt32.toInt32))])) := fun t_ k_ => p108 t_ (by
    refine X0.ldcInt hx hown (mvT hZ (own_w hw 101 rfl)) (g := (mkF m 28 #[.val (.int p1), .val (.int (((p1.toUInt32 >>> (16 : UInt32)).toInt32) &&& (3 : Int32))), .val (.int (p1 &&& (1023 : Int32)))] [])) rfl (hb hby d1_28) _ ?_
    refine XS.iloadN X0.here hx rfl (hb hby d1_30) rfl ?_
    refine XS.iadd X0.here hx rfl (hb hby d1_31) rfl ?_
    refine XS.i2c X0.here hx rfl (hb hby d1_32) rfl ?_
    exact k_)
   obtain ⟨fs, hr, hrun, hended, hW, hsame⟩ := X0.leave (v := some (.int (nar .char (((55296 : Int32) + (p1 &&& (1023 : Int32))).toUInt32.toUInt16.toUInt32.toInt32)))) (fun h => by rw [Bd.returns] at h; cases h)
   refine ⟨_, _, p109 _ (retN X0 hx (t := .char) Bd.returns (by simp) (hb hby d1_33) hr), hrun, hended, _, _, rfl, ?_, ⟨_, rfl⟩, hW, hsame.mono (by decide) (by decide)⟩
   show Q1 Z p1 h0 n0 _ s₁.heap _
   rw [e0]
   exact ⟨_, rfl, N0, rfl, (own_narcr _).1, (own_narcr _).2⟩
  ·have p110 : Go p.tables e below _ (s₁.setTop (mkF m 34 #[.val (.int p1), .val (.int (((p1.toUInt32 >>> (16 : UInt32)).toInt32) &&& (3 : Int32))), .val (.int (p1 &&& (1023 : Int32)))] [])) := fun t_ k_ => p106 t_ (by
    refine XS.icmpYes X0.here hx rfl (pc0 := 25) (pc' := 34) rfl (hb hby d1_25) rfl (feq c107).2 (by decide) (by decide) ?_
    exact k_)
   have p111 : Go p.tables e below _ (s₁.setTop (mkF m 36 #[.val (.int p1), .val (.int (((p1.toUInt32 >>> (16 : UInt32)).toInt32) &&& (3 : Int32))), .val (.int (p1 &&& (1023 : Int32)))] [(.int (2 : Int32)), (.int (((p1.toUInt32 >>> (16 : UInt32)).toInt32) &&& (3 : Int32)))])) := fun t_ k_ => p110 t_ (by
    refine XS.iloadN X0.here hx rfl (hb hby d1_34) rfl ?_
    refine XS.iconst X0.here hx rfl (hb hby d1_35) ?_
    exact k_)
   by_cases c112 : (((p1.toUInt32 >>> (16 : UInt32)).toInt32) &&& (3 : Int32)) = (2 : Int32)
   ·have p113 : Go p.tables e below _ (s₁.setTop (mkF m 39 #[.val (.int p1), .val (.int (((p1.toUInt32 >>> (16 : UInt32)).toInt32) &&& (3 : Int32))), .val (.int (p1 &&& (1023 : Int32)))] [])) := fun t_ k_ => p111 t_ (by
     refine XS.icmpNo X0.here hx rfl (hb hby d1_36) rfl (teq c112).2 ?_
     exact k_)
    have p114 : Go p.tables e below _ (s₁.setTop (mkF m 44 #[.val (.int p1), .val (.int (((p1.toUInt32 >>> (16 : UInt32)).toInt32) &&& (3 : Int32))), .val (.int (p1 &&& (1023 : Int32)))] [(.int (((56320 : Int32) + (p1 &&& (1023 : Int32))).toUInt32.toUInt16.toUInt32.toInt32))])) := fun t_ k_ => p113 t_ (by
     refine X0.ldcInt hx hown (mvT hZ (own_w hw 102 rfl)) (g := (mkF m 39 #[.val (.int p1), .val (.int (((p1.toUInt32 >>> (16 : UInt32)).toInt32) &&& (3 : Int32))), .val (.int (p1 &&& (1023 : Int32)))] [])) rfl (hb hby d1_39) _ ?_
     refine XS.iloadN X0.here hx rfl (hb hby d1_41) rfl ?_
     refine XS.iadd X0.here hx rfl (hb hby d1_42) rfl ?_
     refine XS.i2c X0.here hx rfl (hb hby d1_43) rfl ?_
     exact k_)
    obtain ⟨fs, hr, hrun, hended, hW, hsame⟩ := X0.leave (v := some (.int (nar .char (((56320 : Int32) + (p1 &&& (1023 : Int32))).toUInt32.toUInt16.toUInt32.toInt32)))) (fun h => by rw [Bd.returns] at h; cases h)
    refine ⟨_, _, p114 _ (retN X0 hx (t := .char) Bd.returns (by simp) (hb hby d1_44) hr), hrun, hended, _, _, rfl, ?_, ⟨_, rfl⟩, hW, hsame.mono (by decide) (by decide)⟩
    show Q1 Z p1 h0 n0 _ s₁.heap _
    rw [e0]
    exact ⟨_, rfl, N0, rfl, (own_narcr _).1, (own_narcr _).2⟩
   ·have p115 : Go p.tables e below _ (s₁.setTop (mkF m 45 #[.val (.int p1), .val (.int (((p1.toUInt32 >>> (16 : UInt32)).toInt32) &&& (3 : Int32))), .val (.int (p1 &&& (1023 : Int32)))] [])) := fun t_ k_ => p111 t_ (by
     refine XS.icmpYes X0.here hx rfl (pc0 := 36) (pc' := 45) rfl (hb hby d1_36) rfl (feq c112).2 (by decide) (by decide) ?_
     exact k_)
    have p116 : Go p.tables e below _ (s₁.setTop (mkF m 50 #[.val (.int p1), .val (.int (((p1.toUInt32 >>> (16 : UInt32)).toInt32) &&& (3 : Int32))), .val (.int (p1 &&& (1023 : Int32)))] [(.int ((p1 &&& (127 : Int32)).toUInt32.toUInt16.toUInt32.toInt32))])) := fun t_ k_ => p115 t_ (by
     refine XS.iloadN X0.here hx rfl (hb hby d1_45) rfl ?_
     refine XS.bipush X0.here hx rfl (hb hby d1_46) ?_
     refine XS.iand X0.here hx rfl (hb hby d1_48) rfl ?_
     refine XS.i2c X0.here hx rfl (hb hby d1_49) rfl ?_
     exact k_)
    obtain ⟨fs, hr, hrun, hended, hW, hsame⟩ := X0.leave (v := some (.int (nar .char ((p1 &&& (127 : Int32)).toUInt32.toUInt16.toUInt32.toInt32)))) (fun h => by rw [Bd.returns] at h; cases h)
    refine ⟨_, _, p116 _ (retN X0 hx (t := .char) Bd.returns (by simp) (hb hby d1_50) hr), hrun, hended, _, _, rfl, ?_, ⟨_, rfl⟩, hW, hsame.mono (by decide) (by decide)⟩
    show Q1 Z p1 h0 n0 _ s₁.heap _
    rw [e0]
    exact ⟨_, rfl, N0, rfl, (own_narcr _).1, (own_narcr _).2⟩
theorem d20_0 : decode method_3_code 0 = .ok (.iload_n 0, 1) := by decide +kernel
theorem d20_1 : decode method_3_code 1 = .ok (.ldc 8, 2) := by decide +kernel
theorem d20_3 : decode method_3_code 3 = .ok (.if_icmp .lt 13, 3) := by decide +kernel
theorem d20_6 : decode method_3_code 6 = .ok (.iload_n 0, 1) := by decide +kernel
theorem d20_7 : decode method_3_code 7 = .ok (.ldc 10, 2) := by decide +kernel
theorem d20_9 : decode method_3_code 9 = .ok (.if_icmp .gt 7, 3) := by decide +kernel
theorem d20_12 : decode method_3_code 12 = .ok (.iconst 1, 1) := by decide +kernel
theorem d20_13 : decode method_3_code 13 = .ok (.goto 4, 3) := by decide +kernel
theorem d20_16 : decode method_3_code 16 = .ok (.iconst 0, 1) := by decide +kernel
theorem d20_17 : decode method_3_code 17 = .ok (.ireturn, 1) := by decide +kernel
theorem pn20 : plainFor (⟨"com/example/subsume/subsume/model/LinesCharacterPinLaw", "high", "(C)Z"⟩ : MethodName) = true := plainFor_of_name (by first | (simp [plainName, overriddenIn]; done) | decide +kernel)
theorem ef_rm20 (m : MethodId) (p1 : Int32) : entryFrame m #[(.int p1)] 1 = mkF m 0 #[.val (.int p1)] [] := by first | (simp [entryFrame, mkF, argsToLocals, Value.category]; done) | rfl
def Q20 (Z : State) (p1 : Int32) (h0 : Heap) (n0 : Nat) (v : Option Value) (h : Heap) (L : List Loc) : Prop := v = some (.int (own_hi p1)) ∧ Fr n0 L ∧ (h = h0)
set_option maxRecDepth 65536 in
set_option maxHeartbeats 40000000 in
theorem rm20 (l : Launch) (Z : State) (a0 : Array Value) (hw : ∀ d ∈ tables_1, d.before a0 Z = true) (ws : List Jvm.Cond) (p1 : Int32) (h0 : Heap) (n0 : Nat) (Z0 : n0 ≤ h0.size) :
  MetFree l (⟨"com/example/subsume/subsume/model/LinesCharacterPinLaw", "high", "(C)Z"⟩ : MethodName) (head1 (Jvm.Cond.code (⟨"com/example/subsume/subsume/model/LinesCharacterPinLaw", "high", "(C)Z"⟩ : MethodName) method_3_code 1 (some .boolean) :: ws) ({ frames := 0, cells := 0, slots := 0, locals := 0 } : Room)) (fun a U => a = #[(.int p1)] ∧ Z.Warmed39 U.vm ∧ U.heap = h0) (fun _ _ _ _ _ => True) (fun _ U o U' => ∃ v L, o = .returned v ∧ Q20 Z p1 h0 n0 v U'.heap L ∧ FrameEnd U o U' L ({ frames := 0, cells := 0, slots := 0, locals := 0 } : Room).cells ({ frames := 0, cells := 0, slots := 0, locals := 0 } : Room).slots) := by
 refine MetFree.of_bodySF pn20 hisR ?_
 intro p e s m args below meth c s₁ Bd hml0 hP hK
 obtain ⟨rfl, hZ, hh⟩ := hP
 have hx := Bd.exec
 have hby := Bd.bytes
 have hml : c.maxLocals = 1 := hml0
 have hown : s.vm.findClass "com/example/subsume/subsume/model/LinesCharacterPinLaw" = some m.cls := findClass_of_methodNamed Bd.named
 have hnm := (name_of_methodNamed Bd.named Bd.method).1
 have X0 : Stand p l e ({ frames := 0, cells := 0, slots := 0, locals := 0 } : Room) s m #[(.int p1)] below meth c s₁ [] 0 0 := Stand.of_body Bd
 have e0 : s₁.heap = h0 := by rw [← hh, Bd.state]; rfl
 have N0 := Fr.nil n0
 have p0 : Go p.tables e below (s₁.setTop (entryFrame m #[(.int p1)] 1)) (s₁.setTop (mkF m 0 #[.val (.int p1)] [])) := fun t_ k_ => castTop (ef_rm20 m p1) k_
 have p101 : Go p.tables e below _ (s₁.setTop (mkF m 3 #[.val (.int p1)] [(.int (55296 : Int32)), (.int p1)])) := fun t_ k_ => p0 t_ (by
  refine XS.iloadN X0.here hx rfl (hb hby d20_0) rfl ?_
  refine X0.ldcInt hx hown (mvT hZ (own_w hw 101 rfl)) (g := (mkF m 1 #[.val (.int p1)] [(.int p1)])) rfl (hb hby d20_1) _ ?_
  exact k_)
 by_cases c102 : p1 < (55296 : Int32)
 ·have p103 : Go p.tables e below _ (s₁.setTop (mkF m 16 #[.val (.int p1)] [])) := fun t_ k_ => p101 t_ (by
   refine XS.icmpYes X0.here hx rfl (pc0 := 3) (pc' := 16) rfl (hb hby d20_3) rfl (tlt c102).1 (by decide) (by decide) ?_
   exact k_)
  have p104 : Go p.tables e below _ (s₁.setTop (mkF m 17 #[.val (.int p1)] [(.int (0 : Int32))])) := fun t_ k_ => p103 t_ (by
   refine XS.iconst X0.here hx rfl (hb hby d20_16) ?_
   exact k_)
  obtain ⟨fs, hr, hrun, hended, hW, hsame⟩ := X0.leave (v := some (.int (0 : Int32))) (fun h => by rw [Bd.returns] at h; cases h)
  refine ⟨_, _, p104 _ (retN X0 hx (t := .boolean) Bd.returns (by simp) (hb hby d20_17) hr), hrun, hended, _, _, rfl, ?_, ⟨_, rfl⟩, hW, hsame.mono (by decide) (by decide)⟩
  show Q20 Z p1 h0 n0 _ s₁.heap _
  rw [e0]
  exact ⟨by simp [own_hi, c102], N0, rfl⟩
 ·have p105 : Go p.tables e below _ (s₁.setTop (mkF m 6 #[.val (.int p1)] [])) := fun t_ k_ => p101 t_ (by
   refine XS.icmpNo X0.here hx rfl (hb hby d20_3) rfl (flt c102).1 ?_
   exact k_)
  have p106 : Go p.tables e below _ (s₁.setTop (mkF m 9 #[.val (.int p1)] [(.int (56319 : Int32)), (.int p1)])) := fun t_ k_ => p105 t_ (by
   refine XS.iloadN X0.here hx rfl (hb hby d20_6) rfl ?_
   refine X0.ldcInt hx hown (mvT hZ (own_w hw 148 rfl)) (g := (mkF m 7 #[.val (.int p1)] [(.int p1)])) rfl (hb hby d20_7) _ ?_
   exact k_)
  by_cases c107 : (56319 : Int32) < p1
  ·have p108 : Go p.tables e below _ (s₁.setTop (mkF m 16 #[.val (.int p1)] [])) := fun t_ k_ => p106 t_ (by
    refine XS.icmpYes X0.here hx rfl (pc0 := 9) (pc' := 16) rfl (hb hby d20_9) rfl (tlt c107).2.2.1 (by decide) (by decide) ?_
    exact k_)
   have p109 : Go p.tables e below _ (s₁.setTop (mkF m 17 #[.val (.int p1)] [(.int (0 : Int32))])) := fun t_ k_ => p108 t_ (by
    refine XS.iconst X0.here hx rfl (hb hby d20_16) ?_
    exact k_)
   obtain ⟨fs, hr, hrun, hended, hW, hsame⟩ := X0.leave (v := some (.int (0 : Int32))) (fun h => by rw [Bd.returns] at h; cases h)
   refine ⟨_, _, p109 _ (retN X0 hx (t := .boolean) Bd.returns (by simp) (hb hby d20_17) hr), hrun, hended, _, _, rfl, ?_, ⟨_, rfl⟩, hW, hsame.mono (by decide) (by decide)⟩
   show Q20 Z p1 h0 n0 _ s₁.heap _
   rw [e0]
   exact ⟨by rw [own_lt1 _ 56319 56320 rfl] at c107; simp [own_hi, c102, c107], N0, rfl⟩
  ·have p110 : Go p.tables e below _ (s₁.setTop (mkF m 12 #[.val (.int p1)] [])) := fun t_ k_ => p106 t_ (by
    refine XS.icmpNo X0.here hx rfl (hb hby d20_9) rfl (flt c107).2.2.1 ?_
    exact k_)
   have p111 : Go p.tables e below _ (s₁.setTop (mkF m 17 #[.val (.int p1)] [(.int (1 : Int32))])) := fun t_ k_ => p110 t_ (by
    refine XS.iconst X0.here hx rfl (hb hby d20_12) ?_
    refine XS.goto X0.here hx rfl (pc0 := 13) (pc' := 17) rfl (hb hby d20_13) (by decide) (by decide) ?_
    exact k_)
   obtain ⟨fs, hr, hrun, hended, hW, hsame⟩ := X0.leave (v := some (.int (1 : Int32))) (fun h => by rw [Bd.returns] at h; cases h)
   refine ⟨_, _, p111 _ (retN X0 hx (t := .boolean) Bd.returns (by simp) (hb hby d20_17) hr), hrun, hended, _, _, rfl, ?_, ⟨_, rfl⟩, hW, hsame.mono (by decide) (by decide)⟩
   show Q20 Z p1 h0 n0 _ s₁.heap _
   rw [e0]
   exact ⟨by rw [own_lt1 _ 56319 56320 rfl] at c107; simp [own_hi, c102, c107], N0, rfl⟩
theorem d33_0 : decode method_4_code 0 = .ok (.iload_n 0, 1) := by decide +kernel
theorem d33_1 : decode method_4_code 1 = .ok (.ldc 9, 2) := by decide +kernel
theorem d33_3 : decode method_4_code 3 = .ok (.if_icmp .lt 13, 3) := by decide +kernel
theorem d33_6 : decode method_4_code 6 = .ok (.iload_n 0, 1) := by decide +kernel
theorem d33_7 : decode method_4_code 7 = .ok (.ldc 11, 2) := by decide +kernel
theorem d33_9 : decode method_4_code 9 = .ok (.if_icmp .gt 7, 3) := by decide +kernel
theorem d33_12 : decode method_4_code 12 = .ok (.iconst 1, 1) := by decide +kernel
theorem d33_13 : decode method_4_code 13 = .ok (.goto 4, 3) := by decide +kernel
theorem d33_16 : decode method_4_code 16 = .ok (.iconst 0, 1) := by decide +kernel
theorem d33_17 : decode method_4_code 17 = .ok (.ireturn, 1) := by decide +kernel
theorem pn33 : plainFor (⟨"com/example/subsume/subsume/model/LinesCharacterPinLaw", "low", "(C)Z"⟩ : MethodName) = true := plainFor_of_name (by first | (simp [plainName, overriddenIn]; done) | decide +kernel)
theorem ef_rm33 (m : MethodId) (p1 : Int32) : entryFrame m #[(.int p1)] 1 = mkF m 0 #[.val (.int p1)] [] := by first | (simp [entryFrame, mkF, argsToLocals, Value.category]; done) | rfl
def Q33 (Z : State) (p1 : Int32) (h0 : Heap) (n0 : Nat) (v : Option Value) (h : Heap) (L : List Loc) : Prop := v = some (.int (own_lo p1)) ∧ Fr n0 L ∧ (h = h0)
set_option maxRecDepth 65536 in
set_option maxHeartbeats 40000000 in
theorem rm33 (l : Launch) (Z : State) (a0 : Array Value) (hw : ∀ d ∈ tables_1, d.before a0 Z = true) (ws : List Jvm.Cond) (p1 : Int32) (h0 : Heap) (n0 : Nat) (Z0 : n0 ≤ h0.size) :
  MetFree l (⟨"com/example/subsume/subsume/model/LinesCharacterPinLaw", "low", "(C)Z"⟩ : MethodName) (head1 (Jvm.Cond.code (⟨"com/example/subsume/subsume/model/LinesCharacterPinLaw", "low", "(C)Z"⟩ : MethodName) method_4_code 1 (some .boolean) :: ws) ({ frames := 0, cells := 0, slots := 0, locals := 0 } : Room)) (fun a U => a = #[(.int p1)] ∧ Z.Warmed39 U.vm ∧ U.heap = h0) (fun _ _ _ _ _ => True) (fun _ U o U' => ∃ v L, o = .returned v ∧ Q33 Z p1 h0 n0 v U'.heap L ∧ FrameEnd U o U' L ({ frames := 0, cells := 0, slots := 0, locals := 0 } : Room).cells ({ frames := 0, cells := 0, slots := 0, locals := 0 } : Room).slots) := by
 refine MetFree.of_bodySF pn33 hisR ?_
 intro p e s m args below meth c s₁ Bd hml0 hP hK
 obtain ⟨rfl, hZ, hh⟩ := hP
 have hx := Bd.exec
 have hby := Bd.bytes
 have hml : c.maxLocals = 1 := hml0
 have hown : s.vm.findClass "com/example/subsume/subsume/model/LinesCharacterPinLaw" = some m.cls := findClass_of_methodNamed Bd.named
 have hnm := (name_of_methodNamed Bd.named Bd.method).1
 have X0 : Stand p l e ({ frames := 0, cells := 0, slots := 0, locals := 0 } : Room) s m #[(.int p1)] below meth c s₁ [] 0 0 := Stand.of_body Bd
 have e0 : s₁.heap = h0 := by rw [← hh, Bd.state]; rfl
 have N0 := Fr.nil n0
 have p0 : Go p.tables e below (s₁.setTop (entryFrame m #[(.int p1)] 1)) (s₁.setTop (mkF m 0 #[.val (.int p1)] [])) := fun t_ k_ => castTop (ef_rm33 m p1) k_
 have p101 : Go p.tables e below _ (s₁.setTop (mkF m 3 #[.val (.int p1)] [(.int (56320 : Int32)), (.int p1)])) := fun t_ k_ => p0 t_ (by
  refine XS.iloadN X0.here hx rfl (hb hby d33_0) rfl ?_
  refine X0.ldcInt hx hown (mvT hZ (own_w hw 102 rfl)) (g := (mkF m 1 #[.val (.int p1)] [(.int p1)])) rfl (hb hby d33_1) _ ?_
  exact k_)
 by_cases c102 : p1 < (56320 : Int32)
 ·have p103 : Go p.tables e below _ (s₁.setTop (mkF m 16 #[.val (.int p1)] [])) := fun t_ k_ => p101 t_ (by
   refine XS.icmpYes X0.here hx rfl (pc0 := 3) (pc' := 16) rfl (hb hby d33_3) rfl (tlt c102).1 (by decide) (by decide) ?_
   exact k_)
  have p104 : Go p.tables e below _ (s₁.setTop (mkF m 17 #[.val (.int p1)] [(.int (0 : Int32))])) := fun t_ k_ => p103 t_ (by
   refine XS.iconst X0.here hx rfl (hb hby d33_16) ?_
   exact k_)
  obtain ⟨fs, hr, hrun, hended, hW, hsame⟩ := X0.leave (v := some (.int (0 : Int32))) (fun h => by rw [Bd.returns] at h; cases h)
  refine ⟨_, _, p104 _ (retN X0 hx (t := .boolean) Bd.returns (by simp) (hb hby d33_17) hr), hrun, hended, _, _, rfl, ?_, ⟨_, rfl⟩, hW, hsame.mono (by decide) (by decide)⟩
  show Q33 Z p1 h0 n0 _ s₁.heap _
  rw [e0]
  exact ⟨by simp [own_lo, c102], N0, rfl⟩
 ·have p105 : Go p.tables e below _ (s₁.setTop (mkF m 6 #[.val (.int p1)] [])) := fun t_ k_ => p101 t_ (by
   refine XS.icmpNo X0.here hx rfl (hb hby d33_3) rfl (flt c102).1 ?_
   exact k_)
  have p106 : Go p.tables e below _ (s₁.setTop (mkF m 9 #[.val (.int p1)] [(.int (57343 : Int32)), (.int p1)])) := fun t_ k_ => p105 t_ (by
   refine XS.iloadN X0.here hx rfl (hb hby d33_6) rfl ?_
   refine X0.ldcInt hx hown (mvT hZ (own_w hw 152 rfl)) (g := (mkF m 7 #[.val (.int p1)] [(.int p1)])) rfl (hb hby d33_7) _ ?_
   exact k_)
  by_cases c107 : (57343 : Int32) < p1
  ·have p108 : Go p.tables e below _ (s₁.setTop (mkF m 16 #[.val (.int p1)] [])) := fun t_ k_ => p106 t_ (by
    refine XS.icmpYes X0.here hx rfl (pc0 := 9) (pc' := 16) rfl (hb hby d33_9) rfl (tlt c107).2.2.1 (by decide) (by decide) ?_
    exact k_)
   have p109 : Go p.tables e below _ (s₁.setTop (mkF m 17 #[.val (.int p1)] [(.int (0 : Int32))])) := fun t_ k_ => p108 t_ (by
    refine XS.iconst X0.here hx rfl (hb hby d33_16) ?_
    exact k_)
   obtain ⟨fs, hr, hrun, hended, hW, hsame⟩ := X0.leave (v := some (.int (0 : Int32))) (fun h => by rw [Bd.returns] at h; cases h)
   refine ⟨_, _, p109 _ (retN X0 hx (t := .boolean) Bd.returns (by simp) (hb hby d33_17) hr), hrun, hended, _, _, rfl, ?_, ⟨_, rfl⟩, hW, hsame.mono (by decide) (by decide)⟩
   show Q33 Z p1 h0 n0 _ s₁.heap _
   rw [e0]
   exact ⟨by rw [own_lt1 _ 57343 57344 rfl] at c107; simp [own_lo, c102, c107], N0, rfl⟩
  ·have p110 : Go p.tables e below _ (s₁.setTop (mkF m 12 #[.val (.int p1)] [])) := fun t_ k_ => p106 t_ (by
    refine XS.icmpNo X0.here hx rfl (hb hby d33_9) rfl (flt c107).2.2.1 ?_
    exact k_)
   have p111 : Go p.tables e below _ (s₁.setTop (mkF m 17 #[.val (.int p1)] [(.int (1 : Int32))])) := fun t_ k_ => p110 t_ (by
    refine XS.iconst X0.here hx rfl (hb hby d33_12) ?_
    refine XS.goto X0.here hx rfl (pc0 := 13) (pc' := 17) rfl (hb hby d33_13) (by decide) (by decide) ?_
    exact k_)
   obtain ⟨fs, hr, hrun, hended, hW, hsame⟩ := X0.leave (v := some (.int (1 : Int32))) (fun h => by rw [Bd.returns] at h; cases h)
   refine ⟨_, _, p111 _ (retN X0 hx (t := .boolean) Bd.returns (by simp) (hb hby d33_17) hr), hrun, hended, _, _, rfl, ?_, ⟨_, rfl⟩, hW, hsame.mono (by decide) (by decide)⟩
   show Q33 Z p1 h0 n0 _ s₁.heap _
   rw [e0]
   exact ⟨by rw [own_lt1 _ 57343 57344 rfl] at c107; simp [own_lo, c102, c107], N0, rfl⟩
theorem d31_0 : decode jdk_89_method_14_code 0 = .ok (.iload_n 0, 1) := by decide +kernel
theorem d31_1 : decode jdk_89_method_14_code 1 = .ok (.ldc 75, 2) := by decide +kernel
theorem d31_3 : decode jdk_89_method_14_code 3 = .ok (.if_icmp .lt 13, 3) := by decide +kernel
theorem d31_6 : decode jdk_89_method_14_code 6 = .ok (.iload_n 0, 1) := by decide +kernel
theorem d31_7 : decode jdk_89_method_14_code 7 = .ok (.ldc 76, 2) := by decide +kernel
theorem d31_9 : decode jdk_89_method_14_code 9 = .ok (.if_icmp .ge 7, 3) := by decide +kernel
theorem d31_12 : decode jdk_89_method_14_code 12 = .ok (.iconst 1, 1) := by decide +kernel
theorem d31_13 : decode jdk_89_method_14_code 13 = .ok (.goto 4, 3) := by decide +kernel
theorem d31_16 : decode jdk_89_method_14_code 16 = .ok (.iconst 0, 1) := by decide +kernel
theorem d31_17 : decode jdk_89_method_14_code 17 = .ok (.ireturn, 1) := by decide +kernel
theorem pn31 : plainFor (⟨"java/lang/Character", "isHighSurrogate", "(C)Z"⟩ : MethodName) = true := plainFor_of_name (by first | (simp [plainName, overriddenIn]; done) | decide +kernel)
theorem ef_rm31 (m : MethodId) (p1 : Int32) : entryFrame m #[(.int p1)] 1 = mkF m 0 #[.val (.int p1)] [] := by first | (simp [entryFrame, mkF, argsToLocals, Value.category]; done) | rfl
def Q31 (Z : State) (p1 : Int32) (h0 : Heap) (n0 : Nat) (v : Option Value) (h : Heap) (L : List Loc) : Prop := v = some (.int (own_hi p1)) ∧ Fr n0 L ∧ (h = h0)
set_option maxRecDepth 65536 in
set_option maxHeartbeats 40000000 in
theorem rm31 (l : Launch) (Z : State) (a0 : Array Value) (hw : ∀ d ∈ tables_1, d.before a0 Z = true) (ws : List Jvm.Cond) (p1 : Int32) (h0 : Heap) (n0 : Nat) (Z0 : n0 ≤ h0.size) :
  MetFree l (⟨"java/lang/Character", "isHighSurrogate", "(C)Z"⟩ : MethodName) (head1 (Jvm.Cond.code (⟨"java/lang/Character", "isHighSurrogate", "(C)Z"⟩ : MethodName) jdk_89_method_14_code 1 (some .boolean) :: ws) ({ frames := 0, cells := 0, slots := 0, locals := 0 } : Room)) (fun a U => a = #[(.int p1)] ∧ Z.Warmed39 U.vm ∧ U.heap = h0) (fun _ _ _ _ _ => True) (fun _ U o U' => ∃ v L, o = .returned v ∧ Q31 Z p1 h0 n0 v U'.heap L ∧ FrameEnd U o U' L ({ frames := 0, cells := 0, slots := 0, locals := 0 } : Room).cells ({ frames := 0, cells := 0, slots := 0, locals := 0 } : Room).slots) := by
 refine MetFree.of_bodySF pn31 hisR ?_
 intro p e s m args below meth c s₁ Bd hml0 hP hK
 obtain ⟨rfl, hZ, hh⟩ := hP
 have hx := Bd.exec
 have hby := Bd.bytes
 have hml : c.maxLocals = 1 := hml0
 have hown : s.vm.findClass "java/lang/Character" = some m.cls := findClass_of_methodNamed Bd.named
 have hnm := (name_of_methodNamed Bd.named Bd.method).1
 have X0 : Stand p l e ({ frames := 0, cells := 0, slots := 0, locals := 0 } : Room) s m #[(.int p1)] below meth c s₁ [] 0 0 := Stand.of_body Bd
 have e0 : s₁.heap = h0 := by rw [← hh, Bd.state]; rfl
 have N0 := Fr.nil n0
 have p0 : Go p.tables e below (s₁.setTop (entryFrame m #[(.int p1)] 1)) (s₁.setTop (mkF m 0 #[.val (.int p1)] [])) := fun t_ k_ => castTop (ef_rm31 m p1) k_
 have p101 : Go p.tables e below _ (s₁.setTop (mkF m 3 #[.val (.int p1)] [(.int (55296 : Int32)), (.int p1)])) := fun t_ k_ => p0 t_ (by
  refine XS.iloadN X0.here hx rfl (hb hby d31_0) rfl ?_
  refine X0.ldcInt hx hown (mvT hZ (own_w hw 142 rfl)) (g := (mkF m 1 #[.val (.int p1)] [(.int p1)])) rfl (hb hby d31_1) _ ?_
  exact k_)
 by_cases c102 : p1 < (55296 : Int32)
 ·have p103 : Go p.tables e below _ (s₁.setTop (mkF m 16 #[.val (.int p1)] [])) := fun t_ k_ => p101 t_ (by
   refine XS.icmpYes X0.here hx rfl (pc0 := 3) (pc' := 16) rfl (hb hby d31_3) rfl (tlt c102).1 (by decide) (by decide) ?_
   exact k_)
  have p104 : Go p.tables e below _ (s₁.setTop (mkF m 17 #[.val (.int p1)] [(.int (0 : Int32))])) := fun t_ k_ => p103 t_ (by
   refine XS.iconst X0.here hx rfl (hb hby d31_16) ?_
   exact k_)
  obtain ⟨fs, hr, hrun, hended, hW, hsame⟩ := X0.leave (v := some (.int (0 : Int32))) (fun h => by rw [Bd.returns] at h; cases h)
  refine ⟨_, _, p104 _ (retN X0 hx (t := .boolean) Bd.returns (by simp) (hb hby d31_17) hr), hrun, hended, _, _, rfl, ?_, ⟨_, rfl⟩, hW, hsame.mono (by decide) (by decide)⟩
  show Q31 Z p1 h0 n0 _ s₁.heap _
  rw [e0]
  exact ⟨by simp [own_hi, c102], N0, rfl⟩
 ·have p105 : Go p.tables e below _ (s₁.setTop (mkF m 6 #[.val (.int p1)] [])) := fun t_ k_ => p101 t_ (by
   refine XS.icmpNo X0.here hx rfl (hb hby d31_3) rfl (flt c102).1 ?_
   exact k_)
  have p106 : Go p.tables e below _ (s₁.setTop (mkF m 9 #[.val (.int p1)] [(.int (56320 : Int32)), (.int p1)])) := fun t_ k_ => p105 t_ (by
   refine XS.iloadN X0.here hx rfl (hb hby d31_6) rfl ?_
   refine X0.ldcInt hx hown (mvT hZ (own_w hw 143 rfl)) (g := (mkF m 7 #[.val (.int p1)] [(.int p1)])) rfl (hb hby d31_7) _ ?_
   exact k_)
  by_cases c107 : p1 < (56320 : Int32)
  ·have p108 : Go p.tables e below _ (s₁.setTop (mkF m 12 #[.val (.int p1)] [])) := fun t_ k_ => p106 t_ (by
    refine XS.icmpNo X0.here hx rfl (hb hby d31_9) rfl (tlt c107).2.1 ?_
    exact k_)
   have p109 : Go p.tables e below _ (s₁.setTop (mkF m 17 #[.val (.int p1)] [(.int (1 : Int32))])) := fun t_ k_ => p108 t_ (by
    refine XS.iconst X0.here hx rfl (hb hby d31_12) ?_
    refine XS.goto X0.here hx rfl (pc0 := 13) (pc' := 17) rfl (hb hby d31_13) (by decide) (by decide) ?_
    exact k_)
   obtain ⟨fs, hr, hrun, hended, hW, hsame⟩ := X0.leave (v := some (.int (1 : Int32))) (fun h => by rw [Bd.returns] at h; cases h)
   refine ⟨_, _, p109 _ (retN X0 hx (t := .boolean) Bd.returns (by simp) (hb hby d31_17) hr), hrun, hended, _, _, rfl, ?_, ⟨_, rfl⟩, hW, hsame.mono (by decide) (by decide)⟩
   show Q31 Z p1 h0 n0 _ s₁.heap _
   rw [e0]
   exact ⟨by simp [own_hi, c102, c107], N0, rfl⟩
  ·have p110 : Go p.tables e below _ (s₁.setTop (mkF m 16 #[.val (.int p1)] [])) := fun t_ k_ => p106 t_ (by
    refine XS.icmpYes X0.here hx rfl (pc0 := 9) (pc' := 16) rfl (hb hby d31_9) rfl (flt c107).2.1 (by decide) (by decide) ?_
    exact k_)
   have p111 : Go p.tables e below _ (s₁.setTop (mkF m 17 #[.val (.int p1)] [(.int (0 : Int32))])) := fun t_ k_ => p110 t_ (by
    refine XS.iconst X0.here hx rfl (hb hby d31_16) ?_
    exact k_)
   obtain ⟨fs, hr, hrun, hended, hW, hsame⟩ := X0.leave (v := some (.int (0 : Int32))) (fun h => by rw [Bd.returns] at h; cases h)
   refine ⟨_, _, p111 _ (retN X0 hx (t := .boolean) Bd.returns (by simp) (hb hby d31_17) hr), hrun, hended, _, _, rfl, ?_, ⟨_, rfl⟩, hW, hsame.mono (by decide) (by decide)⟩
   show Q31 Z p1 h0 n0 _ s₁.heap _
   rw [e0]
   exact ⟨by simp [own_hi, c102, c107], N0, rfl⟩
theorem d32_0 : decode jdk_89_method_15_code 0 = .ok (.iload_n 0, 1) := by decide +kernel
theorem d32_1 : decode jdk_89_method_15_code 1 = .ok (.ldc 76, 2) := by decide +kernel
theorem d32_3 : decode jdk_89_method_15_code 3 = .ok (.if_icmp .lt 13, 3) := by decide +kernel
theorem d32_6 : decode jdk_89_method_15_code 6 = .ok (.iload_n 0, 1) := by decide +kernel
theorem d32_7 : decode jdk_89_method_15_code 7 = .ok (.ldc 77, 2) := by decide +kernel
theorem d32_9 : decode jdk_89_method_15_code 9 = .ok (.if_icmp .ge 7, 3) := by decide +kernel
theorem d32_12 : decode jdk_89_method_15_code 12 = .ok (.iconst 1, 1) := by decide +kernel
theorem d32_13 : decode jdk_89_method_15_code 13 = .ok (.goto 4, 3) := by decide +kernel
theorem d32_16 : decode jdk_89_method_15_code 16 = .ok (.iconst 0, 1) := by decide +kernel
theorem d32_17 : decode jdk_89_method_15_code 17 = .ok (.ireturn, 1) := by decide +kernel
theorem pn32 : plainFor (⟨"java/lang/Character", "isLowSurrogate", "(C)Z"⟩ : MethodName) = true := plainFor_of_name (by first | (simp [plainName, overriddenIn]; done) | decide +kernel)
theorem ef_rm32 (m : MethodId) (p1 : Int32) : entryFrame m #[(.int p1)] 1 = mkF m 0 #[.val (.int p1)] [] := by first | (simp [entryFrame, mkF, argsToLocals, Value.category]; done) | rfl
def Q32 (Z : State) (p1 : Int32) (h0 : Heap) (n0 : Nat) (v : Option Value) (h : Heap) (L : List Loc) : Prop := v = some (.int (own_lo p1)) ∧ Fr n0 L ∧ (h = h0)
set_option maxRecDepth 65536 in
set_option maxHeartbeats 40000000 in
theorem rm32 (l : Launch) (Z : State) (a0 : Array Value) (hw : ∀ d ∈ tables_1, d.before a0 Z = true) (ws : List Jvm.Cond) (p1 : Int32) (h0 : Heap) (n0 : Nat) (Z0 : n0 ≤ h0.size) :
  MetFree l (⟨"java/lang/Character", "isLowSurrogate", "(C)Z"⟩ : MethodName) (head1 (Jvm.Cond.code (⟨"java/lang/Character", "isLowSurrogate", "(C)Z"⟩ : MethodName) jdk_89_method_15_code 1 (some .boolean) :: ws) ({ frames := 0, cells := 0, slots := 0, locals := 0 } : Room)) (fun a U => a = #[(.int p1)] ∧ Z.Warmed39 U.vm ∧ U.heap = h0) (fun _ _ _ _ _ => True) (fun _ U o U' => ∃ v L, o = .returned v ∧ Q32 Z p1 h0 n0 v U'.heap L ∧ FrameEnd U o U' L ({ frames := 0, cells := 0, slots := 0, locals := 0 } : Room).cells ({ frames := 0, cells := 0, slots := 0, locals := 0 } : Room).slots) := by
 refine MetFree.of_bodySF pn32 hisR ?_
 intro p e s m args below meth c s₁ Bd hml0 hP hK
 obtain ⟨rfl, hZ, hh⟩ := hP
 have hx := Bd.exec
 have hby := Bd.bytes
 have hml : c.maxLocals = 1 := hml0
 have hown : s.vm.findClass "java/lang/Character" = some m.cls := findClass_of_methodNamed Bd.named
 have hnm := (name_of_methodNamed Bd.named Bd.method).1
 have X0 : Stand p l e ({ frames := 0, cells := 0, slots := 0, locals := 0 } : Room) s m #[(.int p1)] below meth c s₁ [] 0 0 := Stand.of_body Bd
 have e0 : s₁.heap = h0 := by rw [← hh, Bd.state]; rfl
 have N0 := Fr.nil n0
 have p0 : Go p.tables e below (s₁.setTop (entryFrame m #[(.int p1)] 1)) (s₁.setTop (mkF m 0 #[.val (.int p1)] [])) := fun t_ k_ => castTop (ef_rm32 m p1) k_
 have p101 : Go p.tables e below _ (s₁.setTop (mkF m 3 #[.val (.int p1)] [(.int (56320 : Int32)), (.int p1)])) := fun t_ k_ => p0 t_ (by
  refine XS.iloadN X0.here hx rfl (hb hby d32_0) rfl ?_
  refine X0.ldcInt hx hown (mvT hZ (own_w hw 143 rfl)) (g := (mkF m 1 #[.val (.int p1)] [(.int p1)])) rfl (hb hby d32_1) _ ?_
  exact k_)
 by_cases c102 : p1 < (56320 : Int32)
 ·have p103 : Go p.tables e below _ (s₁.setTop (mkF m 16 #[.val (.int p1)] [])) := fun t_ k_ => p101 t_ (by
   refine XS.icmpYes X0.here hx rfl (pc0 := 3) (pc' := 16) rfl (hb hby d32_3) rfl (tlt c102).1 (by decide) (by decide) ?_
   exact k_)
  have p104 : Go p.tables e below _ (s₁.setTop (mkF m 17 #[.val (.int p1)] [(.int (0 : Int32))])) := fun t_ k_ => p103 t_ (by
   refine XS.iconst X0.here hx rfl (hb hby d32_16) ?_
   exact k_)
  obtain ⟨fs, hr, hrun, hended, hW, hsame⟩ := X0.leave (v := some (.int (0 : Int32))) (fun h => by rw [Bd.returns] at h; cases h)
  refine ⟨_, _, p104 _ (retN X0 hx (t := .boolean) Bd.returns (by simp) (hb hby d32_17) hr), hrun, hended, _, _, rfl, ?_, ⟨_, rfl⟩, hW, hsame.mono (by decide) (by decide)⟩
  show Q32 Z p1 h0 n0 _ s₁.heap _
  rw [e0]
  exact ⟨by simp [own_lo, c102], N0, rfl⟩
 ·have p105 : Go p.tables e below _ (s₁.setTop (mkF m 6 #[.val (.int p1)] [])) := fun t_ k_ => p101 t_ (by
   refine XS.icmpNo X0.here hx rfl (hb hby d32_3) rfl (flt c102).1 ?_
   exact k_)
  have p106 : Go p.tables e below _ (s₁.setTop (mkF m 9 #[.val (.int p1)] [(.int (57344 : Int32)), (.int p1)])) := fun t_ k_ => p105 t_ (by
   refine XS.iloadN X0.here hx rfl (hb hby d32_6) rfl ?_
   refine X0.ldcInt hx hown (mvT hZ (own_w hw 147 rfl)) (g := (mkF m 7 #[.val (.int p1)] [(.int p1)])) rfl (hb hby d32_7) _ ?_
   exact k_)
  by_cases c107 : p1 < (57344 : Int32)
  ·have p108 : Go p.tables e below _ (s₁.setTop (mkF m 12 #[.val (.int p1)] [])) := fun t_ k_ => p106 t_ (by
    refine XS.icmpNo X0.here hx rfl (hb hby d32_9) rfl (tlt c107).2.1 ?_
    exact k_)
   have p109 : Go p.tables e below _ (s₁.setTop (mkF m 17 #[.val (.int p1)] [(.int (1 : Int32))])) := fun t_ k_ => p108 t_ (by
    refine XS.iconst X0.here hx rfl (hb hby d32_12) ?_
    refine XS.goto X0.here hx rfl (pc0 := 13) (pc' := 17) rfl (hb hby d32_13) (by decide) (by decide) ?_
    exact k_)
   obtain ⟨fs, hr, hrun, hended, hW, hsame⟩ := X0.leave (v := some (.int (1 : Int32))) (fun h => by rw [Bd.returns] at h; cases h)
   refine ⟨_, _, p109 _ (retN X0 hx (t := .boolean) Bd.returns (by simp) (hb hby d32_17) hr), hrun, hended, _, _, rfl, ?_, ⟨_, rfl⟩, hW, hsame.mono (by decide) (by decide)⟩
   show Q32 Z p1 h0 n0 _ s₁.heap _
   rw [e0]
   exact ⟨by simp [own_lo, c102, c107], N0, rfl⟩
  ·have p110 : Go p.tables e below _ (s₁.setTop (mkF m 16 #[.val (.int p1)] [])) := fun t_ k_ => p106 t_ (by
    refine XS.icmpYes X0.here hx rfl (pc0 := 9) (pc' := 16) rfl (hb hby d32_9) rfl (flt c107).2.1 (by decide) (by decide) ?_
    exact k_)
   have p111 : Go p.tables e below _ (s₁.setTop (mkF m 17 #[.val (.int p1)] [(.int (0 : Int32))])) := fun t_ k_ => p110 t_ (by
    refine XS.iconst X0.here hx rfl (hb hby d32_16) ?_
    exact k_)
   obtain ⟨fs, hr, hrun, hended, hW, hsame⟩ := X0.leave (v := some (.int (0 : Int32))) (fun h => by rw [Bd.returns] at h; cases h)
   refine ⟨_, _, p111 _ (retN X0 hx (t := .boolean) Bd.returns (by simp) (hb hby d32_17) hr), hrun, hended, _, _, rfl, ?_, ⟨_, rfl⟩, hW, hsame.mono (by decide) (by decide)⟩
   show Q32 Z p1 h0 n0 _ s₁.heap _
   rw [e0]
   exact ⟨by simp [own_lo, c102, c107], N0, rfl⟩
theorem d19_0 : decode jdk_41_method_12_code 0 = .ok (.iload_n 0, 1) := by decide +kernel
theorem d19_1 : decode jdk_41_method_12_code 1 = .ok (.ifCond .lt 13, 3) := by decide +kernel
theorem d19_4 : decode jdk_41_method_12_code 4 = .ok (.iload_n 0, 1) := by decide +kernel
theorem d19_5 : decode jdk_41_method_12_code 5 = .ok (.iload_n 1, 1) := by decide +kernel
theorem d19_6 : decode jdk_41_method_12_code 6 = .ok (.if_icmp .gt 8, 3) := by decide +kernel
theorem d19_9 : decode jdk_41_method_12_code 9 = .ok (.iload_n 1, 1) := by decide +kernel
theorem d19_10 : decode jdk_41_method_12_code 10 = .ok (.iload_n 2, 1) := by decide +kernel
theorem d19_11 : decode jdk_41_method_12_code 11 = .ok (.if_icmp .le 11, 3) := by decide +kernel
theorem d19_22 : decode jdk_41_method_12_code 22 = .ok (.iload_n 0, 1) := by decide +kernel
theorem d19_23 : decode jdk_41_method_12_code 23 = .ok (.ireturn, 1) := by decide +kernel
theorem pn19 : plainFor (⟨"jdk/internal/util/Preconditions", "checkFromToIndex", "(IIILjava/util/function/BiFunction;)I"⟩ : MethodName) = true := plainFor_of_name (by first | (simp [plainName, overriddenIn]; done) | decide +kernel)
theorem ef_rm19_0 (m : MethodId)  : entryFrame m #[(.int (0 : Int32)), (.int (0 : Int32)), (.int (4 : Int32)), .null] 4 = mkF m 0 #[.val (.int (0 : Int32)), .val (.int (0 : Int32)), .val (.int (4 : Int32)), .val .null] [] := by first | (simp [entryFrame, mkF, argsToLocals, Value.category]; done) | rfl
def Q19_0 (Z : State)  (h0 : Heap) (n0 : Nat) (v : Option Value) (h : Heap) (L : List Loc) : Prop := v = some (.int (0 : Int32)) ∧ Fr n0 L ∧ (h = h0)
set_option maxRecDepth 65536 in
set_option maxHeartbeats 40000000 in
theorem rm19_0 (l : Launch) (Z : State) (a0 : Array Value) (hw : ∀ d ∈ tables_1, d.before a0 Z = true) (ws : List Jvm.Cond)  (h0 : Heap) (n0 : Nat) (Z0 : n0 ≤ h0.size) :
  MetFree l (⟨"jdk/internal/util/Preconditions", "checkFromToIndex", "(IIILjava/util/function/BiFunction;)I"⟩ : MethodName) (head1 (Jvm.Cond.code (⟨"jdk/internal/util/Preconditions", "checkFromToIndex", "(IIILjava/util/function/BiFunction;)I"⟩ : MethodName) jdk_41_method_12_code 4 (some .int) :: ws) ({ frames := 0, cells := 0, slots := 0, locals := 0 } : Room)) (fun a U => a = #[(.int (0 : Int32)), (.int (0 : Int32)), (.int (4 : Int32)), .null] ∧ Z.Warmed39 U.vm ∧ U.heap = h0) (fun _ _ _ _ _ => True) (fun _ U o U' => ∃ v L, o = .returned v ∧ Q19_0 Z  h0 n0 v U'.heap L ∧ FrameEnd U o U' L ({ frames := 0, cells := 0, slots := 0, locals := 0 } : Room).cells ({ frames := 0, cells := 0, slots := 0, locals := 0 } : Room).slots) := by
 refine MetFree.of_bodySF pn19 hisR ?_
 intro p e s m args below meth c s₁ Bd hml0 hP hK
 obtain ⟨rfl, hZ, hh⟩ := hP
 have hx := Bd.exec
 have hby := Bd.bytes
 have hml : c.maxLocals = 4 := hml0
 have hown : s.vm.findClass "jdk/internal/util/Preconditions" = some m.cls := findClass_of_methodNamed Bd.named
 have hnm := (name_of_methodNamed Bd.named Bd.method).1
 have X0 : Stand p l e ({ frames := 0, cells := 0, slots := 0, locals := 0 } : Room) s m #[(.int (0 : Int32)), (.int (0 : Int32)), (.int (4 : Int32)), .null] below meth c s₁ [] 0 0 := Stand.of_body Bd
 have e0 : s₁.heap = h0 := by rw [← hh, Bd.state]; rfl
 have N0 := Fr.nil n0
 have p0 : Go p.tables e below (s₁.setTop (entryFrame m #[(.int (0 : Int32)), (.int (0 : Int32)), (.int (4 : Int32)), .null] 4)) (s₁.setTop (mkF m 0 #[.val (.int (0 : Int32)), .val (.int (0 : Int32)), .val (.int (4 : Int32)), .val .null] [])) := fun t_ k_ => castTop (ef_rm19_0 m ) k_
 have p101 : Go p.tables e below _ (s₁.setTop (mkF m 23 #[.val (.int (0 : Int32)), .val (.int (0 : Int32)), .val (.int (4 : Int32)), .val .null] [(.int (0 : Int32))])) := fun t_ k_ => p0 t_ (by
  refine XS.iloadN X0.here hx rfl (hb hby d19_0) rfl ?_
  refine XS.ifNo X0.here hx rfl (hb hby d19_1) rfl ((if0 _ _).trans (flt (by decide : ¬ ((0 : Int32) < (0 : Int32)))).1) ?_
  refine XS.iloadN X0.here hx rfl (hb hby d19_4) rfl ?_
  refine XS.iloadN X0.here hx rfl (hb hby d19_5) rfl ?_
  refine XS.icmpNo X0.here hx rfl (hb hby d19_6) rfl (flt (by decide : ¬ ((0 : Int32) < (0 : Int32)))).2.2.1 ?_
  refine XS.iloadN X0.here hx rfl (hb hby d19_9) rfl ?_
  refine XS.iloadN X0.here hx rfl (hb hby d19_10) rfl ?_
  refine XS.icmpYes X0.here hx rfl (pc0 := 11) (pc' := 22) rfl (hb hby d19_11) rfl (flt (by decide : ¬ ((4 : Int32) < (0 : Int32)))).2.2.2 (by decide) (by decide) ?_
  refine XS.iloadN X0.here hx rfl (hb hby d19_22) rfl ?_
  exact k_)
 obtain ⟨fs, hr, hrun, hended, hW, hsame⟩ := X0.leave (v := some (.int (0 : Int32))) (fun h => by rw [Bd.returns] at h; cases h)
 refine ⟨_, _, p101 _ (retI X0 hx Bd.returns (hb hby d19_23) hr), hrun, hended, _, _, rfl, ?_, ⟨_, rfl⟩, hW, hsame.mono (by decide) (by decide)⟩
 show Q19_0 Z  h0 n0 _ s₁.heap _
 rw [e0]
 exact ⟨rfl, N0, rfl⟩
theorem d18_0 : decode jdk_31_method_18_code 0 = .ok (.iload_n 0, 1) := by decide +kernel
theorem d18_1 : decode jdk_31_method_18_code 1 = .ok (.iload_n 1, 1) := by decide +kernel
theorem d18_2 : decode jdk_31_method_18_code 2 = .ok (.iload_n 2, 1) := by decide +kernel
theorem d18_3 : decode jdk_31_method_18_code 3 = .ok (.aconst_null, 1) := by decide +kernel
theorem d18_4 : decode jdk_31_method_18_code 4 = .ok (.invokestatic 111, 3) := by decide +kernel
theorem d18_7 : decode jdk_31_method_18_code 7 = .ok (.ireturn, 1) := by decide +kernel
theorem pd16 : parseMethodDescriptor "(IIILjava/util/function/BiFunction;)I" = some ⟨[.int, .int, .int, (.object "java/util/function/BiFunction")], some .int⟩ := by decide +kernel
theorem pn18 : plainFor (⟨"java/util/Objects", "checkFromToIndex", "(III)I"⟩ : MethodName) = true := plainFor_of_name (by first | (simp [plainName, overriddenIn]; done) | decide +kernel)
theorem ef_rm18_0 (m : MethodId)  : entryFrame m #[(.int (0 : Int32)), (.int (0 : Int32)), (.int (4 : Int32))] 3 = mkF m 0 #[.val (.int (0 : Int32)), .val (.int (0 : Int32)), .val (.int (4 : Int32))] [] := by first | (simp [entryFrame, mkF, argsToLocals, Value.category]; done) | rfl
def Q18_0 (Z : State)  (h0 : Heap) (n0 : Nat) (v : Option Value) (h : Heap) (L : List Loc) : Prop := v = some (.int (0 : Int32)) ∧ Fr n0 L ∧ (h = h0)
set_option maxRecDepth 65536 in
set_option maxHeartbeats 40000000 in
theorem rm18_0 (l : Launch) (Z : State) (a0 : Array Value) (hw : ∀ d ∈ tables_1, d.before a0 Z = true) (ws : List Jvm.Cond)  (h0 : Heap) (n0 : Nat) (Z0 : n0 ≤ h0.size) :
  MetFree l (⟨"java/util/Objects", "checkFromToIndex", "(III)I"⟩ : MethodName) (head1 (Jvm.Cond.code (⟨"java/util/Objects", "checkFromToIndex", "(III)I"⟩ : MethodName) jdk_31_method_18_code 3 (some .int) :: ws) ({ frames := 1, cells := 0, slots := 0, locals := 15 } : Room)) (fun a U => a = #[(.int (0 : Int32)), (.int (0 : Int32)), (.int (4 : Int32))] ∧ Z.Warmed39 U.vm ∧ U.heap = h0) (fun _ _ _ _ _ => True) (fun _ U o U' => ∃ v L, o = .returned v ∧ Q18_0 Z  h0 n0 v U'.heap L ∧ FrameEnd U o U' L ({ frames := 1, cells := 0, slots := 0, locals := 15 } : Room).cells ({ frames := 1, cells := 0, slots := 0, locals := 15 } : Room).slots) := by
 refine MetFree.of_bodySF pn18 hisR ?_
 intro p e s m args below meth c s₁ Bd hml0 hP hK
 obtain ⟨rfl, hZ, hh⟩ := hP
 have hx := Bd.exec
 have hby := Bd.bytes
 have hml : c.maxLocals = 3 := hml0
 have hown : s.vm.findClass "java/util/Objects" = some m.cls := findClass_of_methodNamed Bd.named
 have hnm := (name_of_methodNamed Bd.named Bd.method).1
 have X0 : Stand p l e ({ frames := 1, cells := 0, slots := 0, locals := 15 } : Room) s m #[(.int (0 : Int32)), (.int (0 : Int32)), (.int (4 : Int32))] below meth c s₁ [] 0 0 := Stand.of_body Bd
 have e0 : s₁.heap = h0 := by rw [← hh, Bd.state]; rfl
 have N0 := Fr.nil n0
 have p0 : Go p.tables e below (s₁.setTop (entryFrame m #[(.int (0 : Int32)), (.int (0 : Int32)), (.int (4 : Int32))] 3)) (s₁.setTop (mkF m 0 #[.val (.int (0 : Int32)), .val (.int (0 : Int32)), .val (.int (4 : Int32))] [])) := fun t_ k_ => castTop (ef_rm18_0 m ) k_
 have p101 : Go p.tables e below _ (s₁.setTop (mkF m 4 #[.val (.int (0 : Int32)), .val (.int (0 : Int32)), .val (.int (4 : Int32))] [.null, (.int (4 : Int32)), (.int (0 : Int32)), (.int (0 : Int32))])) := fun t_ k_ => p0 t_ (by
  refine XS.iloadN X0.here hx rfl (hb hby d18_0) rfl ?_
  refine XS.iloadN X0.here hx rfl (hb hby d18_1) rfl ?_
  refine XS.iloadN X0.here hx rfl (hb hby d18_2) rfl ?_
  refine XS.aconstNull X0.here hx rfl (hb hby d18_3) ?_
  exact k_)
 obtain ⟨_, _, ⟨T102, L102, k102, n102⟩, -, X102, ⟨Lc102, hQ102, l102, y102, z102⟩, st102⟩ := Jvm.LawKit.callS X0 hx (y := (⟨"jdk/internal/util/Preconditions", "checkFromToIndex", "(IIILjava/util/function/BiFunction;)I"⟩ : MethodName)) hown (mvT hZ (own_w hw 95 rfl)) (mvT hZ (own_w hw 96 rfl)) (mvT hZ (own_w hw 73 rfl)) (mvT hZ (own_w hw 97 rfl)) (by decide) (backOf (W := 0) (rm19_0 l Z a0 hw []  h0 n0 (Nat.le_trans Z0 (Keep.refl h0 []).1) ) hZ (own_w hw 97 rfl) (own_w hw 73 rfl) (by decide) (by decide)) (g := (mkF m 4 #[.val (.int (0 : Int32)), .val (.int (0 : Int32)), .val (.int (4 : Int32))] [.null, (.int (4 : Int32)), (.int (0 : Int32)), (.int (0 : Int32))])) rfl (by rw [hml]; rfl) (argsL := [(.int (0 : Int32)), (.int (0 : Int32)), (.int (4 : Int32)), .null]) (rest := []) (lenOf pd16 rfl) rfl (by show 2 * 0 + _ ≤ _; exact Nat.le_of_eq rfl) (hb hby d18_4) (fun _ _ => ⟨rfl, e0, (by decide : 0 + 0 ≤ _), (by decide : 0 + 0 ≤ _)⟩)
 dsimp only [Pt.U, Pt.locs, Pt.cells, Pt.slots] at X102 l102 y102 z102 st102 hQ102
 subst l102 y102 z102
 obtain ⟨rfl, N102q, q102_hh⟩ := hQ102
 have N102 := Fr.app N0 N102q
 obtain ⟨fs, hr, hrun, hended, hW, hsame⟩ := X102.leave (v := some (.int (0 : Int32))) (fun h => by rw [Bd.returns] at h; cases h)
 refine ⟨_, _, (gc p101 st102) _ (retI X102 hx Bd.returns (hb hby d18_7) hr), hrun, hended, _, _, rfl, ?_, ⟨_, rfl⟩, hW, hsame.mono (by decide) (by decide)⟩
 show Q18_0 Z  h0 n0 _ T102.heap _
 rw [q102_hh]
 exact ⟨rfl, N102, rfl⟩
theorem d30_0 : decode jdk_52_method_11_code 0 = .ok (.getstatic 44, 3) := by decide +kernel
theorem d30_3 : decode jdk_52_method_11_code 3 = .ok (.ifCond .ne 16, 3) := by decide +kernel
theorem d30_19 : decode jdk_52_method_11_code 19 = .ok (.iload_n 2, 1) := by decide +kernel
theorem d30_20 : decode jdk_52_method_11_code 20 = .ok (.iload_n 1, 1) := by decide +kernel
theorem d30_21 : decode jdk_52_method_11_code 21 = .ok (.isub, 1) := by decide +kernel
theorem d30_22 : decode jdk_52_method_11_code 22 = .ok (.istore 4, 2) := by decide +kernel
theorem d30_24 : decode jdk_52_method_11_code 24 = .ok (.iload_n 1, 1) := by decide +kernel
theorem d30_25 : decode jdk_52_method_11_code 25 = .ok (.istore 5, 2) := by decide +kernel
theorem d30_27 : decode jdk_52_method_11_code 27 = .ok (.iload_n 3, 1) := by decide +kernel
theorem d30_28 : decode jdk_52_method_11_code 28 = .ok (.ifCond .eq 16, 3) := by decide +kernel
theorem d30_44 : decode jdk_52_method_11_code 44 = .ok (.iload 5, 2) := by decide +kernel
theorem d30_46 : decode jdk_52_method_11_code 46 = .ok (.iload_n 2, 1) := by decide +kernel
theorem d30_47 : decode jdk_52_method_11_code 47 = .ok (.iconst 1, 1) := by decide +kernel
theorem d30_48 : decode jdk_52_method_11_code 48 = .ok (.isub, 1) := by decide +kernel
theorem d30_49 : decode jdk_52_method_11_code 49 = .ok (.if_icmp .ge 39, 3) := by decide +kernel
theorem d30_88 : decode jdk_52_method_11_code 88 = .ok (.iload 4, 2) := by decide +kernel
theorem d30_90 : decode jdk_52_method_11_code 90 = .ok (.ireturn, 1) := by decide +kernel
theorem pn30 : plainFor (⟨"java/lang/StringUTF16", "codePointCount", "([BIIZ)I"⟩ : MethodName) = true := plainFor_of_name (by first | (simp [plainName, overriddenIn]; done) | decide +kernel)
theorem ef_rm30_0 (m : MethodId) (a1 : Addr) (k1 : ClassId) (c0 : Int32) (c1 : Int32) (c2 : Int32) (c3 : Int32) (cs1 : Int32) (fm : Value) : entryFrame m #[(.ref a1), (.int (0 : Int32)), (.int (0 : Int32)), (.int (0 : Int32))] 6 = mkF m 0 #[.val (.ref a1), .val (.int (0 : Int32)), .val (.int (0 : Int32)), .val (.int (0 : Int32)), .unset, .unset] [] := by first | (simp [entryFrame, mkF, argsToLocals, Value.category]; done) | rfl
def Q30_0 (Z : State) (a1 : Addr) (k1 : ClassId) (c0 : Int32) (c1 : Int32) (c2 : Int32) (c3 : Int32) (cs1 : Int32) (fm : Value) (h0 : Heap) (n0 : Nat) (v : Option Value) (h : Heap) (L : List Loc) : Prop := v = some (.int (0 : Int32)) ∧ Fr n0 L ∧ (h = h0)
set_option maxRecDepth 65536 in
set_option maxHeartbeats 40000000 in
theorem rm30_0 (l : Launch) (Z : State) (a0 : Array Value) (hw : ∀ d ∈ tables_1, d.before a0 Z = true) (ws : List Jvm.Cond) (a1 : Addr) (k1 : ClassId) (c0 : Int32) (c1 : Int32) (c2 : Int32) (c3 : Int32) (cs1 : Int32) (fm : Value) (h0 : Heap) (n0 : Nat) (Z0 : n0 ≤ h0.size) (O1 : Old Z n0 h0) (G : own_G Z cs1 fm) (V1 : Arv Z h0 a1 k1 .byte (8 : Int32) [(.int (own_x0 c0)), (.int (own_x8 c0)), (.int (own_x0 c1)), (.int (own_x8 c1)), (.int (own_x0 c2)), (.int (own_x8 c2)), (.int (own_x0 c3)), (.int (own_x8 c3))] (.int (0 : Int32))) (a0_ : ¬ (c0 < (0 : Int32))) (b0_ : ¬ ((65535 : Int32) < c0)) (a1_ : ¬ (c1 < (0 : Int32))) (b1_ : ¬ ((65535 : Int32) < c1)) (a2_ : ¬ (c2 < (0 : Int32))) (b2_ : ¬ ((65535 : Int32) < c2)) (a3_ : ¬ (c3 < (0 : Int32))) (b3_ : ¬ ((65535 : Int32) < c3)) :
  MetFree l (⟨"java/lang/StringUTF16", "codePointCount", "([BIIZ)I"⟩ : MethodName) (head1 (Jvm.Cond.code (⟨"java/lang/StringUTF16", "codePointCount", "([BIIZ)I"⟩ : MethodName) jdk_52_method_11_code 6 (some .int) :: ws) ({ frames := 0, cells := 0, slots := 0, locals := 0 } : Room)) (fun a U => a = #[(.ref a1), (.int (0 : Int32)), (.int (0 : Int32)), (.int (0 : Int32))] ∧ Z.Warmed39 U.vm ∧ U.heap = h0) (fun _ _ _ _ _ => True) (fun _ U o U' => ∃ v L, o = .returned v ∧ Q30_0 Z a1 k1 c0 c1 c2 c3 cs1 fm h0 n0 v U'.heap L ∧ FrameEnd U o U' L ({ frames := 0, cells := 0, slots := 0, locals := 0 } : Room).cells ({ frames := 0, cells := 0, slots := 0, locals := 0 } : Room).slots) := by
 refine MetFree.of_bodySF pn30 hisR ?_
 intro p e s m args below meth c s₁ Bd hml0 hP hK
 obtain ⟨rfl, hZ, hh⟩ := hP
 have hx := Bd.exec
 have hby := Bd.bytes
 have hml : c.maxLocals = 6 := hml0
 have hown : s.vm.findClass "java/lang/StringUTF16" = some m.cls := findClass_of_methodNamed Bd.named
 have hnm := (name_of_methodNamed Bd.named Bd.method).1
 have X0 : Stand p l e ({ frames := 0, cells := 0, slots := 0, locals := 0 } : Room) s m #[(.ref a1), (.int (0 : Int32)), (.int (0 : Int32)), (.int (0 : Int32))] below meth c s₁ [] 0 0 := Stand.of_body Bd
 have e0 : s₁.heap = h0 := by rw [← hh, Bd.state]; rfl
 have N0 := Fr.nil n0
 have p0 : Go p.tables e below (s₁.setTop (entryFrame m #[(.ref a1), (.int (0 : Int32)), (.int (0 : Int32)), (.int (0 : Int32))] 6)) (s₁.setTop (mkF m 0 #[.val (.ref a1), .val (.int (0 : Int32)), .val (.int (0 : Int32)), .val (.int (0 : Int32)), .unset, .unset] [])) := fun t_ k_ => castTop (ef_rm30_0 m a1 k1 c0 c1 c2 c3 cs1 fm) k_
 obtain ⟨T101, X101, e101, st101⟩ := getS2 X0 hx hZ hown (host := "") (Or.inl (own_w hw 116 rfl)) Via.refl e0 (G.2.2.2.2.1.ext O1.2) (g := (mkF m 0 #[.val (.ref a1), .val (.int (0 : Int32)), .val (.int (0 : Int32)), .val (.int (0 : Int32)), .unset, .unset] [])) rfl (hb hby d30_0)
 have p102 : Go p.tables e below _ (T101.setTop (mkF m 90 #[.val (.ref a1), .val (.int (0 : Int32)), .val (.int (0 : Int32)), .val (.int (0 : Int32)), .val (.int (0 : Int32)), .val (.int (0 : Int32))] [(.int (0 : Int32))])) := fun t_ k_ => (gc p0 st101) t_ (by
  refine XS.ifYes X101.here hx rfl (pc0 := 3) (pc' := 19) rfl (hb hby d30_3) rfl ((if0 _ _).trans (feq (by decide : ¬ ((1 : Int32) = (0 : Int32)))).2) (by decide) (by decide) ?_
  refine XS.iloadN X101.here hx rfl (hb hby d30_19) rfl ?_
  refine XS.iloadN X101.here hx rfl (hb hby d30_20) rfl ?_
  refine XS.isub X101.here hx rfl (hb hby d30_21) rfl ?_
  refine XS.istore X101.here hx rfl (hb hby d30_22) rfl (l' := #[.val (.ref a1), .val (.int (0 : Int32)), .val (.int (0 : Int32)), .val (.int (0 : Int32)), .val (.int (0 : Int32)), .unset]) rfl ?_
  refine XS.iloadN X101.here hx rfl (hb hby d30_24) rfl ?_
  refine XS.istore X101.here hx rfl (hb hby d30_25) rfl (l' := #[.val (.ref a1), .val (.int (0 : Int32)), .val (.int (0 : Int32)), .val (.int (0 : Int32)), .val (.int (0 : Int32)), .val (.int (0 : Int32))]) rfl ?_
  refine XS.iloadN X101.here hx rfl (hb hby d30_27) rfl ?_
  refine XS.ifYes X101.here hx rfl (pc0 := 28) (pc' := 44) rfl (hb hby d30_28) rfl ((if0 _ _).trans (teq (by decide : ((0 : Int32) = (0 : Int32)))).1) (by decide) (by decide) ?_
  refine XS.iload X101.here hx rfl (hb hby d30_44) rfl ?_
  refine XS.iloadN X101.here hx rfl (hb hby d30_46) rfl ?_
  refine XS.iconst X101.here hx rfl (hb hby d30_47) ?_
  refine XS.isub X101.here hx rfl (hb hby d30_48) rfl ?_
  refine XS.icmpYes X101.here hx rfl (pc0 := 49) (pc' := 88) rfl (hb hby d30_49) rfl (flt (by decide : ¬ ((0 : Int32) < (-1 : Int32)))).2.1 (by decide) (by decide) ?_
  refine XS.iload X101.here hx rfl (hb hby d30_88) rfl ?_
  exact k_)
 obtain ⟨fs, hr, hrun, hended, hW, hsame⟩ := X101.leave (v := some (.int (0 : Int32))) (fun h => by rw [Bd.returns] at h; cases h)
 refine ⟨_, _, p102 _ (retI X101 hx Bd.returns (hb hby d30_90) hr), hrun, hended, _, _, rfl, ?_, ⟨_, rfl⟩, hW, hsame.mono (by decide) (by decide)⟩
 show Q30_0 Z a1 k1 c0 c1 c2 c3 cs1 fm h0 n0 _ T101.heap _
 rw [e101]
 exact ⟨rfl, N0, rfl⟩
theorem d29_0 : decode jdk_52_method_12_code 0 = .ok (.aload_n 0, 1) := by decide +kernel
theorem d29_1 : decode jdk_52_method_12_code 1 = .ok (.iload_n 1, 1) := by decide +kernel
theorem d29_2 : decode jdk_52_method_12_code 2 = .ok (.iload_n 2, 1) := by decide +kernel
theorem d29_3 : decode jdk_52_method_12_code 3 = .ok (.iconst 0, 1) := by decide +kernel
theorem d29_4 : decode jdk_52_method_12_code 4 = .ok (.invokestatic 100, 3) := by decide +kernel
theorem d29_7 : decode jdk_52_method_12_code 7 = .ok (.ireturn, 1) := by decide +kernel
theorem pd17 : parseMethodDescriptor "([BIIZ)I" = some ⟨[(.array .byte), .int, .int, .boolean], some .int⟩ := by decide +kernel
theorem pn29 : plainFor (⟨"java/lang/StringUTF16", "codePointCount", "([BII)I"⟩ : MethodName) = true := plainFor_of_name (by first | (simp [plainName, overriddenIn]; done) | decide +kernel)
theorem ef_rm29_0 (m : MethodId) (a1 : Addr) (k1 : ClassId) (c0 : Int32) (c1 : Int32) (c2 : Int32) (c3 : Int32) (cs1 : Int32) (fm : Value) : entryFrame m #[(.ref a1), (.int (0 : Int32)), (.int (0 : Int32))] 3 = mkF m 0 #[.val (.ref a1), .val (.int (0 : Int32)), .val (.int (0 : Int32))] [] := by first | (simp [entryFrame, mkF, argsToLocals, Value.category]; done) | rfl
def Q29_0 (Z : State) (a1 : Addr) (k1 : ClassId) (c0 : Int32) (c1 : Int32) (c2 : Int32) (c3 : Int32) (cs1 : Int32) (fm : Value) (h0 : Heap) (n0 : Nat) (v : Option Value) (h : Heap) (L : List Loc) : Prop := v = some (.int (0 : Int32)) ∧ Fr n0 L ∧ (h = h0)
set_option maxRecDepth 65536 in
set_option maxHeartbeats 40000000 in
theorem rm29_0 (l : Launch) (Z : State) (a0 : Array Value) (hw : ∀ d ∈ tables_1, d.before a0 Z = true) (ws : List Jvm.Cond) (a1 : Addr) (k1 : ClassId) (c0 : Int32) (c1 : Int32) (c2 : Int32) (c3 : Int32) (cs1 : Int32) (fm : Value) (h0 : Heap) (n0 : Nat) (Z0 : n0 ≤ h0.size) (O1 : Old Z n0 h0) (G : own_G Z cs1 fm) (V1 : Arv Z h0 a1 k1 .byte (8 : Int32) [(.int (own_x0 c0)), (.int (own_x8 c0)), (.int (own_x0 c1)), (.int (own_x8 c1)), (.int (own_x0 c2)), (.int (own_x8 c2)), (.int (own_x0 c3)), (.int (own_x8 c3))] (.int (0 : Int32))) (a0_ : ¬ (c0 < (0 : Int32))) (b0_ : ¬ ((65535 : Int32) < c0)) (a1_ : ¬ (c1 < (0 : Int32))) (b1_ : ¬ ((65535 : Int32) < c1)) (a2_ : ¬ (c2 < (0 : Int32))) (b2_ : ¬ ((65535 : Int32) < c2)) (a3_ : ¬ (c3 < (0 : Int32))) (b3_ : ¬ ((65535 : Int32) < c3)) :
  MetFree l (⟨"java/lang/StringUTF16", "codePointCount", "([BII)I"⟩ : MethodName) (head1 (Jvm.Cond.code (⟨"java/lang/StringUTF16", "codePointCount", "([BII)I"⟩ : MethodName) jdk_52_method_12_code 3 (some .int) :: ws) ({ frames := 1, cells := 0, slots := 0, locals := 17 } : Room)) (fun a U => a = #[(.ref a1), (.int (0 : Int32)), (.int (0 : Int32))] ∧ Z.Warmed39 U.vm ∧ U.heap = h0) (fun _ _ _ _ _ => True) (fun _ U o U' => ∃ v L, o = .returned v ∧ Q29_0 Z a1 k1 c0 c1 c2 c3 cs1 fm h0 n0 v U'.heap L ∧ FrameEnd U o U' L ({ frames := 1, cells := 0, slots := 0, locals := 17 } : Room).cells ({ frames := 1, cells := 0, slots := 0, locals := 17 } : Room).slots) := by
 refine MetFree.of_bodySF pn29 hisR ?_
 intro p e s m args below meth c s₁ Bd hml0 hP hK
 obtain ⟨rfl, hZ, hh⟩ := hP
 have hx := Bd.exec
 have hby := Bd.bytes
 have hml : c.maxLocals = 3 := hml0
 have hown : s.vm.findClass "java/lang/StringUTF16" = some m.cls := findClass_of_methodNamed Bd.named
 have hnm := (name_of_methodNamed Bd.named Bd.method).1
 have X0 : Stand p l e ({ frames := 1, cells := 0, slots := 0, locals := 17 } : Room) s m #[(.ref a1), (.int (0 : Int32)), (.int (0 : Int32))] below meth c s₁ [] 0 0 := Stand.of_body Bd
 have e0 : s₁.heap = h0 := by rw [← hh, Bd.state]; rfl
 have N0 := Fr.nil n0
 have p0 : Go p.tables e below (s₁.setTop (entryFrame m #[(.ref a1), (.int (0 : Int32)), (.int (0 : Int32))] 3)) (s₁.setTop (mkF m 0 #[.val (.ref a1), .val (.int (0 : Int32)), .val (.int (0 : Int32))] [])) := fun t_ k_ => castTop (ef_rm29_0 m a1 k1 c0 c1 c2 c3 cs1 fm) k_
 have p101 : Go p.tables e below _ (s₁.setTop (mkF m 4 #[.val (.ref a1), .val (.int (0 : Int32)), .val (.int (0 : Int32))] [(.int (0 : Int32)), (.int (0 : Int32)), (.int (0 : Int32)), (.ref a1)])) := fun t_ k_ => p0 t_ (by
  refine XS.aloadN X0.here hx rfl (hb hby d29_0) rfl rfl ?_
  refine XS.iloadN X0.here hx rfl (hb hby d29_1) rfl ?_
  refine XS.iloadN X0.here hx rfl (hb hby d29_2) rfl ?_
  refine XS.iconst X0.here hx rfl (hb hby d29_3) ?_
  exact k_)
 obtain ⟨_, _, ⟨T102, L102, k102, n102⟩, -, X102, ⟨Lc102, hQ102, l102, y102, z102⟩, st102⟩ := Jvm.LawKit.callS X0 hx (y := (⟨"java/lang/StringUTF16", "codePointCount", "([BIIZ)I"⟩ : MethodName)) hown (mvT hZ (own_w hw 135 rfl)) (mvT hZ (own_w hw 136 rfl)) (mvT hZ (own_w hw 22 rfl)) (mvT hZ (own_w hw 137 rfl)) (by decide) (backOf (W := 0) (rm30_0 l Z a0 hw [] a1 k1 c0 c1 c2 c3 cs1 fm h0 n0 (Nat.le_trans Z0 (Keep.refl h0 []).1) O1 G V1 a0_ b0_ a1_ b1_ a2_ b2_ a3_ b3_) hZ (own_w hw 137 rfl) (own_w hw 22 rfl) (by decide) (by decide)) (g := (mkF m 4 #[.val (.ref a1), .val (.int (0 : Int32)), .val (.int (0 : Int32))] [(.int (0 : Int32)), (.int (0 : Int32)), (.int (0 : Int32)), (.ref a1)])) rfl (by rw [hml]; rfl) (argsL := [(.ref a1), (.int (0 : Int32)), (.int (0 : Int32)), (.int (0 : Int32))]) (rest := []) (lenOf pd17 rfl) rfl (by show 2 * 0 + _ ≤ _; exact Nat.le_of_eq rfl) (hb hby d29_4) (fun _ _ => ⟨rfl, e0, (by decide : 0 + 0 ≤ _), (by decide : 0 + 0 ≤ _)⟩)
 dsimp only [Pt.U, Pt.locs, Pt.cells, Pt.slots] at X102 l102 y102 z102 st102 hQ102
 subst l102 y102 z102
 obtain ⟨rfl, N102q, q102_hh⟩ := hQ102
 have N102 := Fr.app N0 N102q
 obtain ⟨fs, hr, hrun, hended, hW, hsame⟩ := X102.leave (v := some (.int (0 : Int32))) (fun h => by rw [Bd.returns] at h; cases h)
 refine ⟨_, _, (gc p101 st102) _ (retI X102 hx Bd.returns (hb hby d29_7) hr), hrun, hended, _, _, rfl, ?_, ⟨_, rfl⟩, hW, hsame.mono (by decide) (by decide)⟩
 show Q29_0 Z a1 k1 c0 c1 c2 c3 cs1 fm h0 n0 _ T102.heap _
 rw [q102_hh]
 exact ⟨rfl, N102, rfl⟩
theorem d17_0 : decode jdk_42_method_59_code 0 = .ok (.iload_n 1, 1) := by decide +kernel
theorem d17_1 : decode jdk_42_method_59_code 1 = .ok (.iload_n 2, 1) := by decide +kernel
theorem d17_2 : decode jdk_42_method_59_code 2 = .ok (.aload_n 0, 1) := by decide +kernel
theorem d17_3 : decode jdk_42_method_59_code 3 = .ok (.invokevirtual 505, 3) := by decide +kernel
theorem d17_6 : decode jdk_42_method_59_code 6 = .ok (.invokestatic 511, 3) := by decide +kernel
theorem d17_9 : decode jdk_42_method_59_code 9 = .ok (.pop, 1) := by decide +kernel
theorem d17_10 : decode jdk_42_method_59_code 10 = .ok (.aload_n 0, 1) := by decide +kernel
theorem d17_11 : decode jdk_42_method_59_code 11 = .ok (.invokevirtual 492, 3) := by decide +kernel
theorem d17_14 : decode jdk_42_method_59_code 14 = .ok (.ifCond .eq 7, 3) := by decide +kernel
theorem d17_17 : decode jdk_42_method_59_code 17 = .ok (.iload_n 2, 1) := by decide +kernel
theorem d17_18 : decode jdk_42_method_59_code 18 = .ok (.iload_n 1, 1) := by decide +kernel
theorem d17_19 : decode jdk_42_method_59_code 19 = .ok (.isub, 1) := by decide +kernel
theorem d17_20 : decode jdk_42_method_59_code 20 = .ok (.ireturn, 1) := by decide +kernel
theorem pd18 : parseMethodDescriptor "(III)I" = some ⟨[.int, .int, .int], some .int⟩ := by decide +kernel
theorem pn17 : plainFor (⟨"java/lang/String", "codePointCount", "(II)I"⟩ : MethodName) = true := plainFor_of_name (by first | (simp [plainName, overriddenIn]; done) | decide +kernel)
theorem ef_rm17_0_0 (m : MethodId) (a1 : Addr) (bv : Addr) (k1 : ClassId) (c0 : Int32) (c1 : Int32) (c2 : Int32) (c3 : Int32) (cs1 : Int32) (fm : Value) : entryFrame m #[(.ref a1), (.int (0 : Int32)), (.int (0 : Int32))] 3 = mkF m 0 #[.val (.ref a1), .val (.int (0 : Int32)), .val (.int (0 : Int32))] [] := by first | (simp [entryFrame, mkF, argsToLocals, Value.category]; done) | rfl
def Q17_0_0 (Z : State) (a1 : Addr) (bv : Addr) (k1 : ClassId) (c0 : Int32) (c1 : Int32) (c2 : Int32) (c3 : Int32) (cs1 : Int32) (fm : Value) (h0 : Heap) (n0 : Nat) (v : Option Value) (h : Heap) (L : List Loc) : Prop := v = some (.int (0 : Int32)) ∧ Fr n0 L ∧ (h = h0)
set_option maxRecDepth 65536 in
set_option maxHeartbeats 40000000 in
theorem rm17_0_0 (l : Launch) (Z : State) (a0 : Array Value) (hw : ∀ d ∈ tables_1, d.before a0 Z = true) (ws : List Jvm.Cond) (a1 : Addr) (bv : Addr) (k1 : ClassId) (c0 : Int32) (c1 : Int32) (c2 : Int32) (c3 : Int32) (cs1 : Int32) (fm : Value) (h0 : Heap) (n0 : Nat) (Z0 : n0 ≤ h0.size) (O1 : Old Z n0 h0) (G : own_G Z cs1 fm) (E1 : Exa Z h0 a1 "java/lang/String") (F1 : Fld Z h0 a1 "java/lang/String" "coder" "B" (.int (0 : Int32))) (F2 : Fld Z h0 a1 "java/lang/String" "value" "[B" (.ref bv)) (V1 : Arv Z h0 bv k1 .byte (4 : Int32) [(.int (own_xl c0)), (.int (own_xl c1)), (.int (own_xl c2)), (.int (own_xl c3))] (.int (0 : Int32))) :
  MetFree l (⟨"java/lang/String", "codePointCount", "(II)I"⟩ : MethodName) (head1 (Jvm.Cond.code (⟨"java/lang/String", "codePointCount", "(II)I"⟩ : MethodName) jdk_42_method_59_code 3 (some .int) :: ws) ({ frames := 2, cells := 0, slots := 0, locals := 29 } : Room)) (fun a U => a = #[(.ref a1), (.int (0 : Int32)), (.int (0 : Int32))] ∧ Z.Warmed39 U.vm ∧ U.heap = h0) (fun _ _ _ _ _ => True) (fun _ U o U' => ∃ v L, o = .returned v ∧ Q17_0_0 Z a1 bv k1 c0 c1 c2 c3 cs1 fm h0 n0 v U'.heap L ∧ FrameEnd U o U' L ({ frames := 2, cells := 0, slots := 0, locals := 29 } : Room).cells ({ frames := 2, cells := 0, slots := 0, locals := 29 } : Room).slots) := by
 refine MetFree.of_bodySF pn17 hisR ?_
 intro p e s m args below meth c s₁ Bd hml0 hP hK
 obtain ⟨rfl, hZ, hh⟩ := hP
 have hx := Bd.exec
 have hby := Bd.bytes
 have hml : c.maxLocals = 3 := hml0
 have hown : s.vm.findClass "java/lang/String" = some m.cls := findClass_of_methodNamed Bd.named
 have hnm := (name_of_methodNamed Bd.named Bd.method).1
 have X0 : Stand p l e ({ frames := 2, cells := 0, slots := 0, locals := 29 } : Room) s m #[(.ref a1), (.int (0 : Int32)), (.int (0 : Int32))] below meth c s₁ [] 0 0 := Stand.of_body Bd
 have e0 : s₁.heap = h0 := by rw [← hh, Bd.state]; rfl
 have N0 := Fr.nil n0
 have p0 : Go p.tables e below (s₁.setTop (entryFrame m #[(.ref a1), (.int (0 : Int32)), (.int (0 : Int32))] 3)) (s₁.setTop (mkF m 0 #[.val (.ref a1), .val (.int (0 : Int32)), .val (.int (0 : Int32))] [])) := fun t_ k_ => castTop (ef_rm17_0_0 m a1 bv k1 c0 c1 c2 c3 cs1 fm) k_
 have p101 : Go p.tables e below _ (s₁.setTop (mkF m 3 #[.val (.ref a1), .val (.int (0 : Int32)), .val (.int (0 : Int32))] [(.ref a1), (.int (0 : Int32)), (.int (0 : Int32))])) := fun t_ k_ => p0 t_ (by
  refine XS.iloadN X0.here hx rfl (hb hby d17_0) rfl ?_
  refine XS.iloadN X0.here hx rfl (hb hby d17_1) rfl ?_
  refine XS.aloadN X0.here hx rfl (hb hby d17_2) rfl rfl ?_
  exact k_)
 obtain ⟨cq102, kq102, q102a, q102b, q102c⟩ := isOf hZ e0 E1
 obtain ⟨_, _, ⟨T102, L102, k102, n102⟩, -, X102, ⟨Lc102, hQ102, l102, y102, z102⟩, st102⟩ := X0.virtualBack hx (y := (⟨"java/lang/String", "length", "()I"⟩ : MethodName)) (z := (⟨"java/lang/String", "length", "()I"⟩ : MethodName)) hown (mvT hZ (own_w hw 90 rfl)) (mvT hZ (own_w hw 46 rfl)) (notFace_of_selects (args := #[]) (mvT hZ (own_w hw 48 rfl))) (mvT hZ (own_w hw 48 rfl)) (mvT hZ (own_w hw 47 rfl)) (by decide) (backOf (W := 2) (rm9_0 l Z a0 hw [] a1 (4 : Int32) bv k1 (4 : Int32) [(.int (own_xl c0)), (.int (own_xl c1)), (.int (own_xl c2)), (.int (own_xl c3))] cs1 fm h0 n0 (Nat.le_trans Z0 (Keep.refl h0 []).1) O1 G E1 F1 F2 V1 (by decide)) hZ (own_w hw 49 rfl) (own_w hw 8 rfl) (by decide) (by decide)) q102a q102c (g := (mkF m 3 #[.val (.ref a1), .val (.int (0 : Int32)), .val (.int (0 : Int32))] [(.ref a1), (.int (0 : Int32)), (.int (0 : Int32))])) rfl (by rw [hml]; rfl) (Steps.refl _) (argsL := []) (rest := [(.int (0 : Int32)), (.int (0 : Int32))]) (lenOf pd14 rfl) rfl (by show 2 * 0 + _ ≤ _; exact Nat.le_of_eq rfl) (hb hby d17_3) (fun _ _ => ⟨rfl, e0, (by decide : 0 + 0 ≤ _), (by decide : 0 + 0 ≤ _)⟩)
 dsimp only [Pt.U, Pt.locs, Pt.cells, Pt.slots] at X102 l102 y102 z102 st102 hQ102
 subst l102 y102 z102
 obtain ⟨rfl, N102q, q102_hh⟩ := hQ102
 have N102 := Fr.app N0 N102q
 obtain ⟨_, _, ⟨T103, L103, k103, n103⟩, -, X103, ⟨Lc103, hQ103, l103, y103, z103⟩, st103⟩ := Jvm.LawKit.callS X102 hx (y := (⟨"java/util/Objects", "checkFromToIndex", "(III)I"⟩ : MethodName)) hown (mvT hZ (own_w hw 91 rfl)) (mvT hZ (own_w hw 92 rfl)) (mvT hZ (own_w hw 93 rfl)) (mvT hZ (own_w hw 94 rfl)) (by decide) (backOf (W := 0) (rm18_0 l Z a0 hw []  h0 n0 (Nat.le_trans Z0 (Keep.refl h0 []).1) ) hZ (own_w hw 94 rfl) (own_w hw 93 rfl) (by decide) (by decide)) (g := (mkF m 6 #[.val (.ref a1), .val (.int (0 : Int32)), .val (.int (0 : Int32))] [(.int (4 : Int32)), (.int (0 : Int32)), (.int (0 : Int32))])) rfl (by rw [hml]; rfl) (argsL := [(.int (0 : Int32)), (.int (0 : Int32)), (.int (4 : Int32))]) (rest := []) (lenOf pd18 rfl) rfl (by show 2 * 0 + _ ≤ _; exact Nat.le_of_eq rfl) (hb hby d17_6) (fun _ _ => ⟨rfl, q102_hh, (by decide : 0 + 0 ≤ _), (by decide : 0 + 0 ≤ _)⟩)
 dsimp only [Pt.U, Pt.locs, Pt.cells, Pt.slots] at X103 l103 y103 z103 st103 hQ103
 subst l103 y103 z103
 obtain ⟨rfl, N103q, q103_hh⟩ := hQ103
 have N103 := Fr.app N102 N103q
 have p104 : Go p.tables e below _ (T103.setTop (mkF m 11 #[.val (.ref a1), .val (.int (0 : Int32)), .val (.int (0 : Int32))] [(.ref a1)])) := fun t_ k_ => (gc (gcT p101 st102) st103) t_ (by
  refine XS.pop X103.here hx rfl (hb hby d17_9) rfl rfl ?_
  refine XS.aloadN X103.here hx rfl (hb hby d17_10) rfl rfl ?_
  exact k_)
 obtain ⟨cq105, kq105, q105a, q105b, q105c⟩ := isOf hZ q103_hh E1
 obtain ⟨_, _, ⟨T105, L105, k105, n105⟩, -, X105, ⟨Lc105, hQ105, l105, y105, z105⟩, st105⟩ := X103.virtualBack hx (y := (⟨"java/lang/String", "isLatin1", "()Z"⟩ : MethodName)) (z := (⟨"java/lang/String", "isLatin1", "()Z"⟩ : MethodName)) hown (mvT hZ (own_w hw 60 rfl)) (mvT hZ (own_w hw 61 rfl)) (notFace_of_selects (args := #[]) (mvT hZ (own_w hw 63 rfl))) (mvT hZ (own_w hw 63 rfl)) (mvT hZ (own_w hw 62 rfl)) (by decide) (backOf (W := 0) (rm12_0 l Z a0 hw [] a1 cs1 fm h0 n0 (Nat.le_trans Z0 (Keep.refl h0 []).1) O1 G F1) hZ (own_w hw 64 rfl) (own_w hw 8 rfl) (by decide) (by decide)) q105a q105c (g := (mkF m 11 #[.val (.ref a1), .val (.int (0 : Int32)), .val (.int (0 : Int32))] [(.ref a1)])) rfl (by rw [hml]; rfl) (Steps.refl _) (argsL := []) (rest := []) (lenOf pd3 rfl) rfl (by show 2 * 0 + _ ≤ _; exact Nat.le_of_eq rfl) (hb hby d17_11) (fun _ _ => ⟨rfl, q103_hh, (by decide : 0 + 0 ≤ _), (by decide : 0 + 0 ≤ _)⟩)
 dsimp only [Pt.U, Pt.locs, Pt.cells, Pt.slots] at X105 l105 y105 z105 st105 hQ105
 subst l105 y105 z105
 obtain ⟨rfl, N105q, q105_hh⟩ := hQ105
 have N105 := Fr.app N103 N105q
 have p106 : Go p.tables e below _ (T105.setTop (mkF m 20 #[.val (.ref a1), .val (.int (0 : Int32)), .val (.int (0 : Int32))] [(.int (0 : Int32))])) := fun t_ k_ => (gcT p104 st105) t_ (by
  refine XS.ifNo X105.here hx rfl (hb hby d17_14) rfl ((if0 _ _).trans (feq (by decide : ¬ ((1 : Int32) = (0 : Int32)))).1) ?_
  refine XS.iloadN X105.here hx rfl (hb hby d17_17) rfl ?_
  refine XS.iloadN X105.here hx rfl (hb hby d17_18) rfl ?_
  refine XS.isub X105.here hx rfl (hb hby d17_19) rfl ?_
  exact k_)
 obtain ⟨fs, hr, hrun, hended, hW, hsame⟩ := X105.leave (v := some (.int (0 : Int32))) (fun h => by rw [Bd.returns] at h; cases h)
 refine ⟨_, _, p106 _ (retI X105 hx Bd.returns (hb hby d17_20) hr), hrun, hended, _, _, rfl, ?_, ⟨_, rfl⟩, hW, hsame.mono (by decide) (by decide)⟩
 show Q17_0_0 Z a1 bv k1 c0 c1 c2 c3 cs1 fm h0 n0 _ T105.heap _
 rw [q105_hh]
 exact ⟨rfl, N105, rfl⟩
theorem d16_0 : decode prog_16_method_2_code 0 = .ok (.aload_n 0, 1) := by decide +kernel
theorem d16_1 : decode prog_16_method_2_code 1 = .ok (.getfield 7, 3) := by decide +kernel
theorem d16_4 : decode prog_16_method_2_code 4 = .ok (.iconst 0, 1) := by decide +kernel
theorem d16_5 : decode prog_16_method_2_code 5 = .ok (.iload_n 1, 1) := by decide +kernel
theorem d16_6 : decode prog_16_method_2_code 6 = .ok (.invokevirtual 27, 3) := by decide +kernel
theorem d16_9 : decode prog_16_method_2_code 9 = .ok (.iconst 1, 1) := by decide +kernel
theorem d16_10 : decode prog_16_method_2_code 10 = .ok (.iadd, 1) := by decide +kernel
theorem d16_11 : decode prog_16_method_2_code 11 = .ok (.ireturn, 1) := by decide +kernel
theorem pd19 : parseMethodDescriptor "(II)I" = some ⟨[.int, .int], some .int⟩ := by decide +kernel
theorem pn16 : plainFor (⟨"com/example/subsume/subsume/model/Lines", "character", "(I)I"⟩ : MethodName) = true := plainFor_of_name (by first | (simp [plainName, overriddenIn]; done) | decide +kernel)
theorem ef_rm16_0_0 (m : MethodId) (a1 : Addr) (a2 : Addr) (bv : Addr) (k1 : ClassId) (c0 : Int32) (c1 : Int32) (c2 : Int32) (c3 : Int32) (cs1 : Int32) (fm : Value) : entryFrame m #[(.ref a1), (.int (0 : Int32))] 2 = mkF m 0 #[.val (.ref a1), .val (.int (0 : Int32))] [] := by first | (simp [entryFrame, mkF, argsToLocals, Value.category]; done) | rfl
def Q16_0_0 (Z : State) (a1 : Addr) (a2 : Addr) (bv : Addr) (k1 : ClassId) (c0 : Int32) (c1 : Int32) (c2 : Int32) (c3 : Int32) (cs1 : Int32) (fm : Value) (h0 : Heap) (n0 : Nat) (v : Option Value) (h : Heap) (L : List Loc) : Prop := v = some (.int (1 : Int32)) ∧ Fr n0 L ∧ (h = h0)
set_option maxRecDepth 65536 in
set_option maxHeartbeats 40000000 in
theorem rm16_0_0 (l : Launch) (Z : State) (a0 : Array Value) (hw : ∀ d ∈ tables_1, d.before a0 Z = true) (ws : List Jvm.Cond) (a1 : Addr) (a2 : Addr) (bv : Addr) (k1 : ClassId) (c0 : Int32) (c1 : Int32) (c2 : Int32) (c3 : Int32) (cs1 : Int32) (fm : Value) (h0 : Heap) (n0 : Nat) (Z0 : n0 ≤ h0.size) (O1 : Old Z n0 h0) (G : own_G Z cs1 fm) (T1 : Fld Z h0 a1 "com/example/subsume/subsume/model/Lines" "text" "Ljava/lang/String;" (.ref a2)) (E1 : Exa Z h0 a2 "java/lang/String") (F1 : Fld Z h0 a2 "java/lang/String" "coder" "B" (.int (0 : Int32))) (F2 : Fld Z h0 a2 "java/lang/String" "value" "[B" (.ref bv)) (V1 : Arv Z h0 bv k1 .byte (4 : Int32) [(.int (own_xl c0)), (.int (own_xl c1)), (.int (own_xl c2)), (.int (own_xl c3))] (.int (0 : Int32))) :
  MetFree l (⟨"com/example/subsume/subsume/model/Lines", "character", "(I)I"⟩ : MethodName) (head1 (Jvm.Cond.code (⟨"com/example/subsume/subsume/model/Lines", "character", "(I)I"⟩ : MethodName) prog_16_method_2_code 2 (some .int) :: ws) ({ frames := 3, cells := 0, slots := 0, locals := 43 } : Room)) (fun a U => a = #[(.ref a1), (.int (0 : Int32))] ∧ Z.Warmed39 U.vm ∧ U.heap = h0) (fun _ _ _ _ _ => True) (fun _ U o U' => ∃ v L, o = .returned v ∧ Q16_0_0 Z a1 a2 bv k1 c0 c1 c2 c3 cs1 fm h0 n0 v U'.heap L ∧ FrameEnd U o U' L ({ frames := 3, cells := 0, slots := 0, locals := 43 } : Room).cells ({ frames := 3, cells := 0, slots := 0, locals := 43 } : Room).slots) := by
 refine MetFree.of_bodySF pn16 hisR ?_
 intro p e s m args below meth c s₁ Bd hml0 hP hK
 obtain ⟨rfl, hZ, hh⟩ := hP
 have hx := Bd.exec
 have hby := Bd.bytes
 have hml : c.maxLocals = 2 := hml0
 have hown : s.vm.findClass "com/example/subsume/subsume/model/Lines" = some m.cls := findClass_of_methodNamed Bd.named
 have hnm := (name_of_methodNamed Bd.named Bd.method).1
 have X0 : Stand p l e ({ frames := 3, cells := 0, slots := 0, locals := 43 } : Room) s m #[(.ref a1), (.int (0 : Int32))] below meth c s₁ [] 0 0 := Stand.of_body Bd
 have e0 : s₁.heap = h0 := by rw [← hh, Bd.state]; rfl
 have N0 := Fr.nil n0
 have p0 : Go p.tables e below (s₁.setTop (entryFrame m #[(.ref a1), (.int (0 : Int32))] 2)) (s₁.setTop (mkF m 0 #[.val (.ref a1), .val (.int (0 : Int32))] [])) := fun t_ k_ => castTop (ef_rm16_0_0 m a1 a2 bv k1 c0 c1 c2 c3 cs1 fm) k_
 have p101 : Go p.tables e below _ (s₁.setTop (mkF m 1 #[.val (.ref a1), .val (.int (0 : Int32))] [(.ref a1)])) := fun t_ k_ => p0 t_ (by
  refine XS.aloadN X0.here hx rfl (hb hby d16_0) rfl rfl ?_
  exact k_)
 obtain ⟨T102, X102, e102, st102⟩ := getF X0 hx hZ hown (host := "") (Or.inl (own_w hw 43 rfl)) Via.refl e0 T1 (g := (mkF m 1 #[.val (.ref a1), .val (.int (0 : Int32))] [(.ref a1)])) rfl rfl (hb hby d16_1)
 have p103 : Go p.tables e below _ (T102.setTop (mkF m 6 #[.val (.ref a1), .val (.int (0 : Int32))] [(.int (0 : Int32)), (.int (0 : Int32)), (.ref a2)])) := fun t_ k_ => (gc p101 st102) t_ (by
  refine XS.iconst X102.here hx rfl (hb hby d16_4) ?_
  refine XS.iloadN X102.here hx rfl (hb hby d16_5) rfl ?_
  exact k_)
 obtain ⟨cq104, kq104, q104a, q104b, q104c⟩ := isOf hZ e102 E1
 obtain ⟨_, _, ⟨T104, L104, k104, n104⟩, -, X104, ⟨Lc104, hQ104, l104, y104, z104⟩, st104⟩ := X102.virtualBack hx (y := (⟨"java/lang/String", "codePointCount", "(II)I"⟩ : MethodName)) (z := (⟨"java/lang/String", "codePointCount", "(II)I"⟩ : MethodName)) hown (mvT hZ (own_w hw 85 rfl)) (mvT hZ (own_w hw 86 rfl)) (notFace_of_selects (args := #[]) (mvT hZ (own_w hw 88 rfl))) (mvT hZ (own_w hw 88 rfl)) (mvT hZ (own_w hw 87 rfl)) (by decide) (backOf (W := 0) (rm17_0_0 l Z a0 hw [] a2 bv k1 c0 c1 c2 c3 cs1 fm h0 n0 (Nat.le_trans Z0 (Keep.refl h0 []).1) O1 G E1 F1 F2 V1) hZ (own_w hw 89 rfl) (own_w hw 8 rfl) (by decide) (by decide)) q104a q104c (g := (mkF m 6 #[.val (.ref a1), .val (.int (0 : Int32))] [(.int (0 : Int32)), (.int (0 : Int32)), (.ref a2)])) rfl (by rw [hml]; rfl) (Steps.refl _) (argsL := [(.int (0 : Int32)), (.int (0 : Int32))]) (rest := []) (lenOf pd19 rfl) rfl (by show 2 * 0 + _ ≤ _; exact Nat.le_of_eq rfl) (hb hby d16_6) (fun _ _ => ⟨rfl, e102, (by decide : 0 + 0 ≤ _), (by decide : 0 + 0 ≤ _)⟩)
 dsimp only [Pt.U, Pt.locs, Pt.cells, Pt.slots] at X104 l104 y104 z104 st104 hQ104
 subst l104 y104 z104
 obtain ⟨rfl, N104q, q104_hh⟩ := hQ104
 have N104 := Fr.app N0 N104q
 have p105 : Go p.tables e below _ (T104.setTop (mkF m 11 #[.val (.ref a1), .val (.int (0 : Int32))] [(.int (1 : Int32))])) := fun t_ k_ => (gcT p103 st104) t_ (by
  refine XS.iconst X104.here hx rfl (hb hby d16_9) ?_
  refine XS.iadd X104.here hx rfl (hb hby d16_10) rfl ?_
  exact k_)
 obtain ⟨fs, hr, hrun, hended, hW, hsame⟩ := X104.leave (v := some (.int (1 : Int32))) (fun h => by rw [Bd.returns] at h; cases h)
 refine ⟨_, _, p105 _ (retI X104 hx Bd.returns (hb hby d16_11) hr), hrun, hended, _, _, rfl, ?_, ⟨_, rfl⟩, hW, hsame.mono (by decide) (by decide)⟩
 show Q16_0_0 Z a1 a2 bv k1 c0 c1 c2 c3 cs1 fm h0 n0 _ T104.heap _
 rw [q104_hh]
 exact ⟨rfl, N104, rfl⟩
theorem d17_21 : decode jdk_42_method_59_code 21 = .ok (.aload_n 0, 1) := by decide +kernel
theorem d17_22 : decode jdk_42_method_59_code 22 = .ok (.getfield 9, 3) := by decide +kernel
theorem d17_25 : decode jdk_42_method_59_code 25 = .ok (.iload_n 1, 1) := by decide +kernel
theorem d17_26 : decode jdk_42_method_59_code 26 = .ok (.iload_n 2, 1) := by decide +kernel
theorem d17_27 : decode jdk_42_method_59_code 27 = .ok (.invokestatic 514, 3) := by decide +kernel
theorem d17_30 : decode jdk_42_method_59_code 30 = .ok (.ireturn, 1) := by decide +kernel
theorem pd20 : parseMethodDescriptor "([BII)I" = some ⟨[(.array .byte), .int, .int], some .int⟩ := by decide +kernel
theorem ef_rm17_1_0 (m : MethodId) (a1 : Addr) (bv : Addr) (k1 : ClassId) (c0 : Int32) (c1 : Int32) (c2 : Int32) (c3 : Int32) (cs1 : Int32) (fm : Value) : entryFrame m #[(.ref a1), (.int (0 : Int32)), (.int (0 : Int32))] 3 = mkF m 0 #[.val (.ref a1), .val (.int (0 : Int32)), .val (.int (0 : Int32))] [] := by first | (simp [entryFrame, mkF, argsToLocals, Value.category]; done) | rfl
def Q17_1_0 (Z : State) (a1 : Addr) (bv : Addr) (k1 : ClassId) (c0 : Int32) (c1 : Int32) (c2 : Int32) (c3 : Int32) (cs1 : Int32) (fm : Value) (h0 : Heap) (n0 : Nat) (v : Option Value) (h : Heap) (L : List Loc) : Prop := v = some (.int (0 : Int32)) ∧ Fr n0 L ∧ (h = h0)
set_option maxRecDepth 65536 in
set_option maxHeartbeats 40000000 in
theorem rm17_1_0 (l : Launch) (Z : State) (a0 : Array Value) (hw : ∀ d ∈ tables_1, d.before a0 Z = true) (ws : List Jvm.Cond) (a1 : Addr) (bv : Addr) (k1 : ClassId) (c0 : Int32) (c1 : Int32) (c2 : Int32) (c3 : Int32) (cs1 : Int32) (fm : Value) (h0 : Heap) (n0 : Nat) (Z0 : n0 ≤ h0.size) (O1 : Old Z n0 h0) (G : own_G Z cs1 fm) (a0_ : ¬ (c0 < (0 : Int32))) (b0_ : ¬ ((65535 : Int32) < c0)) (a1_ : ¬ (c1 < (0 : Int32))) (b1_ : ¬ ((65535 : Int32) < c1)) (a2_ : ¬ (c2 < (0 : Int32))) (b2_ : ¬ ((65535 : Int32) < c2)) (a3_ : ¬ (c3 < (0 : Int32))) (b3_ : ¬ ((65535 : Int32) < c3)) (E1 : Exa Z h0 a1 "java/lang/String") (F1 : Fld Z h0 a1 "java/lang/String" "coder" "B" (.int (1 : Int32))) (F2 : Fld Z h0 a1 "java/lang/String" "value" "[B" (.ref bv)) (V1 : Arv Z h0 bv k1 .byte (8 : Int32) [(.int (own_x0 c0)), (.int (own_x8 c0)), (.int (own_x0 c1)), (.int (own_x8 c1)), (.int (own_x0 c2)), (.int (own_x8 c2)), (.int (own_x0 c3)), (.int (own_x8 c3))] (.int (0 : Int32))) :
  MetFree l (⟨"java/lang/String", "codePointCount", "(II)I"⟩ : MethodName) (head1 (Jvm.Cond.code (⟨"java/lang/String", "codePointCount", "(II)I"⟩ : MethodName) jdk_42_method_59_code 3 (some .int) :: ws) ({ frames := 2, cells := 0, slots := 0, locals := 31 } : Room)) (fun a U => a = #[(.ref a1), (.int (0 : Int32)), (.int (0 : Int32))] ∧ Z.Warmed39 U.vm ∧ U.heap = h0) (fun _ _ _ _ _ => True) (fun _ U o U' => ∃ v L, o = .returned v ∧ Q17_1_0 Z a1 bv k1 c0 c1 c2 c3 cs1 fm h0 n0 v U'.heap L ∧ FrameEnd U o U' L ({ frames := 2, cells := 0, slots := 0, locals := 31 } : Room).cells ({ frames := 2, cells := 0, slots := 0, locals := 31 } : Room).slots) := by
 refine MetFree.of_bodySF pn17 hisR ?_
 intro p e s m args below meth c s₁ Bd hml0 hP hK
 obtain ⟨rfl, hZ, hh⟩ := hP
 have hx := Bd.exec
 have hby := Bd.bytes
 have hml : c.maxLocals = 3 := hml0
 have hown : s.vm.findClass "java/lang/String" = some m.cls := findClass_of_methodNamed Bd.named
 have hnm := (name_of_methodNamed Bd.named Bd.method).1
 have X0 : Stand p l e ({ frames := 2, cells := 0, slots := 0, locals := 31 } : Room) s m #[(.ref a1), (.int (0 : Int32)), (.int (0 : Int32))] below meth c s₁ [] 0 0 := Stand.of_body Bd
 have e0 : s₁.heap = h0 := by rw [← hh, Bd.state]; rfl
 have N0 := Fr.nil n0
 have p0 : Go p.tables e below (s₁.setTop (entryFrame m #[(.ref a1), (.int (0 : Int32)), (.int (0 : Int32))] 3)) (s₁.setTop (mkF m 0 #[.val (.ref a1), .val (.int (0 : Int32)), .val (.int (0 : Int32))] [])) := fun t_ k_ => castTop (ef_rm17_1_0 m a1 bv k1 c0 c1 c2 c3 cs1 fm) k_
 have p101 : Go p.tables e below _ (s₁.setTop (mkF m 3 #[.val (.ref a1), .val (.int (0 : Int32)), .val (.int (0 : Int32))] [(.ref a1), (.int (0 : Int32)), (.int (0 : Int32))])) := fun t_ k_ => p0 t_ (by
  refine XS.iloadN X0.here hx rfl (hb hby d17_0) rfl ?_
  refine XS.iloadN X0.here hx rfl (hb hby d17_1) rfl ?_
  refine XS.aloadN X0.here hx rfl (hb hby d17_2) rfl rfl ?_
  exact k_)
 obtain ⟨cq102, kq102, q102a, q102b, q102c⟩ := isOf hZ e0 E1
 obtain ⟨_, _, ⟨T102, L102, k102, n102⟩, -, X102, ⟨Lc102, hQ102, l102, y102, z102⟩, st102⟩ := X0.virtualBack hx (y := (⟨"java/lang/String", "length", "()I"⟩ : MethodName)) (z := (⟨"java/lang/String", "length", "()I"⟩ : MethodName)) hown (mvT hZ (own_w hw 90 rfl)) (mvT hZ (own_w hw 46 rfl)) (notFace_of_selects (args := #[]) (mvT hZ (own_w hw 48 rfl))) (mvT hZ (own_w hw 48 rfl)) (mvT hZ (own_w hw 47 rfl)) (by decide) (backOf (W := 2) (rm9_1 l Z a0 hw [] a1 (4 : Int32) bv k1 (8 : Int32) [(.int (own_x0 c0)), (.int (own_x8 c0)), (.int (own_x0 c1)), (.int (own_x8 c1)), (.int (own_x0 c2)), (.int (own_x8 c2)), (.int (own_x0 c3)), (.int (own_x8 c3))] cs1 fm h0 n0 (Nat.le_trans Z0 (Keep.refl h0 []).1) O1 G E1 F1 F2 V1 (by decide)) hZ (own_w hw 49 rfl) (own_w hw 8 rfl) (by decide) (by decide)) q102a q102c (g := (mkF m 3 #[.val (.ref a1), .val (.int (0 : Int32)), .val (.int (0 : Int32))] [(.ref a1), (.int (0 : Int32)), (.int (0 : Int32))])) rfl (by rw [hml]; rfl) (Steps.refl _) (argsL := []) (rest := [(.int (0 : Int32)), (.int (0 : Int32))]) (lenOf pd14 rfl) rfl (by show 2 * 0 + _ ≤ _; exact Nat.le_of_eq rfl) (hb hby d17_3) (fun _ _ => ⟨rfl, e0, (by decide : 0 + 0 ≤ _), (by decide : 0 + 0 ≤ _)⟩)
 dsimp only [Pt.U, Pt.locs, Pt.cells, Pt.slots] at X102 l102 y102 z102 st102 hQ102
 subst l102 y102 z102
 obtain ⟨rfl, N102q, q102_hh⟩ := hQ102
 have N102 := Fr.app N0 N102q
 obtain ⟨_, _, ⟨T103, L103, k103, n103⟩, -, X103, ⟨Lc103, hQ103, l103, y103, z103⟩, st103⟩ := Jvm.LawKit.callS X102 hx (y := (⟨"java/util/Objects", "checkFromToIndex", "(III)I"⟩ : MethodName)) hown (mvT hZ (own_w hw 91 rfl)) (mvT hZ (own_w hw 92 rfl)) (mvT hZ (own_w hw 93 rfl)) (mvT hZ (own_w hw 94 rfl)) (by decide) (backOf (W := 0) (rm18_0 l Z a0 hw []  h0 n0 (Nat.le_trans Z0 (Keep.refl h0 []).1) ) hZ (own_w hw 94 rfl) (own_w hw 93 rfl) (by decide) (by decide)) (g := (mkF m 6 #[.val (.ref a1), .val (.int (0 : Int32)), .val (.int (0 : Int32))] [(.int (4 : Int32)), (.int (0 : Int32)), (.int (0 : Int32))])) rfl (by rw [hml]; rfl) (argsL := [(.int (0 : Int32)), (.int (0 : Int32)), (.int (4 : Int32))]) (rest := []) (lenOf pd18 rfl) rfl (by show 2 * 0 + _ ≤ _; exact Nat.le_of_eq rfl) (hb hby d17_6) (fun _ _ => ⟨rfl, q102_hh, (by decide : 0 + 0 ≤ _), (by decide : 0 + 0 ≤ _)⟩)
 dsimp only [Pt.U, Pt.locs, Pt.cells, Pt.slots] at X103 l103 y103 z103 st103 hQ103
 subst l103 y103 z103
 obtain ⟨rfl, N103q, q103_hh⟩ := hQ103
 have N103 := Fr.app N102 N103q
 have p104 : Go p.tables e below _ (T103.setTop (mkF m 11 #[.val (.ref a1), .val (.int (0 : Int32)), .val (.int (0 : Int32))] [(.ref a1)])) := fun t_ k_ => (gc (gcT p101 st102) st103) t_ (by
  refine XS.pop X103.here hx rfl (hb hby d17_9) rfl rfl ?_
  refine XS.aloadN X103.here hx rfl (hb hby d17_10) rfl rfl ?_
  exact k_)
 obtain ⟨cq105, kq105, q105a, q105b, q105c⟩ := isOf hZ q103_hh E1
 obtain ⟨_, _, ⟨T105, L105, k105, n105⟩, -, X105, ⟨Lc105, hQ105, l105, y105, z105⟩, st105⟩ := X103.virtualBack hx (y := (⟨"java/lang/String", "isLatin1", "()Z"⟩ : MethodName)) (z := (⟨"java/lang/String", "isLatin1", "()Z"⟩ : MethodName)) hown (mvT hZ (own_w hw 60 rfl)) (mvT hZ (own_w hw 61 rfl)) (notFace_of_selects (args := #[]) (mvT hZ (own_w hw 63 rfl))) (mvT hZ (own_w hw 63 rfl)) (mvT hZ (own_w hw 62 rfl)) (by decide) (backOf (W := 0) (rm12_1 l Z a0 hw [] a1 cs1 fm h0 n0 (Nat.le_trans Z0 (Keep.refl h0 []).1) O1 G F1) hZ (own_w hw 64 rfl) (own_w hw 8 rfl) (by decide) (by decide)) q105a q105c (g := (mkF m 11 #[.val (.ref a1), .val (.int (0 : Int32)), .val (.int (0 : Int32))] [(.ref a1)])) rfl (by rw [hml]; rfl) (Steps.refl _) (argsL := []) (rest := []) (lenOf pd3 rfl) rfl (by show 2 * 0 + _ ≤ _; exact Nat.le_of_eq rfl) (hb hby d17_11) (fun _ _ => ⟨rfl, q103_hh, (by decide : 0 + 0 ≤ _), (by decide : 0 + 0 ≤ _)⟩)
 dsimp only [Pt.U, Pt.locs, Pt.cells, Pt.slots] at X105 l105 y105 z105 st105 hQ105
 subst l105 y105 z105
 obtain ⟨rfl, N105q, q105_hh⟩ := hQ105
 have N105 := Fr.app N103 N105q
 have p106 : Go p.tables e below _ (T105.setTop (mkF m 22 #[.val (.ref a1), .val (.int (0 : Int32)), .val (.int (0 : Int32))] [(.ref a1)])) := fun t_ k_ => (gcT p104 st105) t_ (by
  refine XS.ifYes X105.here hx rfl (pc0 := 14) (pc' := 21) rfl (hb hby d17_14) rfl ((if0 _ _).trans (teq (by decide : ((0 : Int32) = (0 : Int32)))).1) (by decide) (by decide) ?_
  refine XS.aloadN X105.here hx rfl (hb hby d17_21) rfl rfl ?_
  exact k_)
 obtain ⟨T107, X107, e107, st107⟩ := getF X105 hx hZ hown (host := "") (Or.inl (own_w hw 33 rfl)) Via.refl q105_hh F2 (g := (mkF m 22 #[.val (.ref a1), .val (.int (0 : Int32)), .val (.int (0 : Int32))] [(.ref a1)])) rfl rfl (hb hby d17_22)
 have p108 : Go p.tables e below _ (T107.setTop (mkF m 27 #[.val (.ref a1), .val (.int (0 : Int32)), .val (.int (0 : Int32))] [(.int (0 : Int32)), (.int (0 : Int32)), (.ref bv)])) := fun t_ k_ => (gc p106 st107) t_ (by
  refine XS.iloadN X107.here hx rfl (hb hby d17_25) rfl ?_
  refine XS.iloadN X107.here hx rfl (hb hby d17_26) rfl ?_
  exact k_)
 obtain ⟨_, _, ⟨T109, L109, k109, n109⟩, -, X109, ⟨Lc109, hQ109, l109, y109, z109⟩, st109⟩ := Jvm.LawKit.callS X107 hx (y := (⟨"java/lang/StringUTF16", "codePointCount", "([BII)I"⟩ : MethodName)) hown (mvT hZ (own_w hw 132 rfl)) (mvT hZ (own_w hw 133 rfl)) (mvT hZ (own_w hw 22 rfl)) (mvT hZ (own_w hw 134 rfl)) (by decide) (backOf (W := 0) (rm29_0 l Z a0 hw [] bv k1 c0 c1 c2 c3 cs1 fm h0 n0 (Nat.le_trans Z0 (Keep.refl h0 []).1) O1 G V1 a0_ b0_ a1_ b1_ a2_ b2_ a3_ b3_) hZ (own_w hw 134 rfl) (own_w hw 22 rfl) (by decide) (by decide)) (g := (mkF m 27 #[.val (.ref a1), .val (.int (0 : Int32)), .val (.int (0 : Int32))] [(.int (0 : Int32)), (.int (0 : Int32)), (.ref bv)])) rfl (by rw [hml]; rfl) (argsL := [(.ref bv), (.int (0 : Int32)), (.int (0 : Int32))]) (rest := []) (lenOf pd20 rfl) rfl (by show 2 * 0 + _ ≤ _; exact Nat.le_of_eq rfl) (hb hby d17_27) (fun _ _ => ⟨rfl, e107, (by decide : 0 + 0 ≤ _), (by decide : 0 + 0 ≤ _)⟩)
 dsimp only [Pt.U, Pt.locs, Pt.cells, Pt.slots] at X109 l109 y109 z109 st109 hQ109
 subst l109 y109 z109
 obtain ⟨rfl, N109q, q109_hh⟩ := hQ109
 have N109 := Fr.app N105 N109q
 obtain ⟨fs, hr, hrun, hended, hW, hsame⟩ := X109.leave (v := some (.int (0 : Int32))) (fun h => by rw [Bd.returns] at h; cases h)
 refine ⟨_, _, (gc p108 st109) _ (retI X109 hx Bd.returns (hb hby d17_30) hr), hrun, hended, _, _, rfl, ?_, ⟨_, rfl⟩, hW, hsame.mono (by decide) (by decide)⟩
 show Q17_1_0 Z a1 bv k1 c0 c1 c2 c3 cs1 fm h0 n0 _ T109.heap _
 rw [q109_hh]
 exact ⟨rfl, N109, rfl⟩
theorem ef_rm16_1_0 (m : MethodId) (a1 : Addr) (a2 : Addr) (bv : Addr) (k1 : ClassId) (c0 : Int32) (c1 : Int32) (c2 : Int32) (c3 : Int32) (cs1 : Int32) (fm : Value) : entryFrame m #[(.ref a1), (.int (0 : Int32))] 2 = mkF m 0 #[.val (.ref a1), .val (.int (0 : Int32))] [] := by first | (simp [entryFrame, mkF, argsToLocals, Value.category]; done) | rfl
def Q16_1_0 (Z : State) (a1 : Addr) (a2 : Addr) (bv : Addr) (k1 : ClassId) (c0 : Int32) (c1 : Int32) (c2 : Int32) (c3 : Int32) (cs1 : Int32) (fm : Value) (h0 : Heap) (n0 : Nat) (v : Option Value) (h : Heap) (L : List Loc) : Prop := v = some (.int (1 : Int32)) ∧ Fr n0 L ∧ (h = h0)
set_option maxRecDepth 65536 in
set_option maxHeartbeats 40000000 in
theorem rm16_1_0 (l : Launch) (Z : State) (a0 : Array Value) (hw : ∀ d ∈ tables_1, d.before a0 Z = true) (ws : List Jvm.Cond) (a1 : Addr) (a2 : Addr) (bv : Addr) (k1 : ClassId) (c0 : Int32) (c1 : Int32) (c2 : Int32) (c3 : Int32) (cs1 : Int32) (fm : Value) (h0 : Heap) (n0 : Nat) (Z0 : n0 ≤ h0.size) (O1 : Old Z n0 h0) (G : own_G Z cs1 fm) (a0_ : ¬ (c0 < (0 : Int32))) (b0_ : ¬ ((65535 : Int32) < c0)) (a1_ : ¬ (c1 < (0 : Int32))) (b1_ : ¬ ((65535 : Int32) < c1)) (a2_ : ¬ (c2 < (0 : Int32))) (b2_ : ¬ ((65535 : Int32) < c2)) (a3_ : ¬ (c3 < (0 : Int32))) (b3_ : ¬ ((65535 : Int32) < c3)) (T1 : Fld Z h0 a1 "com/example/subsume/subsume/model/Lines" "text" "Ljava/lang/String;" (.ref a2)) (E1 : Exa Z h0 a2 "java/lang/String") (F1 : Fld Z h0 a2 "java/lang/String" "coder" "B" (.int (1 : Int32))) (F2 : Fld Z h0 a2 "java/lang/String" "value" "[B" (.ref bv)) (V1 : Arv Z h0 bv k1 .byte (8 : Int32) [(.int (own_x0 c0)), (.int (own_x8 c0)), (.int (own_x0 c1)), (.int (own_x8 c1)), (.int (own_x0 c2)), (.int (own_x8 c2)), (.int (own_x0 c3)), (.int (own_x8 c3))] (.int (0 : Int32))) :
  MetFree l (⟨"com/example/subsume/subsume/model/Lines", "character", "(I)I"⟩ : MethodName) (head1 (Jvm.Cond.code (⟨"com/example/subsume/subsume/model/Lines", "character", "(I)I"⟩ : MethodName) prog_16_method_2_code 2 (some .int) :: ws) ({ frames := 3, cells := 0, slots := 0, locals := 45 } : Room)) (fun a U => a = #[(.ref a1), (.int (0 : Int32))] ∧ Z.Warmed39 U.vm ∧ U.heap = h0) (fun _ _ _ _ _ => True) (fun _ U o U' => ∃ v L, o = .returned v ∧ Q16_1_0 Z a1 a2 bv k1 c0 c1 c2 c3 cs1 fm h0 n0 v U'.heap L ∧ FrameEnd U o U' L ({ frames := 3, cells := 0, slots := 0, locals := 45 } : Room).cells ({ frames := 3, cells := 0, slots := 0, locals := 45 } : Room).slots) := by
 refine MetFree.of_bodySF pn16 hisR ?_
 intro p e s m args below meth c s₁ Bd hml0 hP hK
 obtain ⟨rfl, hZ, hh⟩ := hP
 have hx := Bd.exec
 have hby := Bd.bytes
 have hml : c.maxLocals = 2 := hml0
 have hown : s.vm.findClass "com/example/subsume/subsume/model/Lines" = some m.cls := findClass_of_methodNamed Bd.named
 have hnm := (name_of_methodNamed Bd.named Bd.method).1
 have X0 : Stand p l e ({ frames := 3, cells := 0, slots := 0, locals := 45 } : Room) s m #[(.ref a1), (.int (0 : Int32))] below meth c s₁ [] 0 0 := Stand.of_body Bd
 have e0 : s₁.heap = h0 := by rw [← hh, Bd.state]; rfl
 have N0 := Fr.nil n0
 have p0 : Go p.tables e below (s₁.setTop (entryFrame m #[(.ref a1), (.int (0 : Int32))] 2)) (s₁.setTop (mkF m 0 #[.val (.ref a1), .val (.int (0 : Int32))] [])) := fun t_ k_ => castTop (ef_rm16_1_0 m a1 a2 bv k1 c0 c1 c2 c3 cs1 fm) k_
 have p101 : Go p.tables e below _ (s₁.setTop (mkF m 1 #[.val (.ref a1), .val (.int (0 : Int32))] [(.ref a1)])) := fun t_ k_ => p0 t_ (by
  refine XS.aloadN X0.here hx rfl (hb hby d16_0) rfl rfl ?_
  exact k_)
 obtain ⟨T102, X102, e102, st102⟩ := getF X0 hx hZ hown (host := "") (Or.inl (own_w hw 43 rfl)) Via.refl e0 T1 (g := (mkF m 1 #[.val (.ref a1), .val (.int (0 : Int32))] [(.ref a1)])) rfl rfl (hb hby d16_1)
 have p103 : Go p.tables e below _ (T102.setTop (mkF m 6 #[.val (.ref a1), .val (.int (0 : Int32))] [(.int (0 : Int32)), (.int (0 : Int32)), (.ref a2)])) := fun t_ k_ => (gc p101 st102) t_ (by
  refine XS.iconst X102.here hx rfl (hb hby d16_4) ?_
  refine XS.iloadN X102.here hx rfl (hb hby d16_5) rfl ?_
  exact k_)
 obtain ⟨cq104, kq104, q104a, q104b, q104c⟩ := isOf hZ e102 E1
 obtain ⟨_, _, ⟨T104, L104, k104, n104⟩, -, X104, ⟨Lc104, hQ104, l104, y104, z104⟩, st104⟩ := X102.virtualBack hx (y := (⟨"java/lang/String", "codePointCount", "(II)I"⟩ : MethodName)) (z := (⟨"java/lang/String", "codePointCount", "(II)I"⟩ : MethodName)) hown (mvT hZ (own_w hw 85 rfl)) (mvT hZ (own_w hw 86 rfl)) (notFace_of_selects (args := #[]) (mvT hZ (own_w hw 88 rfl))) (mvT hZ (own_w hw 88 rfl)) (mvT hZ (own_w hw 87 rfl)) (by decide) (backOf (W := 0) (rm17_1_0 l Z a0 hw [] a2 bv k1 c0 c1 c2 c3 cs1 fm h0 n0 (Nat.le_trans Z0 (Keep.refl h0 []).1) O1 G a0_ b0_ a1_ b1_ a2_ b2_ a3_ b3_ E1 F1 F2 V1) hZ (own_w hw 89 rfl) (own_w hw 8 rfl) (by decide) (by decide)) q104a q104c (g := (mkF m 6 #[.val (.ref a1), .val (.int (0 : Int32))] [(.int (0 : Int32)), (.int (0 : Int32)), (.ref a2)])) rfl (by rw [hml]; rfl) (Steps.refl _) (argsL := [(.int (0 : Int32)), (.int (0 : Int32))]) (rest := []) (lenOf pd19 rfl) rfl (by show 2 * 0 + _ ≤ _; exact Nat.le_of_eq rfl) (hb hby d16_6) (fun _ _ => ⟨rfl, e102, (by decide : 0 + 0 ≤ _), (by decide : 0 + 0 ≤ _)⟩)
 dsimp only [Pt.U, Pt.locs, Pt.cells, Pt.slots] at X104 l104 y104 z104 st104 hQ104
 subst l104 y104 z104
 obtain ⟨rfl, N104q, q104_hh⟩ := hQ104
 have N104 := Fr.app N0 N104q
 have p105 : Go p.tables e below _ (T104.setTop (mkF m 11 #[.val (.ref a1), .val (.int (0 : Int32))] [(.int (1 : Int32))])) := fun t_ k_ => (gcT p103 st104) t_ (by
  refine XS.iconst X104.here hx rfl (hb hby d16_9) ?_
  refine XS.iadd X104.here hx rfl (hb hby d16_10) rfl ?_
  exact k_)
 obtain ⟨fs, hr, hrun, hended, hW, hsame⟩ := X104.leave (v := some (.int (1 : Int32))) (fun h => by rw [Bd.returns] at h; cases h)
 refine ⟨_, _, p105 _ (retI X104 hx Bd.returns (hb hby d16_11) hr), hrun, hended, _, _, rfl, ?_, ⟨_, rfl⟩, hW, hsame.mono (by decide) (by decide)⟩
 show Q16_1_0 Z a1 a2 bv k1 c0 c1 c2 c3 cs1 fm h0 n0 _ T104.heap _
 rw [q104_hh]
 exact ⟨rfl, N104, rfl⟩
theorem ef_rm19_1 (m : MethodId)  : entryFrame m #[(.int (0 : Int32)), (.int (1 : Int32)), (.int (4 : Int32)), .null] 4 = mkF m 0 #[.val (.int (0 : Int32)), .val (.int (1 : Int32)), .val (.int (4 : Int32)), .val .null] [] := by first | (simp [entryFrame, mkF, argsToLocals, Value.category]; done) | rfl
def Q19_1 (Z : State)  (h0 : Heap) (n0 : Nat) (v : Option Value) (h : Heap) (L : List Loc) : Prop := v = some (.int (0 : Int32)) ∧ Fr n0 L ∧ (h = h0)
set_option maxRecDepth 65536 in
set_option maxHeartbeats 40000000 in
theorem rm19_1 (l : Launch) (Z : State) (a0 : Array Value) (hw : ∀ d ∈ tables_1, d.before a0 Z = true) (ws : List Jvm.Cond)  (h0 : Heap) (n0 : Nat) (Z0 : n0 ≤ h0.size) :
  MetFree l (⟨"jdk/internal/util/Preconditions", "checkFromToIndex", "(IIILjava/util/function/BiFunction;)I"⟩ : MethodName) (head1 (Jvm.Cond.code (⟨"jdk/internal/util/Preconditions", "checkFromToIndex", "(IIILjava/util/function/BiFunction;)I"⟩ : MethodName) jdk_41_method_12_code 4 (some .int) :: ws) ({ frames := 0, cells := 0, slots := 0, locals := 0 } : Room)) (fun a U => a = #[(.int (0 : Int32)), (.int (1 : Int32)), (.int (4 : Int32)), .null] ∧ Z.Warmed39 U.vm ∧ U.heap = h0) (fun _ _ _ _ _ => True) (fun _ U o U' => ∃ v L, o = .returned v ∧ Q19_1 Z  h0 n0 v U'.heap L ∧ FrameEnd U o U' L ({ frames := 0, cells := 0, slots := 0, locals := 0 } : Room).cells ({ frames := 0, cells := 0, slots := 0, locals := 0 } : Room).slots) := by
 refine MetFree.of_bodySF pn19 hisR ?_
 intro p e s m args below meth c s₁ Bd hml0 hP hK
 obtain ⟨rfl, hZ, hh⟩ := hP
 have hx := Bd.exec
 have hby := Bd.bytes
 have hml : c.maxLocals = 4 := hml0
 have hown : s.vm.findClass "jdk/internal/util/Preconditions" = some m.cls := findClass_of_methodNamed Bd.named
 have hnm := (name_of_methodNamed Bd.named Bd.method).1
 have X0 : Stand p l e ({ frames := 0, cells := 0, slots := 0, locals := 0 } : Room) s m #[(.int (0 : Int32)), (.int (1 : Int32)), (.int (4 : Int32)), .null] below meth c s₁ [] 0 0 := Stand.of_body Bd
 have e0 : s₁.heap = h0 := by rw [← hh, Bd.state]; rfl
 have N0 := Fr.nil n0
 have p0 : Go p.tables e below (s₁.setTop (entryFrame m #[(.int (0 : Int32)), (.int (1 : Int32)), (.int (4 : Int32)), .null] 4)) (s₁.setTop (mkF m 0 #[.val (.int (0 : Int32)), .val (.int (1 : Int32)), .val (.int (4 : Int32)), .val .null] [])) := fun t_ k_ => castTop (ef_rm19_1 m ) k_
 have p101 : Go p.tables e below _ (s₁.setTop (mkF m 23 #[.val (.int (0 : Int32)), .val (.int (1 : Int32)), .val (.int (4 : Int32)), .val .null] [(.int (0 : Int32))])) := fun t_ k_ => p0 t_ (by
  refine XS.iloadN X0.here hx rfl (hb hby d19_0) rfl ?_
  refine XS.ifNo X0.here hx rfl (hb hby d19_1) rfl ((if0 _ _).trans (flt (by decide : ¬ ((0 : Int32) < (0 : Int32)))).1) ?_
  refine XS.iloadN X0.here hx rfl (hb hby d19_4) rfl ?_
  refine XS.iloadN X0.here hx rfl (hb hby d19_5) rfl ?_
  refine XS.icmpNo X0.here hx rfl (hb hby d19_6) rfl (flt (by decide : ¬ ((1 : Int32) < (0 : Int32)))).2.2.1 ?_
  refine XS.iloadN X0.here hx rfl (hb hby d19_9) rfl ?_
  refine XS.iloadN X0.here hx rfl (hb hby d19_10) rfl ?_
  refine XS.icmpYes X0.here hx rfl (pc0 := 11) (pc' := 22) rfl (hb hby d19_11) rfl (flt (by decide : ¬ ((4 : Int32) < (1 : Int32)))).2.2.2 (by decide) (by decide) ?_
  refine XS.iloadN X0.here hx rfl (hb hby d19_22) rfl ?_
  exact k_)
 obtain ⟨fs, hr, hrun, hended, hW, hsame⟩ := X0.leave (v := some (.int (0 : Int32))) (fun h => by rw [Bd.returns] at h; cases h)
 refine ⟨_, _, p101 _ (retI X0 hx Bd.returns (hb hby d19_23) hr), hrun, hended, _, _, rfl, ?_, ⟨_, rfl⟩, hW, hsame.mono (by decide) (by decide)⟩
 show Q19_1 Z  h0 n0 _ s₁.heap _
 rw [e0]
 exact ⟨rfl, N0, rfl⟩
theorem ef_rm18_1 (m : MethodId)  : entryFrame m #[(.int (0 : Int32)), (.int (1 : Int32)), (.int (4 : Int32))] 3 = mkF m 0 #[.val (.int (0 : Int32)), .val (.int (1 : Int32)), .val (.int (4 : Int32))] [] := by first | (simp [entryFrame, mkF, argsToLocals, Value.category]; done) | rfl
def Q18_1 (Z : State)  (h0 : Heap) (n0 : Nat) (v : Option Value) (h : Heap) (L : List Loc) : Prop := v = some (.int (0 : Int32)) ∧ Fr n0 L ∧ (h = h0)
set_option maxRecDepth 65536 in
set_option maxHeartbeats 40000000 in
theorem rm18_1 (l : Launch) (Z : State) (a0 : Array Value) (hw : ∀ d ∈ tables_1, d.before a0 Z = true) (ws : List Jvm.Cond)  (h0 : Heap) (n0 : Nat) (Z0 : n0 ≤ h0.size) :
  MetFree l (⟨"java/util/Objects", "checkFromToIndex", "(III)I"⟩ : MethodName) (head1 (Jvm.Cond.code (⟨"java/util/Objects", "checkFromToIndex", "(III)I"⟩ : MethodName) jdk_31_method_18_code 3 (some .int) :: ws) ({ frames := 1, cells := 0, slots := 0, locals := 15 } : Room)) (fun a U => a = #[(.int (0 : Int32)), (.int (1 : Int32)), (.int (4 : Int32))] ∧ Z.Warmed39 U.vm ∧ U.heap = h0) (fun _ _ _ _ _ => True) (fun _ U o U' => ∃ v L, o = .returned v ∧ Q18_1 Z  h0 n0 v U'.heap L ∧ FrameEnd U o U' L ({ frames := 1, cells := 0, slots := 0, locals := 15 } : Room).cells ({ frames := 1, cells := 0, slots := 0, locals := 15 } : Room).slots) := by
 refine MetFree.of_bodySF pn18 hisR ?_
 intro p e s m args below meth c s₁ Bd hml0 hP hK
 obtain ⟨rfl, hZ, hh⟩ := hP
 have hx := Bd.exec
 have hby := Bd.bytes
 have hml : c.maxLocals = 3 := hml0
 have hown : s.vm.findClass "java/util/Objects" = some m.cls := findClass_of_methodNamed Bd.named
 have hnm := (name_of_methodNamed Bd.named Bd.method).1
 have X0 : Stand p l e ({ frames := 1, cells := 0, slots := 0, locals := 15 } : Room) s m #[(.int (0 : Int32)), (.int (1 : Int32)), (.int (4 : Int32))] below meth c s₁ [] 0 0 := Stand.of_body Bd
 have e0 : s₁.heap = h0 := by rw [← hh, Bd.state]; rfl
 have N0 := Fr.nil n0
 have p0 : Go p.tables e below (s₁.setTop (entryFrame m #[(.int (0 : Int32)), (.int (1 : Int32)), (.int (4 : Int32))] 3)) (s₁.setTop (mkF m 0 #[.val (.int (0 : Int32)), .val (.int (1 : Int32)), .val (.int (4 : Int32))] [])) := fun t_ k_ => castTop (ef_rm18_1 m ) k_
 have p101 : Go p.tables e below _ (s₁.setTop (mkF m 4 #[.val (.int (0 : Int32)), .val (.int (1 : Int32)), .val (.int (4 : Int32))] [.null, (.int (4 : Int32)), (.int (1 : Int32)), (.int (0 : Int32))])) := fun t_ k_ => p0 t_ (by
  refine XS.iloadN X0.here hx rfl (hb hby d18_0) rfl ?_
  refine XS.iloadN X0.here hx rfl (hb hby d18_1) rfl ?_
  refine XS.iloadN X0.here hx rfl (hb hby d18_2) rfl ?_
  refine XS.aconstNull X0.here hx rfl (hb hby d18_3) ?_
  exact k_)
 obtain ⟨_, _, ⟨T102, L102, k102, n102⟩, -, X102, ⟨Lc102, hQ102, l102, y102, z102⟩, st102⟩ := Jvm.LawKit.callS X0 hx (y := (⟨"jdk/internal/util/Preconditions", "checkFromToIndex", "(IIILjava/util/function/BiFunction;)I"⟩ : MethodName)) hown (mvT hZ (own_w hw 95 rfl)) (mvT hZ (own_w hw 96 rfl)) (mvT hZ (own_w hw 73 rfl)) (mvT hZ (own_w hw 97 rfl)) (by decide) (backOf (W := 0) (rm19_1 l Z a0 hw []  h0 n0 (Nat.le_trans Z0 (Keep.refl h0 []).1) ) hZ (own_w hw 97 rfl) (own_w hw 73 rfl) (by decide) (by decide)) (g := (mkF m 4 #[.val (.int (0 : Int32)), .val (.int (1 : Int32)), .val (.int (4 : Int32))] [.null, (.int (4 : Int32)), (.int (1 : Int32)), (.int (0 : Int32))])) rfl (by rw [hml]; rfl) (argsL := [(.int (0 : Int32)), (.int (1 : Int32)), (.int (4 : Int32)), .null]) (rest := []) (lenOf pd16 rfl) rfl (by show 2 * 0 + _ ≤ _; exact Nat.le_of_eq rfl) (hb hby d18_4) (fun _ _ => ⟨rfl, e0, (by decide : 0 + 0 ≤ _), (by decide : 0 + 0 ≤ _)⟩)
 dsimp only [Pt.U, Pt.locs, Pt.cells, Pt.slots] at X102 l102 y102 z102 st102 hQ102
 subst l102 y102 z102
 obtain ⟨rfl, N102q, q102_hh⟩ := hQ102
 have N102 := Fr.app N0 N102q
 obtain ⟨fs, hr, hrun, hended, hW, hsame⟩ := X102.leave (v := some (.int (0 : Int32))) (fun h => by rw [Bd.returns] at h; cases h)
 refine ⟨_, _, (gc p101 st102) _ (retI X102 hx Bd.returns (hb hby d18_7) hr), hrun, hended, _, _, rfl, ?_, ⟨_, rfl⟩, hW, hsame.mono (by decide) (by decide)⟩
 show Q18_1 Z  h0 n0 _ T102.heap _
 rw [q102_hh]
 exact ⟨rfl, N102, rfl⟩
theorem ef_rm30_1 (m : MethodId) (a1 : Addr) (k1 : ClassId) (c0 : Int32) (c1 : Int32) (c2 : Int32) (c3 : Int32) (cs1 : Int32) (fm : Value) : entryFrame m #[(.ref a1), (.int (0 : Int32)), (.int (1 : Int32)), (.int (0 : Int32))] 6 = mkF m 0 #[.val (.ref a1), .val (.int (0 : Int32)), .val (.int (1 : Int32)), .val (.int (0 : Int32)), .unset, .unset] [] := by first | (simp [entryFrame, mkF, argsToLocals, Value.category]; done) | rfl
def Q30_1 (Z : State) (a1 : Addr) (k1 : ClassId) (c0 : Int32) (c1 : Int32) (c2 : Int32) (c3 : Int32) (cs1 : Int32) (fm : Value) (h0 : Heap) (n0 : Nat) (v : Option Value) (h : Heap) (L : List Loc) : Prop := v = some (.int (1 : Int32)) ∧ Fr n0 L ∧ (h = h0)
set_option maxRecDepth 65536 in
set_option maxHeartbeats 40000000 in
theorem rm30_1 (l : Launch) (Z : State) (a0 : Array Value) (hw : ∀ d ∈ tables_1, d.before a0 Z = true) (ws : List Jvm.Cond) (a1 : Addr) (k1 : ClassId) (c0 : Int32) (c1 : Int32) (c2 : Int32) (c3 : Int32) (cs1 : Int32) (fm : Value) (h0 : Heap) (n0 : Nat) (Z0 : n0 ≤ h0.size) (O1 : Old Z n0 h0) (G : own_G Z cs1 fm) (V1 : Arv Z h0 a1 k1 .byte (8 : Int32) [(.int (own_x0 c0)), (.int (own_x8 c0)), (.int (own_x0 c1)), (.int (own_x8 c1)), (.int (own_x0 c2)), (.int (own_x8 c2)), (.int (own_x0 c3)), (.int (own_x8 c3))] (.int (0 : Int32))) (a0_ : ¬ (c0 < (0 : Int32))) (b0_ : ¬ ((65535 : Int32) < c0)) (a1_ : ¬ (c1 < (0 : Int32))) (b1_ : ¬ ((65535 : Int32) < c1)) (a2_ : ¬ (c2 < (0 : Int32))) (b2_ : ¬ ((65535 : Int32) < c2)) (a3_ : ¬ (c3 < (0 : Int32))) (b3_ : ¬ ((65535 : Int32) < c3)) :
  MetFree l (⟨"java/lang/StringUTF16", "codePointCount", "([BIIZ)I"⟩ : MethodName) (head1 (Jvm.Cond.code (⟨"java/lang/StringUTF16", "codePointCount", "([BIIZ)I"⟩ : MethodName) jdk_52_method_11_code 6 (some .int) :: ws) ({ frames := 0, cells := 0, slots := 0, locals := 0 } : Room)) (fun a U => a = #[(.ref a1), (.int (0 : Int32)), (.int (1 : Int32)), (.int (0 : Int32))] ∧ Z.Warmed39 U.vm ∧ U.heap = h0) (fun _ _ _ _ _ => True) (fun _ U o U' => ∃ v L, o = .returned v ∧ Q30_1 Z a1 k1 c0 c1 c2 c3 cs1 fm h0 n0 v U'.heap L ∧ FrameEnd U o U' L ({ frames := 0, cells := 0, slots := 0, locals := 0 } : Room).cells ({ frames := 0, cells := 0, slots := 0, locals := 0 } : Room).slots) := by
 refine MetFree.of_bodySF pn30 hisR ?_
 intro p e s m args below meth c s₁ Bd hml0 hP hK
 obtain ⟨rfl, hZ, hh⟩ := hP
 have hx := Bd.exec
 have hby := Bd.bytes
 have hml : c.maxLocals = 6 := hml0
 have hown : s.vm.findClass "java/lang/StringUTF16" = some m.cls := findClass_of_methodNamed Bd.named
 have hnm := (name_of_methodNamed Bd.named Bd.method).1
 have X0 : Stand p l e ({ frames := 0, cells := 0, slots := 0, locals := 0 } : Room) s m #[(.ref a1), (.int (0 : Int32)), (.int (1 : Int32)), (.int (0 : Int32))] below meth c s₁ [] 0 0 := Stand.of_body Bd
 have e0 : s₁.heap = h0 := by rw [← hh, Bd.state]; rfl
 have N0 := Fr.nil n0
 have p0 : Go p.tables e below (s₁.setTop (entryFrame m #[(.ref a1), (.int (0 : Int32)), (.int (1 : Int32)), (.int (0 : Int32))] 6)) (s₁.setTop (mkF m 0 #[.val (.ref a1), .val (.int (0 : Int32)), .val (.int (1 : Int32)), .val (.int (0 : Int32)), .unset, .unset] [])) := fun t_ k_ => castTop (ef_rm30_1 m a1 k1 c0 c1 c2 c3 cs1 fm) k_
 obtain ⟨T101, X101, e101, st101⟩ := getS2 X0 hx hZ hown (host := "") (Or.inl (own_w hw 116 rfl)) Via.refl e0 (G.2.2.2.2.1.ext O1.2) (g := (mkF m 0 #[.val (.ref a1), .val (.int (0 : Int32)), .val (.int (1 : Int32)), .val (.int (0 : Int32)), .unset, .unset] [])) rfl (hb hby d30_0)
 have p102 : Go p.tables e below _ (T101.setTop (mkF m 90 #[.val (.ref a1), .val (.int (0 : Int32)), .val (.int (1 : Int32)), .val (.int (0 : Int32)), .val (.int (1 : Int32)), .val (.int (0 : Int32))] [(.int (1 : Int32))])) := fun t_ k_ => (gc p0 st101) t_ (by
  refine XS.ifYes X101.here hx rfl (pc0 := 3) (pc' := 19) rfl (hb hby d30_3) rfl ((if0 _ _).trans (feq (by decide : ¬ ((1 : Int32) = (0 : Int32)))).2) (by decide) (by decide) ?_
  refine XS.iloadN X101.here hx rfl (hb hby d30_19) rfl ?_
  refine XS.iloadN X101.here hx rfl (hb hby d30_20) rfl ?_
  refine XS.isub X101.here hx rfl (hb hby d30_21) rfl ?_
  refine XS.istore X101.here hx rfl (hb hby d30_22) rfl (l' := #[.val (.ref a1), .val (.int (0 : Int32)), .val (.int (1 : Int32)), .val (.int (0 : Int32)), .val (.int (1 : Int32)), .unset]) rfl ?_
  refine XS.iloadN X101.here hx rfl (hb hby d30_24) rfl ?_
  refine XS.istore X101.here hx rfl (hb hby d30_25) rfl (l' := #[.val (.ref a1), .val (.int (0 : Int32)), .val (.int (1 : Int32)), .val (.int (0 : Int32)), .val (.int (1 : Int32)), .val (.int (0 : Int32))]) rfl ?_
  refine XS.iloadN X101.here hx rfl (hb hby d30_27) rfl ?_
  refine XS.ifYes X101.here hx rfl (pc0 := 28) (pc' := 44) rfl (hb hby d30_28) rfl ((if0 _ _).trans (teq (by decide : ((0 : Int32) = (0 : Int32)))).1) (by decide) (by decide) ?_
  refine XS.iload X101.here hx rfl (hb hby d30_44) rfl ?_
  refine XS.iloadN X101.here hx rfl (hb hby d30_46) rfl ?_
  refine XS.iconst X101.here hx rfl (hb hby d30_47) ?_
  refine XS.isub X101.here hx rfl (hb hby d30_48) rfl ?_
  refine XS.icmpYes X101.here hx rfl (pc0 := 49) (pc' := 88) rfl (hb hby d30_49) rfl (flt (by decide : ¬ ((0 : Int32) < (0 : Int32)))).2.1 (by decide) (by decide) ?_
  refine XS.iload X101.here hx rfl (hb hby d30_88) rfl ?_
  exact k_)
 obtain ⟨fs, hr, hrun, hended, hW, hsame⟩ := X101.leave (v := some (.int (1 : Int32))) (fun h => by rw [Bd.returns] at h; cases h)
 refine ⟨_, _, p102 _ (retI X101 hx Bd.returns (hb hby d30_90) hr), hrun, hended, _, _, rfl, ?_, ⟨_, rfl⟩, hW, hsame.mono (by decide) (by decide)⟩
 show Q30_1 Z a1 k1 c0 c1 c2 c3 cs1 fm h0 n0 _ T101.heap _
 rw [e101]
 exact ⟨rfl, N0, rfl⟩
theorem ef_rm29_1 (m : MethodId) (a1 : Addr) (k1 : ClassId) (c0 : Int32) (c1 : Int32) (c2 : Int32) (c3 : Int32) (cs1 : Int32) (fm : Value) : entryFrame m #[(.ref a1), (.int (0 : Int32)), (.int (1 : Int32))] 3 = mkF m 0 #[.val (.ref a1), .val (.int (0 : Int32)), .val (.int (1 : Int32))] [] := by first | (simp [entryFrame, mkF, argsToLocals, Value.category]; done) | rfl
def Q29_1 (Z : State) (a1 : Addr) (k1 : ClassId) (c0 : Int32) (c1 : Int32) (c2 : Int32) (c3 : Int32) (cs1 : Int32) (fm : Value) (h0 : Heap) (n0 : Nat) (v : Option Value) (h : Heap) (L : List Loc) : Prop := v = some (.int (1 : Int32)) ∧ Fr n0 L ∧ (h = h0)
set_option maxRecDepth 65536 in
set_option maxHeartbeats 40000000 in
theorem rm29_1 (l : Launch) (Z : State) (a0 : Array Value) (hw : ∀ d ∈ tables_1, d.before a0 Z = true) (ws : List Jvm.Cond) (a1 : Addr) (k1 : ClassId) (c0 : Int32) (c1 : Int32) (c2 : Int32) (c3 : Int32) (cs1 : Int32) (fm : Value) (h0 : Heap) (n0 : Nat) (Z0 : n0 ≤ h0.size) (O1 : Old Z n0 h0) (G : own_G Z cs1 fm) (V1 : Arv Z h0 a1 k1 .byte (8 : Int32) [(.int (own_x0 c0)), (.int (own_x8 c0)), (.int (own_x0 c1)), (.int (own_x8 c1)), (.int (own_x0 c2)), (.int (own_x8 c2)), (.int (own_x0 c3)), (.int (own_x8 c3))] (.int (0 : Int32))) (a0_ : ¬ (c0 < (0 : Int32))) (b0_ : ¬ ((65535 : Int32) < c0)) (a1_ : ¬ (c1 < (0 : Int32))) (b1_ : ¬ ((65535 : Int32) < c1)) (a2_ : ¬ (c2 < (0 : Int32))) (b2_ : ¬ ((65535 : Int32) < c2)) (a3_ : ¬ (c3 < (0 : Int32))) (b3_ : ¬ ((65535 : Int32) < c3)) :
  MetFree l (⟨"java/lang/StringUTF16", "codePointCount", "([BII)I"⟩ : MethodName) (head1 (Jvm.Cond.code (⟨"java/lang/StringUTF16", "codePointCount", "([BII)I"⟩ : MethodName) jdk_52_method_12_code 3 (some .int) :: ws) ({ frames := 1, cells := 0, slots := 0, locals := 17 } : Room)) (fun a U => a = #[(.ref a1), (.int (0 : Int32)), (.int (1 : Int32))] ∧ Z.Warmed39 U.vm ∧ U.heap = h0) (fun _ _ _ _ _ => True) (fun _ U o U' => ∃ v L, o = .returned v ∧ Q29_1 Z a1 k1 c0 c1 c2 c3 cs1 fm h0 n0 v U'.heap L ∧ FrameEnd U o U' L ({ frames := 1, cells := 0, slots := 0, locals := 17 } : Room).cells ({ frames := 1, cells := 0, slots := 0, locals := 17 } : Room).slots) := by
 refine MetFree.of_bodySF pn29 hisR ?_
 intro p e s m args below meth c s₁ Bd hml0 hP hK
 obtain ⟨rfl, hZ, hh⟩ := hP
 have hx := Bd.exec
 have hby := Bd.bytes
 have hml : c.maxLocals = 3 := hml0
 have hown : s.vm.findClass "java/lang/StringUTF16" = some m.cls := findClass_of_methodNamed Bd.named
 have hnm := (name_of_methodNamed Bd.named Bd.method).1
 have X0 : Stand p l e ({ frames := 1, cells := 0, slots := 0, locals := 17 } : Room) s m #[(.ref a1), (.int (0 : Int32)), (.int (1 : Int32))] below meth c s₁ [] 0 0 := Stand.of_body Bd
 have e0 : s₁.heap = h0 := by rw [← hh, Bd.state]; rfl
 have N0 := Fr.nil n0
 have p0 : Go p.tables e below (s₁.setTop (entryFrame m #[(.ref a1), (.int (0 : Int32)), (.int (1 : Int32))] 3)) (s₁.setTop (mkF m 0 #[.val (.ref a1), .val (.int (0 : Int32)), .val (.int (1 : Int32))] [])) := fun t_ k_ => castTop (ef_rm29_1 m a1 k1 c0 c1 c2 c3 cs1 fm) k_
 have p101 : Go p.tables e below _ (s₁.setTop (mkF m 4 #[.val (.ref a1), .val (.int (0 : Int32)), .val (.int (1 : Int32))] [(.int (0 : Int32)), (.int (1 : Int32)), (.int (0 : Int32)), (.ref a1)])) := fun t_ k_ => p0 t_ (by
  refine XS.aloadN X0.here hx rfl (hb hby d29_0) rfl rfl ?_
  refine XS.iloadN X0.here hx rfl (hb hby d29_1) rfl ?_
  refine XS.iloadN X0.here hx rfl (hb hby d29_2) rfl ?_
  refine XS.iconst X0.here hx rfl (hb hby d29_3) ?_
  exact k_)
 obtain ⟨_, _, ⟨T102, L102, k102, n102⟩, -, X102, ⟨Lc102, hQ102, l102, y102, z102⟩, st102⟩ := Jvm.LawKit.callS X0 hx (y := (⟨"java/lang/StringUTF16", "codePointCount", "([BIIZ)I"⟩ : MethodName)) hown (mvT hZ (own_w hw 135 rfl)) (mvT hZ (own_w hw 136 rfl)) (mvT hZ (own_w hw 22 rfl)) (mvT hZ (own_w hw 137 rfl)) (by decide) (backOf (W := 0) (rm30_1 l Z a0 hw [] a1 k1 c0 c1 c2 c3 cs1 fm h0 n0 (Nat.le_trans Z0 (Keep.refl h0 []).1) O1 G V1 a0_ b0_ a1_ b1_ a2_ b2_ a3_ b3_) hZ (own_w hw 137 rfl) (own_w hw 22 rfl) (by decide) (by decide)) (g := (mkF m 4 #[.val (.ref a1), .val (.int (0 : Int32)), .val (.int (1 : Int32))] [(.int (0 : Int32)), (.int (1 : Int32)), (.int (0 : Int32)), (.ref a1)])) rfl (by rw [hml]; rfl) (argsL := [(.ref a1), (.int (0 : Int32)), (.int (1 : Int32)), (.int (0 : Int32))]) (rest := []) (lenOf pd17 rfl) rfl (by show 2 * 0 + _ ≤ _; exact Nat.le_of_eq rfl) (hb hby d29_4) (fun _ _ => ⟨rfl, e0, (by decide : 0 + 0 ≤ _), (by decide : 0 + 0 ≤ _)⟩)
 dsimp only [Pt.U, Pt.locs, Pt.cells, Pt.slots] at X102 l102 y102 z102 st102 hQ102
 subst l102 y102 z102
 obtain ⟨rfl, N102q, q102_hh⟩ := hQ102
 have N102 := Fr.app N0 N102q
 obtain ⟨fs, hr, hrun, hended, hW, hsame⟩ := X102.leave (v := some (.int (1 : Int32))) (fun h => by rw [Bd.returns] at h; cases h)
 refine ⟨_, _, (gc p101 st102) _ (retI X102 hx Bd.returns (hb hby d29_7) hr), hrun, hended, _, _, rfl, ?_, ⟨_, rfl⟩, hW, hsame.mono (by decide) (by decide)⟩
 show Q29_1 Z a1 k1 c0 c1 c2 c3 cs1 fm h0 n0 _ T102.heap _
 rw [q102_hh]
 exact ⟨rfl, N102, rfl⟩
theorem ef_rm17_0_1 (m : MethodId) (a1 : Addr) (bv : Addr) (k1 : ClassId) (c0 : Int32) (c1 : Int32) (c2 : Int32) (c3 : Int32) (cs1 : Int32) (fm : Value) : entryFrame m #[(.ref a1), (.int (0 : Int32)), (.int (1 : Int32))] 3 = mkF m 0 #[.val (.ref a1), .val (.int (0 : Int32)), .val (.int (1 : Int32))] [] := by first | (simp [entryFrame, mkF, argsToLocals, Value.category]; done) | rfl
def Q17_0_1 (Z : State) (a1 : Addr) (bv : Addr) (k1 : ClassId) (c0 : Int32) (c1 : Int32) (c2 : Int32) (c3 : Int32) (cs1 : Int32) (fm : Value) (h0 : Heap) (n0 : Nat) (v : Option Value) (h : Heap) (L : List Loc) : Prop := v = some (.int (1 : Int32)) ∧ Fr n0 L ∧ (h = h0)
set_option maxRecDepth 65536 in
set_option maxHeartbeats 40000000 in
theorem rm17_0_1 (l : Launch) (Z : State) (a0 : Array Value) (hw : ∀ d ∈ tables_1, d.before a0 Z = true) (ws : List Jvm.Cond) (a1 : Addr) (bv : Addr) (k1 : ClassId) (c0 : Int32) (c1 : Int32) (c2 : Int32) (c3 : Int32) (cs1 : Int32) (fm : Value) (h0 : Heap) (n0 : Nat) (Z0 : n0 ≤ h0.size) (O1 : Old Z n0 h0) (G : own_G Z cs1 fm) (E1 : Exa Z h0 a1 "java/lang/String") (F1 : Fld Z h0 a1 "java/lang/String" "coder" "B" (.int (0 : Int32))) (F2 : Fld Z h0 a1 "java/lang/String" "value" "[B" (.ref bv)) (V1 : Arv Z h0 bv k1 .byte (4 : Int32) [(.int (own_xl c0)), (.int (own_xl c1)), (.int (own_xl c2)), (.int (own_xl c3))] (.int (0 : Int32))) :
  MetFree l (⟨"java/lang/String", "codePointCount", "(II)I"⟩ : MethodName) (head1 (Jvm.Cond.code (⟨"java/lang/String", "codePointCount", "(II)I"⟩ : MethodName) jdk_42_method_59_code 3 (some .int) :: ws) ({ frames := 2, cells := 0, slots := 0, locals := 29 } : Room)) (fun a U => a = #[(.ref a1), (.int (0 : Int32)), (.int (1 : Int32))] ∧ Z.Warmed39 U.vm ∧ U.heap = h0) (fun _ _ _ _ _ => True) (fun _ U o U' => ∃ v L, o = .returned v ∧ Q17_0_1 Z a1 bv k1 c0 c1 c2 c3 cs1 fm h0 n0 v U'.heap L ∧ FrameEnd U o U' L ({ frames := 2, cells := 0, slots := 0, locals := 29 } : Room).cells ({ frames := 2, cells := 0, slots := 0, locals := 29 } : Room).slots) := by
 refine MetFree.of_bodySF pn17 hisR ?_
 intro p e s m args below meth c s₁ Bd hml0 hP hK
 obtain ⟨rfl, hZ, hh⟩ := hP
 have hx := Bd.exec
 have hby := Bd.bytes
 have hml : c.maxLocals = 3 := hml0
 have hown : s.vm.findClass "java/lang/String" = some m.cls := findClass_of_methodNamed Bd.named
 have hnm := (name_of_methodNamed Bd.named Bd.method).1
 have X0 : Stand p l e ({ frames := 2, cells := 0, slots := 0, locals := 29 } : Room) s m #[(.ref a1), (.int (0 : Int32)), (.int (1 : Int32))] below meth c s₁ [] 0 0 := Stand.of_body Bd
 have e0 : s₁.heap = h0 := by rw [← hh, Bd.state]; rfl
 have N0 := Fr.nil n0
 have p0 : Go p.tables e below (s₁.setTop (entryFrame m #[(.ref a1), (.int (0 : Int32)), (.int (1 : Int32))] 3)) (s₁.setTop (mkF m 0 #[.val (.ref a1), .val (.int (0 : Int32)), .val (.int (1 : Int32))] [])) := fun t_ k_ => castTop (ef_rm17_0_1 m a1 bv k1 c0 c1 c2 c3 cs1 fm) k_
 have p101 : Go p.tables e below _ (s₁.setTop (mkF m 3 #[.val (.ref a1), .val (.int (0 : Int32)), .val (.int (1 : Int32))] [(.ref a1), (.int (1 : Int32)), (.int (0 : Int32))])) := fun t_ k_ => p0 t_ (by
  refine XS.iloadN X0.here hx rfl (hb hby d17_0) rfl ?_
  refine XS.iloadN X0.here hx rfl (hb hby d17_1) rfl ?_
  refine XS.aloadN X0.here hx rfl (hb hby d17_2) rfl rfl ?_
  exact k_)
 obtain ⟨cq102, kq102, q102a, q102b, q102c⟩ := isOf hZ e0 E1
 obtain ⟨_, _, ⟨T102, L102, k102, n102⟩, -, X102, ⟨Lc102, hQ102, l102, y102, z102⟩, st102⟩ := X0.virtualBack hx (y := (⟨"java/lang/String", "length", "()I"⟩ : MethodName)) (z := (⟨"java/lang/String", "length", "()I"⟩ : MethodName)) hown (mvT hZ (own_w hw 90 rfl)) (mvT hZ (own_w hw 46 rfl)) (notFace_of_selects (args := #[]) (mvT hZ (own_w hw 48 rfl))) (mvT hZ (own_w hw 48 rfl)) (mvT hZ (own_w hw 47 rfl)) (by decide) (backOf (W := 2) (rm9_0 l Z a0 hw [] a1 (4 : Int32) bv k1 (4 : Int32) [(.int (own_xl c0)), (.int (own_xl c1)), (.int (own_xl c2)), (.int (own_xl c3))] cs1 fm h0 n0 (Nat.le_trans Z0 (Keep.refl h0 []).1) O1 G E1 F1 F2 V1 (by decide)) hZ (own_w hw 49 rfl) (own_w hw 8 rfl) (by decide) (by decide)) q102a q102c (g := (mkF m 3 #[.val (.ref a1), .val (.int (0 : Int32)), .val (.int (1 : Int32))] [(.ref a1), (.int (1 : Int32)), (.int (0 : Int32))])) rfl (by rw [hml]; rfl) (Steps.refl _) (argsL := []) (rest := [(.int (1 : Int32)), (.int (0 : Int32))]) (lenOf pd14 rfl) rfl (by show 2 * 0 + _ ≤ _; exact Nat.le_of_eq rfl) (hb hby d17_3) (fun _ _ => ⟨rfl, e0, (by decide : 0 + 0 ≤ _), (by decide : 0 + 0 ≤ _)⟩)
 dsimp only [Pt.U, Pt.locs, Pt.cells, Pt.slots] at X102 l102 y102 z102 st102 hQ102
 subst l102 y102 z102
 obtain ⟨rfl, N102q, q102_hh⟩ := hQ102
 have N102 := Fr.app N0 N102q
 obtain ⟨_, _, ⟨T103, L103, k103, n103⟩, -, X103, ⟨Lc103, hQ103, l103, y103, z103⟩, st103⟩ := Jvm.LawKit.callS X102 hx (y := (⟨"java/util/Objects", "checkFromToIndex", "(III)I"⟩ : MethodName)) hown (mvT hZ (own_w hw 91 rfl)) (mvT hZ (own_w hw 92 rfl)) (mvT hZ (own_w hw 93 rfl)) (mvT hZ (own_w hw 94 rfl)) (by decide) (backOf (W := 0) (rm18_1 l Z a0 hw []  h0 n0 (Nat.le_trans Z0 (Keep.refl h0 []).1) ) hZ (own_w hw 94 rfl) (own_w hw 93 rfl) (by decide) (by decide)) (g := (mkF m 6 #[.val (.ref a1), .val (.int (0 : Int32)), .val (.int (1 : Int32))] [(.int (4 : Int32)), (.int (1 : Int32)), (.int (0 : Int32))])) rfl (by rw [hml]; rfl) (argsL := [(.int (0 : Int32)), (.int (1 : Int32)), (.int (4 : Int32))]) (rest := []) (lenOf pd18 rfl) rfl (by show 2 * 0 + _ ≤ _; exact Nat.le_of_eq rfl) (hb hby d17_6) (fun _ _ => ⟨rfl, q102_hh, (by decide : 0 + 0 ≤ _), (by decide : 0 + 0 ≤ _)⟩)
 dsimp only [Pt.U, Pt.locs, Pt.cells, Pt.slots] at X103 l103 y103 z103 st103 hQ103
 subst l103 y103 z103
 obtain ⟨rfl, N103q, q103_hh⟩ := hQ103
 have N103 := Fr.app N102 N103q
 have p104 : Go p.tables e below _ (T103.setTop (mkF m 11 #[.val (.ref a1), .val (.int (0 : Int32)), .val (.int (1 : Int32))] [(.ref a1)])) := fun t_ k_ => (gc (gcT p101 st102) st103) t_ (by
  refine XS.pop X103.here hx rfl (hb hby d17_9) rfl rfl ?_
  refine XS.aloadN X103.here hx rfl (hb hby d17_10) rfl rfl ?_
  exact k_)
 obtain ⟨cq105, kq105, q105a, q105b, q105c⟩ := isOf hZ q103_hh E1
 obtain ⟨_, _, ⟨T105, L105, k105, n105⟩, -, X105, ⟨Lc105, hQ105, l105, y105, z105⟩, st105⟩ := X103.virtualBack hx (y := (⟨"java/lang/String", "isLatin1", "()Z"⟩ : MethodName)) (z := (⟨"java/lang/String", "isLatin1", "()Z"⟩ : MethodName)) hown (mvT hZ (own_w hw 60 rfl)) (mvT hZ (own_w hw 61 rfl)) (notFace_of_selects (args := #[]) (mvT hZ (own_w hw 63 rfl))) (mvT hZ (own_w hw 63 rfl)) (mvT hZ (own_w hw 62 rfl)) (by decide) (backOf (W := 0) (rm12_0 l Z a0 hw [] a1 cs1 fm h0 n0 (Nat.le_trans Z0 (Keep.refl h0 []).1) O1 G F1) hZ (own_w hw 64 rfl) (own_w hw 8 rfl) (by decide) (by decide)) q105a q105c (g := (mkF m 11 #[.val (.ref a1), .val (.int (0 : Int32)), .val (.int (1 : Int32))] [(.ref a1)])) rfl (by rw [hml]; rfl) (Steps.refl _) (argsL := []) (rest := []) (lenOf pd3 rfl) rfl (by show 2 * 0 + _ ≤ _; exact Nat.le_of_eq rfl) (hb hby d17_11) (fun _ _ => ⟨rfl, q103_hh, (by decide : 0 + 0 ≤ _), (by decide : 0 + 0 ≤ _)⟩)
 dsimp only [Pt.U, Pt.locs, Pt.cells, Pt.slots] at X105 l105 y105 z105 st105 hQ105
 subst l105 y105 z105
 obtain ⟨rfl, N105q, q105_hh⟩ := hQ105
 have N105 := Fr.app N103 N105q
 have p106 : Go p.tables e below _ (T105.setTop (mkF m 20 #[.val (.ref a1), .val (.int (0 : Int32)), .val (.int (1 : Int32))] [(.int (1 : Int32))])) := fun t_ k_ => (gcT p104 st105) t_ (by
  refine XS.ifNo X105.here hx rfl (hb hby d17_14) rfl ((if0 _ _).trans (feq (by decide : ¬ ((1 : Int32) = (0 : Int32)))).1) ?_
  refine XS.iloadN X105.here hx rfl (hb hby d17_17) rfl ?_
  refine XS.iloadN X105.here hx rfl (hb hby d17_18) rfl ?_
  refine XS.isub X105.here hx rfl (hb hby d17_19) rfl ?_
  exact k_)
 obtain ⟨fs, hr, hrun, hended, hW, hsame⟩ := X105.leave (v := some (.int (1 : Int32))) (fun h => by rw [Bd.returns] at h; cases h)
 refine ⟨_, _, p106 _ (retI X105 hx Bd.returns (hb hby d17_20) hr), hrun, hended, _, _, rfl, ?_, ⟨_, rfl⟩, hW, hsame.mono (by decide) (by decide)⟩
 show Q17_0_1 Z a1 bv k1 c0 c1 c2 c3 cs1 fm h0 n0 _ T105.heap _
 rw [q105_hh]
 exact ⟨rfl, N105, rfl⟩
theorem ef_rm16_0_1 (m : MethodId) (a1 : Addr) (a2 : Addr) (bv : Addr) (k1 : ClassId) (c0 : Int32) (c1 : Int32) (c2 : Int32) (c3 : Int32) (cs1 : Int32) (fm : Value) : entryFrame m #[(.ref a1), (.int (1 : Int32))] 2 = mkF m 0 #[.val (.ref a1), .val (.int (1 : Int32))] [] := by first | (simp [entryFrame, mkF, argsToLocals, Value.category]; done) | rfl
def Q16_0_1 (Z : State) (a1 : Addr) (a2 : Addr) (bv : Addr) (k1 : ClassId) (c0 : Int32) (c1 : Int32) (c2 : Int32) (c3 : Int32) (cs1 : Int32) (fm : Value) (h0 : Heap) (n0 : Nat) (v : Option Value) (h : Heap) (L : List Loc) : Prop := v = some (.int (2 : Int32)) ∧ Fr n0 L ∧ (h = h0)
set_option maxRecDepth 65536 in
set_option maxHeartbeats 40000000 in
theorem rm16_0_1 (l : Launch) (Z : State) (a0 : Array Value) (hw : ∀ d ∈ tables_1, d.before a0 Z = true) (ws : List Jvm.Cond) (a1 : Addr) (a2 : Addr) (bv : Addr) (k1 : ClassId) (c0 : Int32) (c1 : Int32) (c2 : Int32) (c3 : Int32) (cs1 : Int32) (fm : Value) (h0 : Heap) (n0 : Nat) (Z0 : n0 ≤ h0.size) (O1 : Old Z n0 h0) (G : own_G Z cs1 fm) (T1 : Fld Z h0 a1 "com/example/subsume/subsume/model/Lines" "text" "Ljava/lang/String;" (.ref a2)) (E1 : Exa Z h0 a2 "java/lang/String") (F1 : Fld Z h0 a2 "java/lang/String" "coder" "B" (.int (0 : Int32))) (F2 : Fld Z h0 a2 "java/lang/String" "value" "[B" (.ref bv)) (V1 : Arv Z h0 bv k1 .byte (4 : Int32) [(.int (own_xl c0)), (.int (own_xl c1)), (.int (own_xl c2)), (.int (own_xl c3))] (.int (0 : Int32))) :
  MetFree l (⟨"com/example/subsume/subsume/model/Lines", "character", "(I)I"⟩ : MethodName) (head1 (Jvm.Cond.code (⟨"com/example/subsume/subsume/model/Lines", "character", "(I)I"⟩ : MethodName) prog_16_method_2_code 2 (some .int) :: ws) ({ frames := 3, cells := 0, slots := 0, locals := 43 } : Room)) (fun a U => a = #[(.ref a1), (.int (1 : Int32))] ∧ Z.Warmed39 U.vm ∧ U.heap = h0) (fun _ _ _ _ _ => True) (fun _ U o U' => ∃ v L, o = .returned v ∧ Q16_0_1 Z a1 a2 bv k1 c0 c1 c2 c3 cs1 fm h0 n0 v U'.heap L ∧ FrameEnd U o U' L ({ frames := 3, cells := 0, slots := 0, locals := 43 } : Room).cells ({ frames := 3, cells := 0, slots := 0, locals := 43 } : Room).slots) := by
 refine MetFree.of_bodySF pn16 hisR ?_
 intro p e s m args below meth c s₁ Bd hml0 hP hK
 obtain ⟨rfl, hZ, hh⟩ := hP
 have hx := Bd.exec
 have hby := Bd.bytes
 have hml : c.maxLocals = 2 := hml0
 have hown : s.vm.findClass "com/example/subsume/subsume/model/Lines" = some m.cls := findClass_of_methodNamed Bd.named
 have hnm := (name_of_methodNamed Bd.named Bd.method).1
 have X0 : Stand p l e ({ frames := 3, cells := 0, slots := 0, locals := 43 } : Room) s m #[(.ref a1), (.int (1 : Int32))] below meth c s₁ [] 0 0 := Stand.of_body Bd
 have e0 : s₁.heap = h0 := by rw [← hh, Bd.state]; rfl
 have N0 := Fr.nil n0
 have p0 : Go p.tables e below (s₁.setTop (entryFrame m #[(.ref a1), (.int (1 : Int32))] 2)) (s₁.setTop (mkF m 0 #[.val (.ref a1), .val (.int (1 : Int32))] [])) := fun t_ k_ => castTop (ef_rm16_0_1 m a1 a2 bv k1 c0 c1 c2 c3 cs1 fm) k_
 have p101 : Go p.tables e below _ (s₁.setTop (mkF m 1 #[.val (.ref a1), .val (.int (1 : Int32))] [(.ref a1)])) := fun t_ k_ => p0 t_ (by
  refine XS.aloadN X0.here hx rfl (hb hby d16_0) rfl rfl ?_
  exact k_)
 obtain ⟨T102, X102, e102, st102⟩ := getF X0 hx hZ hown (host := "") (Or.inl (own_w hw 43 rfl)) Via.refl e0 T1 (g := (mkF m 1 #[.val (.ref a1), .val (.int (1 : Int32))] [(.ref a1)])) rfl rfl (hb hby d16_1)
 have p103 : Go p.tables e below _ (T102.setTop (mkF m 6 #[.val (.ref a1), .val (.int (1 : Int32))] [(.int (1 : Int32)), (.int (0 : Int32)), (.ref a2)])) := fun t_ k_ => (gc p101 st102) t_ (by
  refine XS.iconst X102.here hx rfl (hb hby d16_4) ?_
  refine XS.iloadN X102.here hx rfl (hb hby d16_5) rfl ?_
  exact k_)
 obtain ⟨cq104, kq104, q104a, q104b, q104c⟩ := isOf hZ e102 E1
 obtain ⟨_, _, ⟨T104, L104, k104, n104⟩, -, X104, ⟨Lc104, hQ104, l104, y104, z104⟩, st104⟩ := X102.virtualBack hx (y := (⟨"java/lang/String", "codePointCount", "(II)I"⟩ : MethodName)) (z := (⟨"java/lang/String", "codePointCount", "(II)I"⟩ : MethodName)) hown (mvT hZ (own_w hw 85 rfl)) (mvT hZ (own_w hw 86 rfl)) (notFace_of_selects (args := #[]) (mvT hZ (own_w hw 88 rfl))) (mvT hZ (own_w hw 88 rfl)) (mvT hZ (own_w hw 87 rfl)) (by decide) (backOf (W := 0) (rm17_0_1 l Z a0 hw [] a2 bv k1 c0 c1 c2 c3 cs1 fm h0 n0 (Nat.le_trans Z0 (Keep.refl h0 []).1) O1 G E1 F1 F2 V1) hZ (own_w hw 89 rfl) (own_w hw 8 rfl) (by decide) (by decide)) q104a q104c (g := (mkF m 6 #[.val (.ref a1), .val (.int (1 : Int32))] [(.int (1 : Int32)), (.int (0 : Int32)), (.ref a2)])) rfl (by rw [hml]; rfl) (Steps.refl _) (argsL := [(.int (0 : Int32)), (.int (1 : Int32))]) (rest := []) (lenOf pd19 rfl) rfl (by show 2 * 0 + _ ≤ _; exact Nat.le_of_eq rfl) (hb hby d16_6) (fun _ _ => ⟨rfl, e102, (by decide : 0 + 0 ≤ _), (by decide : 0 + 0 ≤ _)⟩)
 dsimp only [Pt.U, Pt.locs, Pt.cells, Pt.slots] at X104 l104 y104 z104 st104 hQ104
 subst l104 y104 z104
 obtain ⟨rfl, N104q, q104_hh⟩ := hQ104
 have N104 := Fr.app N0 N104q
 have p105 : Go p.tables e below _ (T104.setTop (mkF m 11 #[.val (.ref a1), .val (.int (1 : Int32))] [(.int (2 : Int32))])) := fun t_ k_ => (gcT p103 st104) t_ (by
  refine XS.iconst X104.here hx rfl (hb hby d16_9) ?_
  refine XS.iadd X104.here hx rfl (hb hby d16_10) rfl ?_
  exact k_)
 obtain ⟨fs, hr, hrun, hended, hW, hsame⟩ := X104.leave (v := some (.int (2 : Int32))) (fun h => by rw [Bd.returns] at h; cases h)
 refine ⟨_, _, p105 _ (retI X104 hx Bd.returns (hb hby d16_11) hr), hrun, hended, _, _, rfl, ?_, ⟨_, rfl⟩, hW, hsame.mono (by decide) (by decide)⟩
 show Q16_0_1 Z a1 a2 bv k1 c0 c1 c2 c3 cs1 fm h0 n0 _ T104.heap _
 rw [q104_hh]
 exact ⟨rfl, N104, rfl⟩
theorem ef_rm17_1_1 (m : MethodId) (a1 : Addr) (bv : Addr) (k1 : ClassId) (c0 : Int32) (c1 : Int32) (c2 : Int32) (c3 : Int32) (cs1 : Int32) (fm : Value) : entryFrame m #[(.ref a1), (.int (0 : Int32)), (.int (1 : Int32))] 3 = mkF m 0 #[.val (.ref a1), .val (.int (0 : Int32)), .val (.int (1 : Int32))] [] := by first | (simp [entryFrame, mkF, argsToLocals, Value.category]; done) | rfl
def Q17_1_1 (Z : State) (a1 : Addr) (bv : Addr) (k1 : ClassId) (c0 : Int32) (c1 : Int32) (c2 : Int32) (c3 : Int32) (cs1 : Int32) (fm : Value) (h0 : Heap) (n0 : Nat) (v : Option Value) (h : Heap) (L : List Loc) : Prop := v = some (.int (1 : Int32)) ∧ Fr n0 L ∧ (h = h0)
set_option maxRecDepth 65536 in
set_option maxHeartbeats 40000000 in
theorem rm17_1_1 (l : Launch) (Z : State) (a0 : Array Value) (hw : ∀ d ∈ tables_1, d.before a0 Z = true) (ws : List Jvm.Cond) (a1 : Addr) (bv : Addr) (k1 : ClassId) (c0 : Int32) (c1 : Int32) (c2 : Int32) (c3 : Int32) (cs1 : Int32) (fm : Value) (h0 : Heap) (n0 : Nat) (Z0 : n0 ≤ h0.size) (O1 : Old Z n0 h0) (G : own_G Z cs1 fm) (a0_ : ¬ (c0 < (0 : Int32))) (b0_ : ¬ ((65535 : Int32) < c0)) (a1_ : ¬ (c1 < (0 : Int32))) (b1_ : ¬ ((65535 : Int32) < c1)) (a2_ : ¬ (c2 < (0 : Int32))) (b2_ : ¬ ((65535 : Int32) < c2)) (a3_ : ¬ (c3 < (0 : Int32))) (b3_ : ¬ ((65535 : Int32) < c3)) (E1 : Exa Z h0 a1 "java/lang/String") (F1 : Fld Z h0 a1 "java/lang/String" "coder" "B" (.int (1 : Int32))) (F2 : Fld Z h0 a1 "java/lang/String" "value" "[B" (.ref bv)) (V1 : Arv Z h0 bv k1 .byte (8 : Int32) [(.int (own_x0 c0)), (.int (own_x8 c0)), (.int (own_x0 c1)), (.int (own_x8 c1)), (.int (own_x0 c2)), (.int (own_x8 c2)), (.int (own_x0 c3)), (.int (own_x8 c3))] (.int (0 : Int32))) :
  MetFree l (⟨"java/lang/String", "codePointCount", "(II)I"⟩ : MethodName) (head1 (Jvm.Cond.code (⟨"java/lang/String", "codePointCount", "(II)I"⟩ : MethodName) jdk_42_method_59_code 3 (some .int) :: ws) ({ frames := 2, cells := 0, slots := 0, locals := 31 } : Room)) (fun a U => a = #[(.ref a1), (.int (0 : Int32)), (.int (1 : Int32))] ∧ Z.Warmed39 U.vm ∧ U.heap = h0) (fun _ _ _ _ _ => True) (fun _ U o U' => ∃ v L, o = .returned v ∧ Q17_1_1 Z a1 bv k1 c0 c1 c2 c3 cs1 fm h0 n0 v U'.heap L ∧ FrameEnd U o U' L ({ frames := 2, cells := 0, slots := 0, locals := 31 } : Room).cells ({ frames := 2, cells := 0, slots := 0, locals := 31 } : Room).slots) := by
 refine MetFree.of_bodySF pn17 hisR ?_
 intro p e s m args below meth c s₁ Bd hml0 hP hK
 obtain ⟨rfl, hZ, hh⟩ := hP
 have hx := Bd.exec
 have hby := Bd.bytes
 have hml : c.maxLocals = 3 := hml0
 have hown : s.vm.findClass "java/lang/String" = some m.cls := findClass_of_methodNamed Bd.named
 have hnm := (name_of_methodNamed Bd.named Bd.method).1
 have X0 : Stand p l e ({ frames := 2, cells := 0, slots := 0, locals := 31 } : Room) s m #[(.ref a1), (.int (0 : Int32)), (.int (1 : Int32))] below meth c s₁ [] 0 0 := Stand.of_body Bd
 have e0 : s₁.heap = h0 := by rw [← hh, Bd.state]; rfl
 have N0 := Fr.nil n0
 have p0 : Go p.tables e below (s₁.setTop (entryFrame m #[(.ref a1), (.int (0 : Int32)), (.int (1 : Int32))] 3)) (s₁.setTop (mkF m 0 #[.val (.ref a1), .val (.int (0 : Int32)), .val (.int (1 : Int32))] [])) := fun t_ k_ => castTop (ef_rm17_1_1 m a1 bv k1 c0 c1 c2 c3 cs1 fm) k_
 have p101 : Go p.tables e below _ (s₁.setTop (mkF m 3 #[.val (.ref a1), .val (.int (0 : Int32)), .val (.int (1 : Int32))] [(.ref a1), (.int (1 : Int32)), (.int (0 : Int32))])) := fun t_ k_ => p0 t_ (by
  refine XS.iloadN X0.here hx rfl (hb hby d17_0) rfl ?_
  refine XS.iloadN X0.here hx rfl (hb hby d17_1) rfl ?_
  refine XS.aloadN X0.here hx rfl (hb hby d17_2) rfl rfl ?_
  exact k_)
 obtain ⟨cq102, kq102, q102a, q102b, q102c⟩ := isOf hZ e0 E1
 obtain ⟨_, _, ⟨T102, L102, k102, n102⟩, -, X102, ⟨Lc102, hQ102, l102, y102, z102⟩, st102⟩ := X0.virtualBack hx (y := (⟨"java/lang/String", "length", "()I"⟩ : MethodName)) (z := (⟨"java/lang/String", "length", "()I"⟩ : MethodName)) hown (mvT hZ (own_w hw 90 rfl)) (mvT hZ (own_w hw 46 rfl)) (notFace_of_selects (args := #[]) (mvT hZ (own_w hw 48 rfl))) (mvT hZ (own_w hw 48 rfl)) (mvT hZ (own_w hw 47 rfl)) (by decide) (backOf (W := 2) (rm9_1 l Z a0 hw [] a1 (4 : Int32) bv k1 (8 : Int32) [(.int (own_x0 c0)), (.int (own_x8 c0)), (.int (own_x0 c1)), (.int (own_x8 c1)), (.int (own_x0 c2)), (.int (own_x8 c2)), (.int (own_x0 c3)), (.int (own_x8 c3))] cs1 fm h0 n0 (Nat.le_trans Z0 (Keep.refl h0 []).1) O1 G E1 F1 F2 V1 (by decide)) hZ (own_w hw 49 rfl) (own_w hw 8 rfl) (by decide) (by decide)) q102a q102c (g := (mkF m 3 #[.val (.ref a1), .val (.int (0 : Int32)), .val (.int (1 : Int32))] [(.ref a1), (.int (1 : Int32)), (.int (0 : Int32))])) rfl (by rw [hml]; rfl) (Steps.refl _) (argsL := []) (rest := [(.int (1 : Int32)), (.int (0 : Int32))]) (lenOf pd14 rfl) rfl (by show 2 * 0 + _ ≤ _; exact Nat.le_of_eq rfl) (hb hby d17_3) (fun _ _ => ⟨rfl, e0, (by decide : 0 + 0 ≤ _), (by decide : 0 + 0 ≤ _)⟩)
 dsimp only [Pt.U, Pt.locs, Pt.cells, Pt.slots] at X102 l102 y102 z102 st102 hQ102
 subst l102 y102 z102
 obtain ⟨rfl, N102q, q102_hh⟩ := hQ102
 have N102 := Fr.app N0 N102q
 obtain ⟨_, _, ⟨T103, L103, k103, n103⟩, -, X103, ⟨Lc103, hQ103, l103, y103, z103⟩, st103⟩ := Jvm.LawKit.callS X102 hx (y := (⟨"java/util/Objects", "checkFromToIndex", "(III)I"⟩ : MethodName)) hown (mvT hZ (own_w hw 91 rfl)) (mvT hZ (own_w hw 92 rfl)) (mvT hZ (own_w hw 93 rfl)) (mvT hZ (own_w hw 94 rfl)) (by decide) (backOf (W := 0) (rm18_1 l Z a0 hw []  h0 n0 (Nat.le_trans Z0 (Keep.refl h0 []).1) ) hZ (own_w hw 94 rfl) (own_w hw 93 rfl) (by decide) (by decide)) (g := (mkF m 6 #[.val (.ref a1), .val (.int (0 : Int32)), .val (.int (1 : Int32))] [(.int (4 : Int32)), (.int (1 : Int32)), (.int (0 : Int32))])) rfl (by rw [hml]; rfl) (argsL := [(.int (0 : Int32)), (.int (1 : Int32)), (.int (4 : Int32))]) (rest := []) (lenOf pd18 rfl) rfl (by show 2 * 0 + _ ≤ _; exact Nat.le_of_eq rfl) (hb hby d17_6) (fun _ _ => ⟨rfl, q102_hh, (by decide : 0 + 0 ≤ _), (by decide : 0 + 0 ≤ _)⟩)
 dsimp only [Pt.U, Pt.locs, Pt.cells, Pt.slots] at X103 l103 y103 z103 st103 hQ103
 subst l103 y103 z103
 obtain ⟨rfl, N103q, q103_hh⟩ := hQ103
 have N103 := Fr.app N102 N103q
 have p104 : Go p.tables e below _ (T103.setTop (mkF m 11 #[.val (.ref a1), .val (.int (0 : Int32)), .val (.int (1 : Int32))] [(.ref a1)])) := fun t_ k_ => (gc (gcT p101 st102) st103) t_ (by
  refine XS.pop X103.here hx rfl (hb hby d17_9) rfl rfl ?_
  refine XS.aloadN X103.here hx rfl (hb hby d17_10) rfl rfl ?_
  exact k_)
 obtain ⟨cq105, kq105, q105a, q105b, q105c⟩ := isOf hZ q103_hh E1
 obtain ⟨_, _, ⟨T105, L105, k105, n105⟩, -, X105, ⟨Lc105, hQ105, l105, y105, z105⟩, st105⟩ := X103.virtualBack hx (y := (⟨"java/lang/String", "isLatin1", "()Z"⟩ : MethodName)) (z := (⟨"java/lang/String", "isLatin1", "()Z"⟩ : MethodName)) hown (mvT hZ (own_w hw 60 rfl)) (mvT hZ (own_w hw 61 rfl)) (notFace_of_selects (args := #[]) (mvT hZ (own_w hw 63 rfl))) (mvT hZ (own_w hw 63 rfl)) (mvT hZ (own_w hw 62 rfl)) (by decide) (backOf (W := 0) (rm12_1 l Z a0 hw [] a1 cs1 fm h0 n0 (Nat.le_trans Z0 (Keep.refl h0 []).1) O1 G F1) hZ (own_w hw 64 rfl) (own_w hw 8 rfl) (by decide) (by decide)) q105a q105c (g := (mkF m 11 #[.val (.ref a1), .val (.int (0 : Int32)), .val (.int (1 : Int32))] [(.ref a1)])) rfl (by rw [hml]; rfl) (Steps.refl _) (argsL := []) (rest := []) (lenOf pd3 rfl) rfl (by show 2 * 0 + _ ≤ _; exact Nat.le_of_eq rfl) (hb hby d17_11) (fun _ _ => ⟨rfl, q103_hh, (by decide : 0 + 0 ≤ _), (by decide : 0 + 0 ≤ _)⟩)
 dsimp only [Pt.U, Pt.locs, Pt.cells, Pt.slots] at X105 l105 y105 z105 st105 hQ105
 subst l105 y105 z105
 obtain ⟨rfl, N105q, q105_hh⟩ := hQ105
 have N105 := Fr.app N103 N105q
 have p106 : Go p.tables e below _ (T105.setTop (mkF m 22 #[.val (.ref a1), .val (.int (0 : Int32)), .val (.int (1 : Int32))] [(.ref a1)])) := fun t_ k_ => (gcT p104 st105) t_ (by
  refine XS.ifYes X105.here hx rfl (pc0 := 14) (pc' := 21) rfl (hb hby d17_14) rfl ((if0 _ _).trans (teq (by decide : ((0 : Int32) = (0 : Int32)))).1) (by decide) (by decide) ?_
  refine XS.aloadN X105.here hx rfl (hb hby d17_21) rfl rfl ?_
  exact k_)
 obtain ⟨T107, X107, e107, st107⟩ := getF X105 hx hZ hown (host := "") (Or.inl (own_w hw 33 rfl)) Via.refl q105_hh F2 (g := (mkF m 22 #[.val (.ref a1), .val (.int (0 : Int32)), .val (.int (1 : Int32))] [(.ref a1)])) rfl rfl (hb hby d17_22)
 have p108 : Go p.tables e below _ (T107.setTop (mkF m 27 #[.val (.ref a1), .val (.int (0 : Int32)), .val (.int (1 : Int32))] [(.int (1 : Int32)), (.int (0 : Int32)), (.ref bv)])) := fun t_ k_ => (gc p106 st107) t_ (by
  refine XS.iloadN X107.here hx rfl (hb hby d17_25) rfl ?_
  refine XS.iloadN X107.here hx rfl (hb hby d17_26) rfl ?_
  exact k_)
 obtain ⟨_, _, ⟨T109, L109, k109, n109⟩, -, X109, ⟨Lc109, hQ109, l109, y109, z109⟩, st109⟩ := Jvm.LawKit.callS X107 hx (y := (⟨"java/lang/StringUTF16", "codePointCount", "([BII)I"⟩ : MethodName)) hown (mvT hZ (own_w hw 132 rfl)) (mvT hZ (own_w hw 133 rfl)) (mvT hZ (own_w hw 22 rfl)) (mvT hZ (own_w hw 134 rfl)) (by decide) (backOf (W := 0) (rm29_1 l Z a0 hw [] bv k1 c0 c1 c2 c3 cs1 fm h0 n0 (Nat.le_trans Z0 (Keep.refl h0 []).1) O1 G V1 a0_ b0_ a1_ b1_ a2_ b2_ a3_ b3_) hZ (own_w hw 134 rfl) (own_w hw 22 rfl) (by decide) (by decide)) (g := (mkF m 27 #[.val (.ref a1), .val (.int (0 : Int32)), .val (.int (1 : Int32))] [(.int (1 : Int32)), (.int (0 : Int32)), (.ref bv)])) rfl (by rw [hml]; rfl) (argsL := [(.ref bv), (.int (0 : Int32)), (.int (1 : Int32))]) (rest := []) (lenOf pd20 rfl) rfl (by show 2 * 0 + _ ≤ _; exact Nat.le_of_eq rfl) (hb hby d17_27) (fun _ _ => ⟨rfl, e107, (by decide : 0 + 0 ≤ _), (by decide : 0 + 0 ≤ _)⟩)
 dsimp only [Pt.U, Pt.locs, Pt.cells, Pt.slots] at X109 l109 y109 z109 st109 hQ109
 subst l109 y109 z109
 obtain ⟨rfl, N109q, q109_hh⟩ := hQ109
 have N109 := Fr.app N105 N109q
 obtain ⟨fs, hr, hrun, hended, hW, hsame⟩ := X109.leave (v := some (.int (1 : Int32))) (fun h => by rw [Bd.returns] at h; cases h)
 refine ⟨_, _, (gc p108 st109) _ (retI X109 hx Bd.returns (hb hby d17_30) hr), hrun, hended, _, _, rfl, ?_, ⟨_, rfl⟩, hW, hsame.mono (by decide) (by decide)⟩
 show Q17_1_1 Z a1 bv k1 c0 c1 c2 c3 cs1 fm h0 n0 _ T109.heap _
 rw [q109_hh]
 exact ⟨rfl, N109, rfl⟩
theorem ef_rm16_1_1 (m : MethodId) (a1 : Addr) (a2 : Addr) (bv : Addr) (k1 : ClassId) (c0 : Int32) (c1 : Int32) (c2 : Int32) (c3 : Int32) (cs1 : Int32) (fm : Value) : entryFrame m #[(.ref a1), (.int (1 : Int32))] 2 = mkF m 0 #[.val (.ref a1), .val (.int (1 : Int32))] [] := by first | (simp [entryFrame, mkF, argsToLocals, Value.category]; done) | rfl
def Q16_1_1 (Z : State) (a1 : Addr) (a2 : Addr) (bv : Addr) (k1 : ClassId) (c0 : Int32) (c1 : Int32) (c2 : Int32) (c3 : Int32) (cs1 : Int32) (fm : Value) (h0 : Heap) (n0 : Nat) (v : Option Value) (h : Heap) (L : List Loc) : Prop := v = some (.int (2 : Int32)) ∧ Fr n0 L ∧ (h = h0)
set_option maxRecDepth 65536 in
set_option maxHeartbeats 40000000 in
theorem rm16_1_1 (l : Launch) (Z : State) (a0 : Array Value) (hw : ∀ d ∈ tables_1, d.before a0 Z = true) (ws : List Jvm.Cond) (a1 : Addr) (a2 : Addr) (bv : Addr) (k1 : ClassId) (c0 : Int32) (c1 : Int32) (c2 : Int32) (c3 : Int32) (cs1 : Int32) (fm : Value) (h0 : Heap) (n0 : Nat) (Z0 : n0 ≤ h0.size) (O1 : Old Z n0 h0) (G : own_G Z cs1 fm) (a0_ : ¬ (c0 < (0 : Int32))) (b0_ : ¬ ((65535 : Int32) < c0)) (a1_ : ¬ (c1 < (0 : Int32))) (b1_ : ¬ ((65535 : Int32) < c1)) (a2_ : ¬ (c2 < (0 : Int32))) (b2_ : ¬ ((65535 : Int32) < c2)) (a3_ : ¬ (c3 < (0 : Int32))) (b3_ : ¬ ((65535 : Int32) < c3)) (T1 : Fld Z h0 a1 "com/example/subsume/subsume/model/Lines" "text" "Ljava/lang/String;" (.ref a2)) (E1 : Exa Z h0 a2 "java/lang/String") (F1 : Fld Z h0 a2 "java/lang/String" "coder" "B" (.int (1 : Int32))) (F2 : Fld Z h0 a2 "java/lang/String" "value" "[B" (.ref bv)) (V1 : Arv Z h0 bv k1 .byte (8 : Int32) [(.int (own_x0 c0)), (.int (own_x8 c0)), (.int (own_x0 c1)), (.int (own_x8 c1)), (.int (own_x0 c2)), (.int (own_x8 c2)), (.int (own_x0 c3)), (.int (own_x8 c3))] (.int (0 : Int32))) :
  MetFree l (⟨"com/example/subsume/subsume/model/Lines", "character", "(I)I"⟩ : MethodName) (head1 (Jvm.Cond.code (⟨"com/example/subsume/subsume/model/Lines", "character", "(I)I"⟩ : MethodName) prog_16_method_2_code 2 (some .int) :: ws) ({ frames := 3, cells := 0, slots := 0, locals := 45 } : Room)) (fun a U => a = #[(.ref a1), (.int (1 : Int32))] ∧ Z.Warmed39 U.vm ∧ U.heap = h0) (fun _ _ _ _ _ => True) (fun _ U o U' => ∃ v L, o = .returned v ∧ Q16_1_1 Z a1 a2 bv k1 c0 c1 c2 c3 cs1 fm h0 n0 v U'.heap L ∧ FrameEnd U o U' L ({ frames := 3, cells := 0, slots := 0, locals := 45 } : Room).cells ({ frames := 3, cells := 0, slots := 0, locals := 45 } : Room).slots) := by
 refine MetFree.of_bodySF pn16 hisR ?_
 intro p e s m args below meth c s₁ Bd hml0 hP hK
 obtain ⟨rfl, hZ, hh⟩ := hP
 have hx := Bd.exec
 have hby := Bd.bytes
 have hml : c.maxLocals = 2 := hml0
 have hown : s.vm.findClass "com/example/subsume/subsume/model/Lines" = some m.cls := findClass_of_methodNamed Bd.named
 have hnm := (name_of_methodNamed Bd.named Bd.method).1
 have X0 : Stand p l e ({ frames := 3, cells := 0, slots := 0, locals := 45 } : Room) s m #[(.ref a1), (.int (1 : Int32))] below meth c s₁ [] 0 0 := Stand.of_body Bd
 have e0 : s₁.heap = h0 := by rw [← hh, Bd.state]; rfl
 have N0 := Fr.nil n0
 have p0 : Go p.tables e below (s₁.setTop (entryFrame m #[(.ref a1), (.int (1 : Int32))] 2)) (s₁.setTop (mkF m 0 #[.val (.ref a1), .val (.int (1 : Int32))] [])) := fun t_ k_ => castTop (ef_rm16_1_1 m a1 a2 bv k1 c0 c1 c2 c3 cs1 fm) k_
 have p101 : Go p.tables e below _ (s₁.setTop (mkF m 1 #[.val (.ref a1), .val (.int (1 : Int32))] [(.ref a1)])) := fun t_ k_ => p0 t_ (by
  refine XS.aloadN X0.here hx rfl (hb hby d16_0) rfl rfl ?_
  exact k_)
 obtain ⟨T102, X102, e102, st102⟩ := getF X0 hx hZ hown (host := "") (Or.inl (own_w hw 43 rfl)) Via.refl e0 T1 (g := (mkF m 1 #[.val (.ref a1), .val (.int (1 : Int32))] [(.ref a1)])) rfl rfl (hb hby d16_1)
 have p103 : Go p.tables e below _ (T102.setTop (mkF m 6 #[.val (.ref a1), .val (.int (1 : Int32))] [(.int (1 : Int32)), (.int (0 : Int32)), (.ref a2)])) := fun t_ k_ => (gc p101 st102) t_ (by
  refine XS.iconst X102.here hx rfl (hb hby d16_4) ?_
  refine XS.iloadN X102.here hx rfl (hb hby d16_5) rfl ?_
  exact k_)
 obtain ⟨cq104, kq104, q104a, q104b, q104c⟩ := isOf hZ e102 E1
 obtain ⟨_, _, ⟨T104, L104, k104, n104⟩, -, X104, ⟨Lc104, hQ104, l104, y104, z104⟩, st104⟩ := X102.virtualBack hx (y := (⟨"java/lang/String", "codePointCount", "(II)I"⟩ : MethodName)) (z := (⟨"java/lang/String", "codePointCount", "(II)I"⟩ : MethodName)) hown (mvT hZ (own_w hw 85 rfl)) (mvT hZ (own_w hw 86 rfl)) (notFace_of_selects (args := #[]) (mvT hZ (own_w hw 88 rfl))) (mvT hZ (own_w hw 88 rfl)) (mvT hZ (own_w hw 87 rfl)) (by decide) (backOf (W := 0) (rm17_1_1 l Z a0 hw [] a2 bv k1 c0 c1 c2 c3 cs1 fm h0 n0 (Nat.le_trans Z0 (Keep.refl h0 []).1) O1 G a0_ b0_ a1_ b1_ a2_ b2_ a3_ b3_ E1 F1 F2 V1) hZ (own_w hw 89 rfl) (own_w hw 8 rfl) (by decide) (by decide)) q104a q104c (g := (mkF m 6 #[.val (.ref a1), .val (.int (1 : Int32))] [(.int (1 : Int32)), (.int (0 : Int32)), (.ref a2)])) rfl (by rw [hml]; rfl) (Steps.refl _) (argsL := [(.int (0 : Int32)), (.int (1 : Int32))]) (rest := []) (lenOf pd19 rfl) rfl (by show 2 * 0 + _ ≤ _; exact Nat.le_of_eq rfl) (hb hby d16_6) (fun _ _ => ⟨rfl, e102, (by decide : 0 + 0 ≤ _), (by decide : 0 + 0 ≤ _)⟩)
 dsimp only [Pt.U, Pt.locs, Pt.cells, Pt.slots] at X104 l104 y104 z104 st104 hQ104
 subst l104 y104 z104
 obtain ⟨rfl, N104q, q104_hh⟩ := hQ104
 have N104 := Fr.app N0 N104q
 have p105 : Go p.tables e below _ (T104.setTop (mkF m 11 #[.val (.ref a1), .val (.int (1 : Int32))] [(.int (2 : Int32))])) := fun t_ k_ => (gcT p103 st104) t_ (by
  refine XS.iconst X104.here hx rfl (hb hby d16_9) ?_
  refine XS.iadd X104.here hx rfl (hb hby d16_10) rfl ?_
  exact k_)
 obtain ⟨fs, hr, hrun, hended, hW, hsame⟩ := X104.leave (v := some (.int (2 : Int32))) (fun h => by rw [Bd.returns] at h; cases h)
 refine ⟨_, _, p105 _ (retI X104 hx Bd.returns (hb hby d16_11) hr), hrun, hended, _, _, rfl, ?_, ⟨_, rfl⟩, hW, hsame.mono (by decide) (by decide)⟩
 show Q16_1_1 Z a1 a2 bv k1 c0 c1 c2 c3 cs1 fm h0 n0 _ T104.heap _
 rw [q104_hh]
 exact ⟨rfl, N104, rfl⟩
theorem ef_rm19_2 (m : MethodId)  : entryFrame m #[(.int (0 : Int32)), (.int (2 : Int32)), (.int (4 : Int32)), .null] 4 = mkF m 0 #[.val (.int (0 : Int32)), .val (.int (2 : Int32)), .val (.int (4 : Int32)), .val .null] [] := by first | (simp [entryFrame, mkF, argsToLocals, Value.category]; done) | rfl
def Q19_2 (Z : State)  (h0 : Heap) (n0 : Nat) (v : Option Value) (h : Heap) (L : List Loc) : Prop := v = some (.int (0 : Int32)) ∧ Fr n0 L ∧ (h = h0)
set_option maxRecDepth 65536 in
set_option maxHeartbeats 40000000 in
theorem rm19_2 (l : Launch) (Z : State) (a0 : Array Value) (hw : ∀ d ∈ tables_1, d.before a0 Z = true) (ws : List Jvm.Cond)  (h0 : Heap) (n0 : Nat) (Z0 : n0 ≤ h0.size) :
  MetFree l (⟨"jdk/internal/util/Preconditions", "checkFromToIndex", "(IIILjava/util/function/BiFunction;)I"⟩ : MethodName) (head1 (Jvm.Cond.code (⟨"jdk/internal/util/Preconditions", "checkFromToIndex", "(IIILjava/util/function/BiFunction;)I"⟩ : MethodName) jdk_41_method_12_code 4 (some .int) :: ws) ({ frames := 0, cells := 0, slots := 0, locals := 0 } : Room)) (fun a U => a = #[(.int (0 : Int32)), (.int (2 : Int32)), (.int (4 : Int32)), .null] ∧ Z.Warmed39 U.vm ∧ U.heap = h0) (fun _ _ _ _ _ => True) (fun _ U o U' => ∃ v L, o = .returned v ∧ Q19_2 Z  h0 n0 v U'.heap L ∧ FrameEnd U o U' L ({ frames := 0, cells := 0, slots := 0, locals := 0 } : Room).cells ({ frames := 0, cells := 0, slots := 0, locals := 0 } : Room).slots) := by
 refine MetFree.of_bodySF pn19 hisR ?_
 intro p e s m args below meth c s₁ Bd hml0 hP hK
 obtain ⟨rfl, hZ, hh⟩ := hP
 have hx := Bd.exec
 have hby := Bd.bytes
 have hml : c.maxLocals = 4 := hml0
 have hown : s.vm.findClass "jdk/internal/util/Preconditions" = some m.cls := findClass_of_methodNamed Bd.named
 have hnm := (name_of_methodNamed Bd.named Bd.method).1
 have X0 : Stand p l e ({ frames := 0, cells := 0, slots := 0, locals := 0 } : Room) s m #[(.int (0 : Int32)), (.int (2 : Int32)), (.int (4 : Int32)), .null] below meth c s₁ [] 0 0 := Stand.of_body Bd
 have e0 : s₁.heap = h0 := by rw [← hh, Bd.state]; rfl
 have N0 := Fr.nil n0
 have p0 : Go p.tables e below (s₁.setTop (entryFrame m #[(.int (0 : Int32)), (.int (2 : Int32)), (.int (4 : Int32)), .null] 4)) (s₁.setTop (mkF m 0 #[.val (.int (0 : Int32)), .val (.int (2 : Int32)), .val (.int (4 : Int32)), .val .null] [])) := fun t_ k_ => castTop (ef_rm19_2 m ) k_
 have p101 : Go p.tables e below _ (s₁.setTop (mkF m 23 #[.val (.int (0 : Int32)), .val (.int (2 : Int32)), .val (.int (4 : Int32)), .val .null] [(.int (0 : Int32))])) := fun t_ k_ => p0 t_ (by
  refine XS.iloadN X0.here hx rfl (hb hby d19_0) rfl ?_
  refine XS.ifNo X0.here hx rfl (hb hby d19_1) rfl ((if0 _ _).trans (flt (by decide : ¬ ((0 : Int32) < (0 : Int32)))).1) ?_
  refine XS.iloadN X0.here hx rfl (hb hby d19_4) rfl ?_
  refine XS.iloadN X0.here hx rfl (hb hby d19_5) rfl ?_
  refine XS.icmpNo X0.here hx rfl (hb hby d19_6) rfl (flt (by decide : ¬ ((2 : Int32) < (0 : Int32)))).2.2.1 ?_
  refine XS.iloadN X0.here hx rfl (hb hby d19_9) rfl ?_
  refine XS.iloadN X0.here hx rfl (hb hby d19_10) rfl ?_
  refine XS.icmpYes X0.here hx rfl (pc0 := 11) (pc' := 22) rfl (hb hby d19_11) rfl (flt (by decide : ¬ ((4 : Int32) < (2 : Int32)))).2.2.2 (by decide) (by decide) ?_
  refine XS.iloadN X0.here hx rfl (hb hby d19_22) rfl ?_
  exact k_)
 obtain ⟨fs, hr, hrun, hended, hW, hsame⟩ := X0.leave (v := some (.int (0 : Int32))) (fun h => by rw [Bd.returns] at h; cases h)
 refine ⟨_, _, p101 _ (retI X0 hx Bd.returns (hb hby d19_23) hr), hrun, hended, _, _, rfl, ?_, ⟨_, rfl⟩, hW, hsame.mono (by decide) (by decide)⟩
 show Q19_2 Z  h0 n0 _ s₁.heap _
 rw [e0]
 exact ⟨rfl, N0, rfl⟩
theorem ef_rm18_2 (m : MethodId)  : entryFrame m #[(.int (0 : Int32)), (.int (2 : Int32)), (.int (4 : Int32))] 3 = mkF m 0 #[.val (.int (0 : Int32)), .val (.int (2 : Int32)), .val (.int (4 : Int32))] [] := by first | (simp [entryFrame, mkF, argsToLocals, Value.category]; done) | rfl
def Q18_2 (Z : State)  (h0 : Heap) (n0 : Nat) (v : Option Value) (h : Heap) (L : List Loc) : Prop := v = some (.int (0 : Int32)) ∧ Fr n0 L ∧ (h = h0)
set_option maxRecDepth 65536 in
set_option maxHeartbeats 40000000 in
theorem rm18_2 (l : Launch) (Z : State) (a0 : Array Value) (hw : ∀ d ∈ tables_1, d.before a0 Z = true) (ws : List Jvm.Cond)  (h0 : Heap) (n0 : Nat) (Z0 : n0 ≤ h0.size) :
  MetFree l (⟨"java/util/Objects", "checkFromToIndex", "(III)I"⟩ : MethodName) (head1 (Jvm.Cond.code (⟨"java/util/Objects", "checkFromToIndex", "(III)I"⟩ : MethodName) jdk_31_method_18_code 3 (some .int) :: ws) ({ frames := 1, cells := 0, slots := 0, locals := 15 } : Room)) (fun a U => a = #[(.int (0 : Int32)), (.int (2 : Int32)), (.int (4 : Int32))] ∧ Z.Warmed39 U.vm ∧ U.heap = h0) (fun _ _ _ _ _ => True) (fun _ U o U' => ∃ v L, o = .returned v ∧ Q18_2 Z  h0 n0 v U'.heap L ∧ FrameEnd U o U' L ({ frames := 1, cells := 0, slots := 0, locals := 15 } : Room).cells ({ frames := 1, cells := 0, slots := 0, locals := 15 } : Room).slots) := by
 refine MetFree.of_bodySF pn18 hisR ?_
 intro p e s m args below meth c s₁ Bd hml0 hP hK
 obtain ⟨rfl, hZ, hh⟩ := hP
 have hx := Bd.exec
 have hby := Bd.bytes
 have hml : c.maxLocals = 3 := hml0
 have hown : s.vm.findClass "java/util/Objects" = some m.cls := findClass_of_methodNamed Bd.named
 have hnm := (name_of_methodNamed Bd.named Bd.method).1
 have X0 : Stand p l e ({ frames := 1, cells := 0, slots := 0, locals := 15 } : Room) s m #[(.int (0 : Int32)), (.int (2 : Int32)), (.int (4 : Int32))] below meth c s₁ [] 0 0 := Stand.of_body Bd
 have e0 : s₁.heap = h0 := by rw [← hh, Bd.state]; rfl
 have N0 := Fr.nil n0
 have p0 : Go p.tables e below (s₁.setTop (entryFrame m #[(.int (0 : Int32)), (.int (2 : Int32)), (.int (4 : Int32))] 3)) (s₁.setTop (mkF m 0 #[.val (.int (0 : Int32)), .val (.int (2 : Int32)), .val (.int (4 : Int32))] [])) := fun t_ k_ => castTop (ef_rm18_2 m ) k_
 have p101 : Go p.tables e below _ (s₁.setTop (mkF m 4 #[.val (.int (0 : Int32)), .val (.int (2 : Int32)), .val (.int (4 : Int32))] [.null, (.int (4 : Int32)), (.int (2 : Int32)), (.int (0 : Int32))])) := fun t_ k_ => p0 t_ (by
  refine XS.iloadN X0.here hx rfl (hb hby d18_0) rfl ?_
  refine XS.iloadN X0.here hx rfl (hb hby d18_1) rfl ?_
  refine XS.iloadN X0.here hx rfl (hb hby d18_2) rfl ?_
  refine XS.aconstNull X0.here hx rfl (hb hby d18_3) ?_
  exact k_)
 obtain ⟨_, _, ⟨T102, L102, k102, n102⟩, -, X102, ⟨Lc102, hQ102, l102, y102, z102⟩, st102⟩ := Jvm.LawKit.callS X0 hx (y := (⟨"jdk/internal/util/Preconditions", "checkFromToIndex", "(IIILjava/util/function/BiFunction;)I"⟩ : MethodName)) hown (mvT hZ (own_w hw 95 rfl)) (mvT hZ (own_w hw 96 rfl)) (mvT hZ (own_w hw 73 rfl)) (mvT hZ (own_w hw 97 rfl)) (by decide) (backOf (W := 0) (rm19_2 l Z a0 hw []  h0 n0 (Nat.le_trans Z0 (Keep.refl h0 []).1) ) hZ (own_w hw 97 rfl) (own_w hw 73 rfl) (by decide) (by decide)) (g := (mkF m 4 #[.val (.int (0 : Int32)), .val (.int (2 : Int32)), .val (.int (4 : Int32))] [.null, (.int (4 : Int32)), (.int (2 : Int32)), (.int (0 : Int32))])) rfl (by rw [hml]; rfl) (argsL := [(.int (0 : Int32)), (.int (2 : Int32)), (.int (4 : Int32)), .null]) (rest := []) (lenOf pd16 rfl) rfl (by show 2 * 0 + _ ≤ _; exact Nat.le_of_eq rfl) (hb hby d18_4) (fun _ _ => ⟨rfl, e0, (by decide : 0 + 0 ≤ _), (by decide : 0 + 0 ≤ _)⟩)
 dsimp only [Pt.U, Pt.locs, Pt.cells, Pt.slots] at X102 l102 y102 z102 st102 hQ102
 subst l102 y102 z102
 obtain ⟨rfl, N102q, q102_hh⟩ := hQ102
 have N102 := Fr.app N0 N102q
 obtain ⟨fs, hr, hrun, hended, hW, hsame⟩ := X102.leave (v := some (.int (0 : Int32))) (fun h => by rw [Bd.returns] at h; cases h)
 refine ⟨_, _, (gc p101 st102) _ (retI X102 hx Bd.returns (hb hby d18_7) hr), hrun, hended, _, _, rfl, ?_, ⟨_, rfl⟩, hW, hsame.mono (by decide) (by decide)⟩
 show Q18_2 Z  h0 n0 _ T102.heap _
 rw [q102_hh]
 exact ⟨rfl, N102, rfl⟩
set_option maxRecDepth 65536 in
set_option maxHeartbeats 40000000 in
theorem cp2_2 {p : Program} {l : Launch} {e : Env} {s : State} {m : MethodId} {args : Array Value} {below : List Frame} {meth : Method} {c : Code} (Z : State) (a0 : Array Value) (hx : p.tables.exec = Jvm.exec) (hZ : Z.Warmed39 s.vm) (hw : ∀ d ∈ tables_1, d.before a0 Z = true) (hby : c.code = jdk_52_method_11_code) (hml : c.maxLocals = 6) (hown : s.vm.findClass "java/lang/StringUTF16" = some m.cls) (a1 : Addr) (k1 : ClassId) (c0 c1 c2 c3 : Int32) (cs1 : Int32) (fm : Value) (h0 : Heap) (n0 : Nat) (Z0 : n0 ≤ h0.size) (O1 : Old Z n0 h0) (G : own_G Z cs1 fm) (V1 : Arv Z h0 a1 k1 .byte (8 : Int32) [(.int (own_x0 c0)), (.int (own_x8 c0)), (.int (own_x0 c1)), (.int (own_x8 c1)), (.int (own_x0 c2)), (.int (own_x8 c2)), (.int (own_x0 c3)), (.int (own_x8 c3))] (.int (0 : Int32))) (a0_ : ¬ (c0 < (0 : Int32))) (b0_ : ¬ ((65535 : Int32) < c0)) (a1_ : ¬ (c1 < (0 : Int32))) (b1_ : ¬ ((65535 : Int32) < c1)) (a2_ : ¬ (c2 < (0 : Int32))) (b2_ : ¬ ((65535 : Int32) < c2)) (a3_ : ¬ (c3 < (0 : Int32))) (b3_ : ¬ ((65535 : Int32) < c3)) (nn : Int32) (T : State) (locs : List Loc) (X0 : Stand p l e ({ frames := 4, cells := 0, slots := 0, locals := 60 } : Room) s m args below meth c T locs 0 0) (e0 : T.heap = h0) (N0 : Fr n0 locs) : ∃ (T' : State) (L' : List Loc) (j : Int32), Stand p l e ({ frames := 4, cells := 0, slots := 0, locals := 60 } : Room) s m args below meth c T' L' 0 0 ∧ T'.heap = h0 ∧ Fr n0 L' ∧ Go p.tables e below (T.setTop (mkF m 44 #[.val (.ref a1), .val (.int (0 : Int32)), .val (.int (2 : Int32)), .val (.int (0 : Int32)), .val (.int nn), .val (.int (2 : Int32))] [])) (T'.setTop (mkF m 88 #[.val (.ref a1), .val (.int (0 : Int32)), .val (.int (2 : Int32)), .val (.int (0 : Int32)), .val (.int (nn)), .val (.int j)] [])) := by
 have p0 : Go p.tables e below (T.setTop (mkF m 44 #[.val (.ref a1), .val (.int (0 : Int32)), .val (.int (2 : Int32)), .val (.int (0 : Int32)), .val (.int nn), .val (.int (2 : Int32))] [])) (T.setTop (mkF m 44 #[.val (.ref a1), .val (.int (0 : Int32)), .val (.int (2 : Int32)), .val (.int (0 : Int32)), .val (.int nn), .val (.int (2 : Int32))] [])) := fun t_ k_ => k_
 have p101 : Go p.tables e below _ (T.setTop (mkF m 88 #[.val (.ref a1), .val (.int (0 : Int32)), .val (.int (2 : Int32)), .val (.int (0 : Int32)), .val (.int nn), .val (.int (2 : Int32))] [])) := fun t_ k_ => p0 t_ (by
  refine XS.iload X0.here hx rfl (hb hby d30_44) rfl ?_
  refine XS.iloadN X0.here hx rfl (hb hby d30_46) rfl ?_
  refine XS.iconst X0.here hx rfl (hb hby d30_47) ?_
  refine XS.isub X0.here hx rfl (hb hby d30_48) rfl ?_
  refine XS.icmpYes X0.here hx rfl (pc0 := 49) (pc' := 88) rfl (hb hby d30_49) rfl (flt (by decide : ¬ ((2 : Int32) < (1 : Int32)))).2.1 (by decide) (by decide) ?_
  exact k_)
 exact ⟨_, _, _, X0, e0, N0, p101⟩
set_option maxRecDepth 65536 in
set_option maxHeartbeats 40000000 in
theorem cp2_1 {p : Program} {l : Launch} {e : Env} {s : State} {m : MethodId} {args : Array Value} {below : List Frame} {meth : Method} {c : Code} (Z : State) (a0 : Array Value) (hx : p.tables.exec = Jvm.exec) (hZ : Z.Warmed39 s.vm) (hw : ∀ d ∈ tables_1, d.before a0 Z = true) (hby : c.code = jdk_52_method_11_code) (hml : c.maxLocals = 6) (hown : s.vm.findClass "java/lang/StringUTF16" = some m.cls) (a1 : Addr) (k1 : ClassId) (c0 c1 c2 c3 : Int32) (cs1 : Int32) (fm : Value) (h0 : Heap) (n0 : Nat) (Z0 : n0 ≤ h0.size) (O1 : Old Z n0 h0) (G : own_G Z cs1 fm) (V1 : Arv Z h0 a1 k1 .byte (8 : Int32) [(.int (own_x0 c0)), (.int (own_x8 c0)), (.int (own_x0 c1)), (.int (own_x8 c1)), (.int (own_x0 c2)), (.int (own_x8 c2)), (.int (own_x0 c3)), (.int (own_x8 c3))] (.int (0 : Int32))) (a0_ : ¬ (c0 < (0 : Int32))) (b0_ : ¬ ((65535 : Int32) < c0)) (a1_ : ¬ (c1 < (0 : Int32))) (b1_ : ¬ ((65535 : Int32) < c1)) (a2_ : ¬ (c2 < (0 : Int32))) (b2_ : ¬ ((65535 : Int32) < c2)) (a3_ : ¬ (c3 < (0 : Int32))) (b3_ : ¬ ((65535 : Int32) < c3)) (nn : Int32) (T : State) (locs : List Loc) (X0 : Stand p l e ({ frames := 4, cells := 0, slots := 0, locals := 60 } : Room) s m args below meth c T locs 0 0) (e0 : T.heap = h0) (N0 : Fr n0 locs) : ∃ (T' : State) (L' : List Loc) (j : Int32), Stand p l e ({ frames := 4, cells := 0, slots := 0, locals := 60 } : Room) s m args below meth c T' L' 0 0 ∧ T'.heap = h0 ∧ Fr n0 L' ∧ Go p.tables e below (T.setTop (mkF m 44 #[.val (.ref a1), .val (.int (0 : Int32)), .val (.int (2 : Int32)), .val (.int (0 : Int32)), .val (.int nn), .val (.int (1 : Int32))] [])) (T'.setTop (mkF m 88 #[.val (.ref a1), .val (.int (0 : Int32)), .val (.int (2 : Int32)), .val (.int (0 : Int32)), .val (.int (nn)), .val (.int j)] [])) := by
 have p0 : Go p.tables e below (T.setTop (mkF m 44 #[.val (.ref a1), .val (.int (0 : Int32)), .val (.int (2 : Int32)), .val (.int (0 : Int32)), .val (.int nn), .val (.int (1 : Int32))] [])) (T.setTop (mkF m 44 #[.val (.ref a1), .val (.int (0 : Int32)), .val (.int (2 : Int32)), .val (.int (0 : Int32)), .val (.int nn), .val (.int (1 : Int32))] [])) := fun t_ k_ => k_
 have p101 : Go p.tables e below _ (T.setTop (mkF m 88 #[.val (.ref a1), .val (.int (0 : Int32)), .val (.int (2 : Int32)), .val (.int (0 : Int32)), .val (.int nn), .val (.int (1 : Int32))] [])) := fun t_ k_ => p0 t_ (by
  refine XS.iload X0.here hx rfl (hb hby d30_44) rfl ?_
  refine XS.iloadN X0.here hx rfl (hb hby d30_46) rfl ?_
  refine XS.iconst X0.here hx rfl (hb hby d30_47) ?_
  refine XS.isub X0.here hx rfl (hb hby d30_48) rfl ?_
  refine XS.icmpYes X0.here hx rfl (pc0 := 49) (pc' := 88) rfl (hb hby d30_49) rfl (flt (by decide : ¬ ((1 : Int32) < (1 : Int32)))).2.1 (by decide) (by decide) ?_
  exact k_)
 exact ⟨_, _, _, X0, e0, N0, p101⟩
theorem d30_52 : decode jdk_52_method_11_code 52 = .ok (.aload_n 0, 1) := by decide +kernel
theorem d30_53 : decode jdk_52_method_11_code 53 = .ok (.iload 5, 2) := by decide +kernel
theorem d30_55 : decode jdk_52_method_11_code 55 = .ok (.iinc 5 1, 3) := by decide +kernel
theorem d30_58 : decode jdk_52_method_11_code 58 = .ok (.invokestatic 71, 3) := by decide +kernel
theorem d30_61 : decode jdk_52_method_11_code 61 = .ok (.invokestatic 75, 3) := by decide +kernel
theorem d30_64 : decode jdk_52_method_11_code 64 = .ok (.ifCond .eq (-20), 3) := by decide +kernel
theorem d30_67 : decode jdk_52_method_11_code 67 = .ok (.aload_n 0, 1) := by decide +kernel
theorem d30_68 : decode jdk_52_method_11_code 68 = .ok (.iload 5, 2) := by decide +kernel
theorem d30_70 : decode jdk_52_method_11_code 70 = .ok (.invokestatic 71, 3) := by decide +kernel
theorem d30_73 : decode jdk_52_method_11_code 73 = .ok (.invokestatic 81, 3) := by decide +kernel
theorem d30_76 : decode jdk_52_method_11_code 76 = .ok (.ifCond .eq (-32), 3) := by decide +kernel
theorem d30_79 : decode jdk_52_method_11_code 79 = .ok (.iinc 4 (-1), 3) := by decide +kernel
theorem d30_82 : decode jdk_52_method_11_code 82 = .ok (.iinc 5 1, 3) := by decide +kernel
theorem d30_85 : decode jdk_52_method_11_code 85 = .ok (.goto (-41), 3) := by decide +kernel
theorem pd21 : parseMethodDescriptor "(C)Z" = some ⟨[.char], some .boolean⟩ := by decide +kernel
set_option maxRecDepth 65536 in
set_option maxHeartbeats 40000000 in
theorem cp2_0 {p : Program} {l : Launch} {e : Env} {s : State} {m : MethodId} {args : Array Value} {below : List Frame} {meth : Method} {c : Code} (Z : State) (a0 : Array Value) (hx : p.tables.exec = Jvm.exec) (hZ : Z.Warmed39 s.vm) (hw : ∀ d ∈ tables_1, d.before a0 Z = true) (hby : c.code = jdk_52_method_11_code) (hml : c.maxLocals = 6) (hown : s.vm.findClass "java/lang/StringUTF16" = some m.cls) (a1 : Addr) (k1 : ClassId) (c0 c1 c2 c3 : Int32) (cs1 : Int32) (fm : Value) (h0 : Heap) (n0 : Nat) (Z0 : n0 ≤ h0.size) (O1 : Old Z n0 h0) (G : own_G Z cs1 fm) (V1 : Arv Z h0 a1 k1 .byte (8 : Int32) [(.int (own_x0 c0)), (.int (own_x8 c0)), (.int (own_x0 c1)), (.int (own_x8 c1)), (.int (own_x0 c2)), (.int (own_x8 c2)), (.int (own_x0 c3)), (.int (own_x8 c3))] (.int (0 : Int32))) (a0_ : ¬ (c0 < (0 : Int32))) (b0_ : ¬ ((65535 : Int32) < c0)) (a1_ : ¬ (c1 < (0 : Int32))) (b1_ : ¬ ((65535 : Int32) < c1)) (a2_ : ¬ (c2 < (0 : Int32))) (b2_ : ¬ ((65535 : Int32) < c2)) (a3_ : ¬ (c3 < (0 : Int32))) (b3_ : ¬ ((65535 : Int32) < c3)) (nn : Int32) (T : State) (locs : List Loc) (X0 : Stand p l e ({ frames := 4, cells := 0, slots := 0, locals := 60 } : Room) s m args below meth c T locs 0 0) (e0 : T.heap = h0) (N0 : Fr n0 locs) : ∃ (T' : State) (L' : List Loc) (j : Int32), Stand p l e ({ frames := 4, cells := 0, slots := 0, locals := 60 } : Room) s m args below meth c T' L' 0 0 ∧ T'.heap = h0 ∧ Fr n0 L' ∧ Go p.tables e below (T.setTop (mkF m 44 #[.val (.ref a1), .val (.int (0 : Int32)), .val (.int (2 : Int32)), .val (.int (0 : Int32)), .val (.int nn), .val (.int (0 : Int32))] [])) (T'.setTop (mkF m 88 #[.val (.ref a1), .val (.int (0 : Int32)), .val (.int (2 : Int32)), .val (.int (0 : Int32)), .val (.int (nn - own_pr c0 c1)), .val (.int j)] [])) := by
 have p0 : Go p.tables e below (T.setTop (mkF m 44 #[.val (.ref a1), .val (.int (0 : Int32)), .val (.int (2 : Int32)), .val (.int (0 : Int32)), .val (.int nn), .val (.int (0 : Int32))] [])) (T.setTop (mkF m 44 #[.val (.ref a1), .val (.int (0 : Int32)), .val (.int (2 : Int32)), .val (.int (0 : Int32)), .val (.int nn), .val (.int (0 : Int32))] [])) := fun t_ k_ => k_
 have p101 : Go p.tables e below _ (T.setTop (mkF m 58 #[.val (.ref a1), .val (.int (0 : Int32)), .val (.int (2 : Int32)), .val (.int (0 : Int32)), .val (.int nn), .val (.int (1 : Int32))] [(.int (0 : Int32)), (.ref a1)])) := fun t_ k_ => p0 t_ (by
  refine XS.iload X0.here hx rfl (hb hby d30_44) rfl ?_
  refine XS.iloadN X0.here hx rfl (hb hby d30_46) rfl ?_
  refine XS.iconst X0.here hx rfl (hb hby d30_47) ?_
  refine XS.isub X0.here hx rfl (hb hby d30_48) rfl ?_
  refine XS.icmpNo X0.here hx rfl (hb hby d30_49) rfl (tlt (by decide : ((0 : Int32) < (1 : Int32)))).2.1 ?_
  refine XS.aloadN X0.here hx rfl (hb hby d30_52) rfl rfl ?_
  refine XS.iload X0.here hx rfl (hb hby d30_53) rfl ?_
  refine XS.iinc X0.here hx rfl (hb hby d30_55) rfl (l' := #[.val (.ref a1), .val (.int (0 : Int32)), .val (.int (2 : Int32)), .val (.int (0 : Int32)), .val (.int nn), .val (.int (1 : Int32))]) rfl ?_
  exact k_)
 obtain ⟨_, _, ⟨T102, L102, k102, n102⟩, -, X102, ⟨Lc102, hQ102, l102, y102, z102⟩, st102⟩ := Jvm.LawKit.callS X0 hx (y := (⟨"java/lang/StringUTF16", "getChar", "([BI)C"⟩ : MethodName)) hown (mvT hZ (own_w hw 119 rfl)) (mvT hZ (own_w hw 120 rfl)) (mvT hZ (own_w hw 22 rfl)) (mvT hZ (own_w hw 121 rfl)) (by decide) (backOf (W := 0) (rm25 l Z a0 hw [] a1 (0 : Int32) k1 (8 : Int32) [(.int (own_x0 c0)), (.int (own_x8 c0)), (.int (own_x0 c1)), (.int (own_x8 c1)), (.int (own_x0 c2)), (.int (own_x8 c2)), (.int (own_x0 c3)), (.int (own_x8 c3))] (own_x0 c0) (own_x8 c0) c0 cs1 fm h0 n0 (Nat.le_trans Z0 (Keep.refl h0 []).1) O1 G V1 (by decide) (by decide) rfl rfl (own_l16 c0 a0_ b0_)) hZ (own_w hw 121 rfl) (own_w hw 22 rfl) (by decide) (by decide)) (g := (mkF m 58 #[.val (.ref a1), .val (.int (0 : Int32)), .val (.int (2 : Int32)), .val (.int (0 : Int32)), .val (.int nn), .val (.int (1 : Int32))] [(.int (0 : Int32)), (.ref a1)])) rfl (by rw [hml]; rfl) (argsL := [(.ref a1), (.int (0 : Int32))]) (rest := []) (lenOf pd4 rfl) rfl (by show 2 * 0 + _ ≤ _; exact Nat.le_of_eq rfl) (hb hby d30_58) (fun _ _ => ⟨rfl, e0, (by decide : 0 + 0 ≤ _), (by decide : 0 + 0 ≤ _)⟩)
 dsimp only [Pt.U, Pt.locs, Pt.cells, Pt.slots] at X102 l102 y102 z102 st102 hQ102
 subst l102 y102 z102
 obtain ⟨rfl, N102q, q102_hh⟩ := hQ102
 have N102 := Fr.app N0 N102q
 obtain ⟨_, _, ⟨T103, L103, k103, n103⟩, -, X103, ⟨Lc103, hQ103, l103, y103, z103⟩, st103⟩ := Jvm.LawKit.callS X102 hx (y := (⟨"java/lang/Character", "isHighSurrogate", "(C)Z"⟩ : MethodName)) hown (mvT hZ (own_w hw 138 rfl)) (mvT hZ (own_w hw 139 rfl)) (mvT hZ (own_w hw 140 rfl)) (mvT hZ (own_w hw 141 rfl)) (by decide) (backOf (W := 0) (rm31 l Z a0 hw [] c0 h0 n0 (Nat.le_trans Z0 (Keep.refl h0 []).1) ) hZ (own_w hw 141 rfl) (own_w hw 140 rfl) (by decide) (by decide)) (g := (mkF m 61 #[.val (.ref a1), .val (.int (0 : Int32)), .val (.int (2 : Int32)), .val (.int (0 : Int32)), .val (.int nn), .val (.int (1 : Int32))] [(.int c0)])) rfl (by rw [hml]; rfl) (argsL := [(.int c0)]) (rest := []) (lenOf pd21 rfl) rfl (by show 2 * 0 + _ ≤ _; exact Nat.le_of_eq rfl) (hb hby d30_61) (fun _ _ => ⟨rfl, q102_hh, (by decide : 0 + 0 ≤ _), (by decide : 0 + 0 ≤ _)⟩)
 dsimp only [Pt.U, Pt.locs, Pt.cells, Pt.slots] at X103 l103 y103 z103 st103 hQ103
 subst l103 y103 z103
 obtain ⟨rfl, N103q, q103_hh⟩ := hQ103
 have N103 := Fr.app N102 N103q
 by_cases c104 : (own_hi c0) = (0 : Int32)
 ·have p105 : Go p.tables e below _ (T103.setTop (mkF m 44 #[.val (.ref a1), .val (.int (0 : Int32)), .val (.int (2 : Int32)), .val (.int (0 : Int32)), .val (.int nn), .val (.int (1 : Int32))] [])) := fun t_ k_ => (gc (gc p101 st102) st103) t_ (by
   refine XS.ifYes X103.here hx rfl (pc0 := 64) (pc' := 44) rfl (hb hby d30_64) rfl ((if0 _ _).trans (teq c104).1) (by decide) (by decide) ?_
   exact k_)
  obtain ⟨T', L', j, X', e', N', g'⟩ := cp2_1 Z a0 hx hZ hw hby hml hown a1 k1 c0 c1 c2 c3 cs1 fm h0 n0 Z0 O1 G V1 a0_ b0_ a1_ b1_ a2_ b2_ a3_ b3_ nn T103 _ X103 q103_hh N103
  refine ⟨T', L', j, X', e', N', ?_⟩
  have eq : nn - own_pr c0 c1 = nn := by simp_all [own_pr, Int32.sub_eq_add_neg]
  rw [eq]; exact fun t_ k_ => p105 t_ (g' t_ k_)
 ·have p106 : Go p.tables e below _ (T103.setTop (mkF m 67 #[.val (.ref a1), .val (.int (0 : Int32)), .val (.int (2 : Int32)), .val (.int (0 : Int32)), .val (.int nn), .val (.int (1 : Int32))] [])) := fun t_ k_ => (gc (gc p101 st102) st103) t_ (by
   refine XS.ifNo X103.here hx rfl (hb hby d30_64) rfl ((if0 _ _).trans (feq c104).1) ?_
   exact k_)
  have p107 : Go p.tables e below _ (T103.setTop (mkF m 70 #[.val (.ref a1), .val (.int (0 : Int32)), .val (.int (2 : Int32)), .val (.int (0 : Int32)), .val (.int nn), .val (.int (1 : Int32))] [(.int (1 : Int32)), (.ref a1)])) := fun t_ k_ => p106 t_ (by
   refine XS.aloadN X103.here hx rfl (hb hby d30_67) rfl rfl ?_
   refine XS.iload X103.here hx rfl (hb hby d30_68) rfl ?_
   exact k_)
  obtain ⟨_, _, ⟨T108, L108, k108, n108⟩, -, X108, ⟨Lc108, hQ108, l108, y108, z108⟩, st108⟩ := Jvm.LawKit.callS X103 hx (y := (⟨"java/lang/StringUTF16", "getChar", "([BI)C"⟩ : MethodName)) hown (mvT hZ (own_w hw 119 rfl)) (mvT hZ (own_w hw 120 rfl)) (mvT hZ (own_w hw 22 rfl)) (mvT hZ (own_w hw 121 rfl)) (by decide) (backOf (W := 0) (rm25 l Z a0 hw [] a1 (1 : Int32) k1 (8 : Int32) [(.int (own_x0 c0)), (.int (own_x8 c0)), (.int (own_x0 c1)), (.int (own_x8 c1)), (.int (own_x0 c2)), (.int (own_x8 c2)), (.int (own_x0 c3)), (.int (own_x8 c3))] (own_x0 c1) (own_x8 c1) c1 cs1 fm h0 n0 (Nat.le_trans Z0 (Keep.refl h0 []).1) O1 G V1 (by decide) (by decide) rfl rfl (own_l16 c1 a1_ b1_)) hZ (own_w hw 121 rfl) (own_w hw 22 rfl) (by decide) (by decide)) (g := (mkF m 70 #[.val (.ref a1), .val (.int (0 : Int32)), .val (.int (2 : Int32)), .val (.int (0 : Int32)), .val (.int nn), .val (.int (1 : Int32))] [(.int (1 : Int32)), (.ref a1)])) rfl (by rw [hml]; rfl) (argsL := [(.ref a1), (.int (1 : Int32))]) (rest := []) (lenOf pd4 rfl) rfl (by show 2 * 0 + _ ≤ _; exact Nat.le_of_eq rfl) (hb hby d30_70) (fun _ _ => ⟨rfl, q103_hh, (by decide : 0 + 0 ≤ _), (by decide : 0 + 0 ≤ _)⟩)
  dsimp only [Pt.U, Pt.locs, Pt.cells, Pt.slots] at X108 l108 y108 z108 st108 hQ108
  subst l108 y108 z108
  obtain ⟨rfl, N108q, q108_hh⟩ := hQ108
  have N108 := Fr.app N103 N108q
  obtain ⟨_, _, ⟨T109, L109, k109, n109⟩, -, X109, ⟨Lc109, hQ109, l109, y109, z109⟩, st109⟩ := Jvm.LawKit.callS X108 hx (y := (⟨"java/lang/Character", "isLowSurrogate", "(C)Z"⟩ : MethodName)) hown (mvT hZ (own_w hw 144 rfl)) (mvT hZ (own_w hw 145 rfl)) (mvT hZ (own_w hw 140 rfl)) (mvT hZ (own_w hw 146 rfl)) (by decide) (backOf (W := 0) (rm32 l Z a0 hw [] c1 h0 n0 (Nat.le_trans Z0 (Keep.refl h0 []).1) ) hZ (own_w hw 146 rfl) (own_w hw 140 rfl) (by decide) (by decide)) (g := (mkF m 73 #[.val (.ref a1), .val (.int (0 : Int32)), .val (.int (2 : Int32)), .val (.int (0 : Int32)), .val (.int nn), .val (.int (1 : Int32))] [(.int c1)])) rfl (by rw [hml]; rfl) (argsL := [(.int c1)]) (rest := []) (lenOf pd21 rfl) rfl (by show 2 * 0 + _ ≤ _; exact Nat.le_of_eq rfl) (hb hby d30_73) (fun _ _ => ⟨rfl, q108_hh, (by decide : 0 + 0 ≤ _), (by decide : 0 + 0 ≤ _)⟩)
  dsimp only [Pt.U, Pt.locs, Pt.cells, Pt.slots] at X109 l109 y109 z109 st109 hQ109
  subst l109 y109 z109
  obtain ⟨rfl, N109q, q109_hh⟩ := hQ109
  have N109 := Fr.app N108 N109q
  by_cases c110 : (own_lo c1) = (0 : Int32)
  ·have p111 : Go p.tables e below _ (T109.setTop (mkF m 44 #[.val (.ref a1), .val (.int (0 : Int32)), .val (.int (2 : Int32)), .val (.int (0 : Int32)), .val (.int nn), .val (.int (1 : Int32))] [])) := fun t_ k_ => (gc (gc p107 st108) st109) t_ (by
    refine XS.ifYes X109.here hx rfl (pc0 := 76) (pc' := 44) rfl (hb hby d30_76) rfl ((if0 _ _).trans (teq c110).1) (by decide) (by decide) ?_
    exact k_)
   obtain ⟨T', L', j, X', e', N', g'⟩ := cp2_1 Z a0 hx hZ hw hby hml hown a1 k1 c0 c1 c2 c3 cs1 fm h0 n0 Z0 O1 G V1 a0_ b0_ a1_ b1_ a2_ b2_ a3_ b3_ nn T109 _ X109 q109_hh N109
   refine ⟨T', L', j, X', e', N', ?_⟩
   have eq : nn - own_pr c0 c1 = nn := by simp_all [own_pr, Int32.sub_eq_add_neg]
   rw [eq]; exact fun t_ k_ => p111 t_ (g' t_ k_)
  ·have p112 : Go p.tables e below _ (T109.setTop (mkF m 79 #[.val (.ref a1), .val (.int (0 : Int32)), .val (.int (2 : Int32)), .val (.int (0 : Int32)), .val (.int nn), .val (.int (1 : Int32))] [])) := fun t_ k_ => (gc (gc p107 st108) st109) t_ (by
    refine XS.ifNo X109.here hx rfl (hb hby d30_76) rfl ((if0 _ _).trans (feq c110).1) ?_
    exact k_)
   have p113 : Go p.tables e below _ (T109.setTop (mkF m 44 #[.val (.ref a1), .val (.int (0 : Int32)), .val (.int (2 : Int32)), .val (.int (0 : Int32)), .val (.int (nn + (-1 : Int32))), .val (.int (2 : Int32))] [])) := fun t_ k_ => p112 t_ (by
    refine XS.iinc X109.here hx rfl (hb hby d30_79) rfl (l' := #[.val (.ref a1), .val (.int (0 : Int32)), .val (.int (2 : Int32)), .val (.int (0 : Int32)), .val (.int (nn + (-1 : Int32))), .val (.int (1 : Int32))]) rfl ?_
    refine XS.iinc X109.here hx rfl (hb hby d30_82) rfl (l' := #[.val (.ref a1), .val (.int (0 : Int32)), .val (.int (2 : Int32)), .val (.int (0 : Int32)), .val (.int (nn + (-1 : Int32))), .val (.int (2 : Int32))]) rfl ?_
    refine XS.goto X109.here hx rfl (pc0 := 85) (pc' := 44) rfl (hb hby d30_85) (by decide) (by decide) ?_
    exact k_)
   obtain ⟨T', L', j, X', e', N', g'⟩ := cp2_2 Z a0 hx hZ hw hby hml hown a1 k1 c0 c1 c2 c3 cs1 fm h0 n0 Z0 O1 G V1 a0_ b0_ a1_ b1_ a2_ b2_ a3_ b3_ (nn + (-1 : Int32)) T109 _ X109 q109_hh N109
   refine ⟨T', L', j, X', e', N', ?_⟩
   have eq : nn - own_pr c0 c1 = (nn + (-1 : Int32)) := by rcases own_excl c1 with x1 | x1 <;> simp_all [own_pr, Int32.sub_eq_add_neg]
   rw [eq]; exact fun t_ k_ => p113 t_ (g' t_ k_)
theorem ef_rm30_2 (m : MethodId) (a1 : Addr) (k1 : ClassId) (c0 : Int32) (c1 : Int32) (c2 : Int32) (c3 : Int32) (cs1 : Int32) (fm : Value) : entryFrame m #[(.ref a1), (.int (0 : Int32)), (.int (2 : Int32)), (.int (0 : Int32))] 6 = mkF m 0 #[.val (.ref a1), .val (.int (0 : Int32)), .val (.int (2 : Int32)), .val (.int (0 : Int32)), .unset, .unset] [] := by first | (simp [entryFrame, mkF, argsToLocals, Value.category]; done) | rfl
def Q30_2 (Z : State) (a1 : Addr) (k1 : ClassId) (c0 : Int32) (c1 : Int32) (c2 : Int32) (c3 : Int32) (cs1 : Int32) (fm : Value) (h0 : Heap) (n0 : Nat) (v : Option Value) (h : Heap) (L : List Loc) : Prop := v = some (.int (own_cp2 c0 c1 c2 c3)) ∧ Fr n0 L ∧ (h = h0)
set_option maxRecDepth 65536 in
set_option maxHeartbeats 40000000 in
theorem rm30_2 (l : Launch) (Z : State) (a0 : Array Value) (hw : ∀ d ∈ tables_1, d.before a0 Z = true) (ws : List Jvm.Cond) (a1 : Addr) (k1 : ClassId) (c0 : Int32) (c1 : Int32) (c2 : Int32) (c3 : Int32) (cs1 : Int32) (fm : Value) (h0 : Heap) (n0 : Nat) (Z0 : n0 ≤ h0.size) (O1 : Old Z n0 h0) (G : own_G Z cs1 fm) (V1 : Arv Z h0 a1 k1 .byte (8 : Int32) [(.int (own_x0 c0)), (.int (own_x8 c0)), (.int (own_x0 c1)), (.int (own_x8 c1)), (.int (own_x0 c2)), (.int (own_x8 c2)), (.int (own_x0 c3)), (.int (own_x8 c3))] (.int (0 : Int32))) (a0_ : ¬ (c0 < (0 : Int32))) (b0_ : ¬ ((65535 : Int32) < c0)) (a1_ : ¬ (c1 < (0 : Int32))) (b1_ : ¬ ((65535 : Int32) < c1)) (a2_ : ¬ (c2 < (0 : Int32))) (b2_ : ¬ ((65535 : Int32) < c2)) (a3_ : ¬ (c3 < (0 : Int32))) (b3_ : ¬ ((65535 : Int32) < c3)) :
  MetFree l (⟨"java/lang/StringUTF16", "codePointCount", "([BIIZ)I"⟩ : MethodName) (head1 (Jvm.Cond.code (⟨"java/lang/StringUTF16", "codePointCount", "([BIIZ)I"⟩ : MethodName) jdk_52_method_11_code 6 (some .int) :: ws) ({ frames := 4, cells := 0, slots := 0, locals := 60 } : Room)) (fun a U => a = #[(.ref a1), (.int (0 : Int32)), (.int (2 : Int32)), (.int (0 : Int32))] ∧ Z.Warmed39 U.vm ∧ U.heap = h0) (fun _ _ _ _ _ => True) (fun _ U o U' => ∃ v L, o = .returned v ∧ Q30_2 Z a1 k1 c0 c1 c2 c3 cs1 fm h0 n0 v U'.heap L ∧ FrameEnd U o U' L ({ frames := 4, cells := 0, slots := 0, locals := 60 } : Room).cells ({ frames := 4, cells := 0, slots := 0, locals := 60 } : Room).slots) := by
 refine MetFree.of_bodySF pn30 hisR ?_
 intro p e s m args below meth c s₁ Bd hml0 hP hK
 obtain ⟨rfl, hZ, hh⟩ := hP
 have hx := Bd.exec
 have hby := Bd.bytes
 have hml : c.maxLocals = 6 := hml0
 have hown : s.vm.findClass "java/lang/StringUTF16" = some m.cls := findClass_of_methodNamed Bd.named
 have hnm := (name_of_methodNamed Bd.named Bd.method).1
 have X0 : Stand p l e ({ frames := 4, cells := 0, slots := 0, locals := 60 } : Room) s m #[(.ref a1), (.int (0 : Int32)), (.int (2 : Int32)), (.int (0 : Int32))] below meth c s₁ [] 0 0 := Stand.of_body Bd
 have e0 : s₁.heap = h0 := by rw [← hh, Bd.state]; rfl
 have N0 := Fr.nil n0
 have p0 : Go p.tables e below (s₁.setTop (entryFrame m #[(.ref a1), (.int (0 : Int32)), (.int (2 : Int32)), (.int (0 : Int32))] 6)) (s₁.setTop (mkF m 0 #[.val (.ref a1), .val (.int (0 : Int32)), .val (.int (2 : Int32)), .val (.int (0 : Int32)), .unset, .unset] [])) := fun t_ k_ => castTop (ef_rm30_2 m a1 k1 c0 c1 c2 c3 cs1 fm) k_
 obtain ⟨T101, X101, e101, st101⟩ := getS2 X0 hx hZ hown (host := "") (Or.inl (own_w hw 116 rfl)) Via.refl e0 (G.2.2.2.2.1.ext O1.2) (g := (mkF m 0 #[.val (.ref a1), .val (.int (0 : Int32)), .val (.int (2 : Int32)), .val (.int (0 : Int32)), .unset, .unset] [])) rfl (hb hby d30_0)
 have p102 : Go p.tables e below _ (T101.setTop (mkF m 44 #[.val (.ref a1), .val (.int (0 : Int32)), .val (.int (2 : Int32)), .val (.int (0 : Int32)), .val (.int (2 : Int32)), .val (.int (0 : Int32))] [])) := fun t_ k_ => (gc p0 st101) t_ (by
  refine XS.ifYes X101.here hx rfl (pc0 := 3) (pc' := 19) rfl (hb hby d30_3) rfl ((if0 _ _).trans (feq (by decide : ¬ ((1 : Int32) = (0 : Int32)))).2) (by decide) (by decide) ?_
  refine XS.iloadN X101.here hx rfl (hb hby d30_19) rfl ?_
  refine XS.iloadN X101.here hx rfl (hb hby d30_20) rfl ?_
  refine XS.isub X101.here hx rfl (hb hby d30_21) rfl ?_
  refine XS.istore X101.here hx rfl (hb hby d30_22) rfl (l' := #[.val (.ref a1), .val (.int (0 : Int32)), .val (.int (2 : Int32)), .val (.int (0 : Int32)), .val (.int (2 : Int32)), .unset]) rfl ?_
  refine XS.iloadN X101.here hx rfl (hb hby d30_24) rfl ?_
  refine XS.istore X101.here hx rfl (hb hby d30_25) rfl (l' := #[.val (.ref a1), .val (.int (0 : Int32)), .val (.int (2 : Int32)), .val (.int (0 : Int32)), .val (.int (2 : Int32)), .val (.int (0 : Int32))]) rfl ?_
  refine XS.iloadN X101.here hx rfl (hb hby d30_27) rfl ?_
  refine XS.ifYes X101.here hx rfl (pc0 := 28) (pc' := 44) rfl (hb hby d30_28) rfl ((if0 _ _).trans (teq (by decide : ((0 : Int32) = (0 : Int32)))).1) (by decide) (by decide) ?_
  exact k_)
 obtain ⟨T103, L103, j103, X103, e103, N103, g103⟩ := cp2_0 Z a0 hx hZ hw hby hml hown a1 k1 c0 c1 c2 c3 cs1 fm h0 n0 (Nat.le_trans Z0 (Keep.refl h0 []).1) O1 G V1 a0_ b0_ a1_ b1_ a2_ b2_ a3_ b3_ (2 : Int32) T101 _ X101 e101 N0
 have p104 : Go p.tables e below _ (T103.setTop (mkF m 88 #[.val (.ref a1), .val (.int (0 : Int32)), .val (.int (2 : Int32)), .val (.int (0 : Int32)), .val (.int ((2 : Int32) - own_pr c0 c1)), .val (.int j103)] [])) := fun t_ k_ => p102 t_ (g103 t_ k_)
 have p105 : Go p.tables e below _ (T103.setTop (mkF m 90 #[.val (.ref a1), .val (.int (0 : Int32)), .val (.int (2 : Int32)), .val (.int (0 : Int32)), .val (.int ((2 : Int32) - own_pr c0 c1)), .val (.int j103)] [(.int ((2 : Int32) - own_pr c0 c1))])) := fun t_ k_ => p104 t_ (by
  refine XS.iload X103.here hx rfl (hb hby d30_88) rfl ?_
  exact k_)
 obtain ⟨fs, hr, hrun, hended, hW, hsame⟩ := X103.leave (v := some (.int ((2 : Int32) - own_pr c0 c1))) (fun h => by rw [Bd.returns] at h; cases h)
 refine ⟨_, _, p105 _ (retI X103 hx Bd.returns (hb hby d30_90) hr), hrun, hended, _, _, rfl, ?_, ⟨_, rfl⟩, hW, hsame.mono (by decide) (by decide)⟩
 show Q30_2 Z a1 k1 c0 c1 c2 c3 cs1 fm h0 n0 _ T103.heap _
 rw [e103]
 exact ⟨rfl, N103, rfl⟩
theorem ef_rm29_2 (m : MethodId) (a1 : Addr) (k1 : ClassId) (c0 : Int32) (c1 : Int32) (c2 : Int32) (c3 : Int32) (cs1 : Int32) (fm : Value) : entryFrame m #[(.ref a1), (.int (0 : Int32)), (.int (2 : Int32))] 3 = mkF m 0 #[.val (.ref a1), .val (.int (0 : Int32)), .val (.int (2 : Int32))] [] := by first | (simp [entryFrame, mkF, argsToLocals, Value.category]; done) | rfl
def Q29_2 (Z : State) (a1 : Addr) (k1 : ClassId) (c0 : Int32) (c1 : Int32) (c2 : Int32) (c3 : Int32) (cs1 : Int32) (fm : Value) (h0 : Heap) (n0 : Nat) (v : Option Value) (h : Heap) (L : List Loc) : Prop := v = some (.int (own_cp2 c0 c1 c2 c3)) ∧ Fr n0 L ∧ (h = h0)
set_option maxRecDepth 65536 in
set_option maxHeartbeats 40000000 in
theorem rm29_2 (l : Launch) (Z : State) (a0 : Array Value) (hw : ∀ d ∈ tables_1, d.before a0 Z = true) (ws : List Jvm.Cond) (a1 : Addr) (k1 : ClassId) (c0 : Int32) (c1 : Int32) (c2 : Int32) (c3 : Int32) (cs1 : Int32) (fm : Value) (h0 : Heap) (n0 : Nat) (Z0 : n0 ≤ h0.size) (O1 : Old Z n0 h0) (G : own_G Z cs1 fm) (V1 : Arv Z h0 a1 k1 .byte (8 : Int32) [(.int (own_x0 c0)), (.int (own_x8 c0)), (.int (own_x0 c1)), (.int (own_x8 c1)), (.int (own_x0 c2)), (.int (own_x8 c2)), (.int (own_x0 c3)), (.int (own_x8 c3))] (.int (0 : Int32))) (a0_ : ¬ (c0 < (0 : Int32))) (b0_ : ¬ ((65535 : Int32) < c0)) (a1_ : ¬ (c1 < (0 : Int32))) (b1_ : ¬ ((65535 : Int32) < c1)) (a2_ : ¬ (c2 < (0 : Int32))) (b2_ : ¬ ((65535 : Int32) < c2)) (a3_ : ¬ (c3 < (0 : Int32))) (b3_ : ¬ ((65535 : Int32) < c3)) :
  MetFree l (⟨"java/lang/StringUTF16", "codePointCount", "([BII)I"⟩ : MethodName) (head1 (Jvm.Cond.code (⟨"java/lang/StringUTF16", "codePointCount", "([BII)I"⟩ : MethodName) jdk_52_method_12_code 3 (some .int) :: ws) ({ frames := 5, cells := 0, slots := 0, locals := 77 } : Room)) (fun a U => a = #[(.ref a1), (.int (0 : Int32)), (.int (2 : Int32))] ∧ Z.Warmed39 U.vm ∧ U.heap = h0) (fun _ _ _ _ _ => True) (fun _ U o U' => ∃ v L, o = .returned v ∧ Q29_2 Z a1 k1 c0 c1 c2 c3 cs1 fm h0 n0 v U'.heap L ∧ FrameEnd U o U' L ({ frames := 5, cells := 0, slots := 0, locals := 77 } : Room).cells ({ frames := 5, cells := 0, slots := 0, locals := 77 } : Room).slots) := by
 refine MetFree.of_bodySF pn29 hisR ?_
 intro p e s m args below meth c s₁ Bd hml0 hP hK
 obtain ⟨rfl, hZ, hh⟩ := hP
 have hx := Bd.exec
 have hby := Bd.bytes
 have hml : c.maxLocals = 3 := hml0
 have hown : s.vm.findClass "java/lang/StringUTF16" = some m.cls := findClass_of_methodNamed Bd.named
 have hnm := (name_of_methodNamed Bd.named Bd.method).1
 have X0 : Stand p l e ({ frames := 5, cells := 0, slots := 0, locals := 77 } : Room) s m #[(.ref a1), (.int (0 : Int32)), (.int (2 : Int32))] below meth c s₁ [] 0 0 := Stand.of_body Bd
 have e0 : s₁.heap = h0 := by rw [← hh, Bd.state]; rfl
 have N0 := Fr.nil n0
 have p0 : Go p.tables e below (s₁.setTop (entryFrame m #[(.ref a1), (.int (0 : Int32)), (.int (2 : Int32))] 3)) (s₁.setTop (mkF m 0 #[.val (.ref a1), .val (.int (0 : Int32)), .val (.int (2 : Int32))] [])) := fun t_ k_ => castTop (ef_rm29_2 m a1 k1 c0 c1 c2 c3 cs1 fm) k_
 have p101 : Go p.tables e below _ (s₁.setTop (mkF m 4 #[.val (.ref a1), .val (.int (0 : Int32)), .val (.int (2 : Int32))] [(.int (0 : Int32)), (.int (2 : Int32)), (.int (0 : Int32)), (.ref a1)])) := fun t_ k_ => p0 t_ (by
  refine XS.aloadN X0.here hx rfl (hb hby d29_0) rfl rfl ?_
  refine XS.iloadN X0.here hx rfl (hb hby d29_1) rfl ?_
  refine XS.iloadN X0.here hx rfl (hb hby d29_2) rfl ?_
  refine XS.iconst X0.here hx rfl (hb hby d29_3) ?_
  exact k_)
 obtain ⟨_, _, ⟨T102, L102, k102, n102⟩, -, X102, ⟨Lc102, hQ102, l102, y102, z102⟩, st102⟩ := Jvm.LawKit.callS X0 hx (y := (⟨"java/lang/StringUTF16", "codePointCount", "([BIIZ)I"⟩ : MethodName)) hown (mvT hZ (own_w hw 135 rfl)) (mvT hZ (own_w hw 136 rfl)) (mvT hZ (own_w hw 22 rfl)) (mvT hZ (own_w hw 137 rfl)) (by decide) (backOf (W := 0) (rm30_2 l Z a0 hw [] a1 k1 c0 c1 c2 c3 cs1 fm h0 n0 (Nat.le_trans Z0 (Keep.refl h0 []).1) O1 G V1 a0_ b0_ a1_ b1_ a2_ b2_ a3_ b3_) hZ (own_w hw 137 rfl) (own_w hw 22 rfl) (by decide) (by decide)) (g := (mkF m 4 #[.val (.ref a1), .val (.int (0 : Int32)), .val (.int (2 : Int32))] [(.int (0 : Int32)), (.int (2 : Int32)), (.int (0 : Int32)), (.ref a1)])) rfl (by rw [hml]; rfl) (argsL := [(.ref a1), (.int (0 : Int32)), (.int (2 : Int32)), (.int (0 : Int32))]) (rest := []) (lenOf pd17 rfl) rfl (by show 2 * 0 + _ ≤ _; exact Nat.le_of_eq rfl) (hb hby d29_4) (fun _ _ => ⟨rfl, e0, (by decide : 0 + 0 ≤ _), (by decide : 0 + 0 ≤ _)⟩)
 dsimp only [Pt.U, Pt.locs, Pt.cells, Pt.slots] at X102 l102 y102 z102 st102 hQ102
 subst l102 y102 z102
 obtain ⟨rfl, N102q, q102_hh⟩ := hQ102
 have N102 := Fr.app N0 N102q
 obtain ⟨fs, hr, hrun, hended, hW, hsame⟩ := X102.leave (v := some (.int (own_cp2 c0 c1 c2 c3))) (fun h => by rw [Bd.returns] at h; cases h)
 refine ⟨_, _, (gc p101 st102) _ (retI X102 hx Bd.returns (hb hby d29_7) hr), hrun, hended, _, _, rfl, ?_, ⟨_, rfl⟩, hW, hsame.mono (by decide) (by decide)⟩
 show Q29_2 Z a1 k1 c0 c1 c2 c3 cs1 fm h0 n0 _ T102.heap _
 rw [q102_hh]
 exact ⟨rfl, N102, rfl⟩
theorem ef_rm17_0_2 (m : MethodId) (a1 : Addr) (bv : Addr) (k1 : ClassId) (c0 : Int32) (c1 : Int32) (c2 : Int32) (c3 : Int32) (cs1 : Int32) (fm : Value) : entryFrame m #[(.ref a1), (.int (0 : Int32)), (.int (2 : Int32))] 3 = mkF m 0 #[.val (.ref a1), .val (.int (0 : Int32)), .val (.int (2 : Int32))] [] := by first | (simp [entryFrame, mkF, argsToLocals, Value.category]; done) | rfl
def Q17_0_2 (Z : State) (a1 : Addr) (bv : Addr) (k1 : ClassId) (c0 : Int32) (c1 : Int32) (c2 : Int32) (c3 : Int32) (cs1 : Int32) (fm : Value) (h0 : Heap) (n0 : Nat) (v : Option Value) (h : Heap) (L : List Loc) : Prop := v = some (.int (2 : Int32)) ∧ Fr n0 L ∧ (h = h0)
set_option maxRecDepth 65536 in
set_option maxHeartbeats 40000000 in
theorem rm17_0_2 (l : Launch) (Z : State) (a0 : Array Value) (hw : ∀ d ∈ tables_1, d.before a0 Z = true) (ws : List Jvm.Cond) (a1 : Addr) (bv : Addr) (k1 : ClassId) (c0 : Int32) (c1 : Int32) (c2 : Int32) (c3 : Int32) (cs1 : Int32) (fm : Value) (h0 : Heap) (n0 : Nat) (Z0 : n0 ≤ h0.size) (O1 : Old Z n0 h0) (G : own_G Z cs1 fm) (E1 : Exa Z h0 a1 "java/lang/String") (F1 : Fld Z h0 a1 "java/lang/String" "coder" "B" (.int (0 : Int32))) (F2 : Fld Z h0 a1 "java/lang/String" "value" "[B" (.ref bv)) (V1 : Arv Z h0 bv k1 .byte (4 : Int32) [(.int (own_xl c0)), (.int (own_xl c1)), (.int (own_xl c2)), (.int (own_xl c3))] (.int (0 : Int32))) :
  MetFree l (⟨"java/lang/String", "codePointCount", "(II)I"⟩ : MethodName) (head1 (Jvm.Cond.code (⟨"java/lang/String", "codePointCount", "(II)I"⟩ : MethodName) jdk_42_method_59_code 3 (some .int) :: ws) ({ frames := 2, cells := 0, slots := 0, locals := 29 } : Room)) (fun a U => a = #[(.ref a1), (.int (0 : Int32)), (.int (2 : Int32))] ∧ Z.Warmed39 U.vm ∧ U.heap = h0) (fun _ _ _ _ _ => True) (fun _ U o U' => ∃ v L, o = .returned v ∧ Q17_0_2 Z a1 bv k1 c0 c1 c2 c3 cs1 fm h0 n0 v U'.heap L ∧ FrameEnd U o U' L ({ frames := 2, cells := 0, slots := 0, locals := 29 } : Room).cells ({ frames := 2, cells := 0, slots := 0, locals := 29 } : Room).slots) := by
 refine MetFree.of_bodySF pn17 hisR ?_
 intro p e s m args below meth c s₁ Bd hml0 hP hK
 obtain ⟨rfl, hZ, hh⟩ := hP
 have hx := Bd.exec
 have hby := Bd.bytes
 have hml : c.maxLocals = 3 := hml0
 have hown : s.vm.findClass "java/lang/String" = some m.cls := findClass_of_methodNamed Bd.named
 have hnm := (name_of_methodNamed Bd.named Bd.method).1
 have X0 : Stand p l e ({ frames := 2, cells := 0, slots := 0, locals := 29 } : Room) s m #[(.ref a1), (.int (0 : Int32)), (.int (2 : Int32))] below meth c s₁ [] 0 0 := Stand.of_body Bd
 have e0 : s₁.heap = h0 := by rw [← hh, Bd.state]; rfl
 have N0 := Fr.nil n0
 have p0 : Go p.tables e below (s₁.setTop (entryFrame m #[(.ref a1), (.int (0 : Int32)), (.int (2 : Int32))] 3)) (s₁.setTop (mkF m 0 #[.val (.ref a1), .val (.int (0 : Int32)), .val (.int (2 : Int32))] [])) := fun t_ k_ => castTop (ef_rm17_0_2 m a1 bv k1 c0 c1 c2 c3 cs1 fm) k_
 have p101 : Go p.tables e below _ (s₁.setTop (mkF m 3 #[.val (.ref a1), .val (.int (0 : Int32)), .val (.int (2 : Int32))] [(.ref a1), (.int (2 : Int32)), (.int (0 : Int32))])) := fun t_ k_ => p0 t_ (by
  refine XS.iloadN X0.here hx rfl (hb hby d17_0) rfl ?_
  refine XS.iloadN X0.here hx rfl (hb hby d17_1) rfl ?_
  refine XS.aloadN X0.here hx rfl (hb hby d17_2) rfl rfl ?_
  exact k_)
 obtain ⟨cq102, kq102, q102a, q102b, q102c⟩ := isOf hZ e0 E1
 obtain ⟨_, _, ⟨T102, L102, k102, n102⟩, -, X102, ⟨Lc102, hQ102, l102, y102, z102⟩, st102⟩ := X0.virtualBack hx (y := (⟨"java/lang/String", "length", "()I"⟩ : MethodName)) (z := (⟨"java/lang/String", "length", "()I"⟩ : MethodName)) hown (mvT hZ (own_w hw 90 rfl)) (mvT hZ (own_w hw 46 rfl)) (notFace_of_selects (args := #[]) (mvT hZ (own_w hw 48 rfl))) (mvT hZ (own_w hw 48 rfl)) (mvT hZ (own_w hw 47 rfl)) (by decide) (backOf (W := 2) (rm9_0 l Z a0 hw [] a1 (4 : Int32) bv k1 (4 : Int32) [(.int (own_xl c0)), (.int (own_xl c1)), (.int (own_xl c2)), (.int (own_xl c3))] cs1 fm h0 n0 (Nat.le_trans Z0 (Keep.refl h0 []).1) O1 G E1 F1 F2 V1 (by decide)) hZ (own_w hw 49 rfl) (own_w hw 8 rfl) (by decide) (by decide)) q102a q102c (g := (mkF m 3 #[.val (.ref a1), .val (.int (0 : Int32)), .val (.int (2 : Int32))] [(.ref a1), (.int (2 : Int32)), (.int (0 : Int32))])) rfl (by rw [hml]; rfl) (Steps.refl _) (argsL := []) (rest := [(.int (2 : Int32)), (.int (0 : Int32))]) (lenOf pd14 rfl) rfl (by show 2 * 0 + _ ≤ _; exact Nat.le_of_eq rfl) (hb hby d17_3) (fun _ _ => ⟨rfl, e0, (by decide : 0 + 0 ≤ _), (by decide : 0 + 0 ≤ _)⟩)
 dsimp only [Pt.U, Pt.locs, Pt.cells, Pt.slots] at X102 l102 y102 z102 st102 hQ102
 subst l102 y102 z102
 obtain ⟨rfl, N102q, q102_hh⟩ := hQ102
 have N102 := Fr.app N0 N102q
 obtain ⟨_, _, ⟨T103, L103, k103, n103⟩, -, X103, ⟨Lc103, hQ103, l103, y103, z103⟩, st103⟩ := Jvm.LawKit.callS X102 hx (y := (⟨"java/util/Objects", "checkFromToIndex", "(III)I"⟩ : MethodName)) hown (mvT hZ (own_w hw 91 rfl)) (mvT hZ (own_w hw 92 rfl)) (mvT hZ (own_w hw 93 rfl)) (mvT hZ (own_w hw 94 rfl)) (by decide) (backOf (W := 0) (rm18_2 l Z a0 hw []  h0 n0 (Nat.le_trans Z0 (Keep.refl h0 []).1) ) hZ (own_w hw 94 rfl) (own_w hw 93 rfl) (by decide) (by decide)) (g := (mkF m 6 #[.val (.ref a1), .val (.int (0 : Int32)), .val (.int (2 : Int32))] [(.int (4 : Int32)), (.int (2 : Int32)), (.int (0 : Int32))])) rfl (by rw [hml]; rfl) (argsL := [(.int (0 : Int32)), (.int (2 : Int32)), (.int (4 : Int32))]) (rest := []) (lenOf pd18 rfl) rfl (by show 2 * 0 + _ ≤ _; exact Nat.le_of_eq rfl) (hb hby d17_6) (fun _ _ => ⟨rfl, q102_hh, (by decide : 0 + 0 ≤ _), (by decide : 0 + 0 ≤ _)⟩)
 dsimp only [Pt.U, Pt.locs, Pt.cells, Pt.slots] at X103 l103 y103 z103 st103 hQ103
 subst l103 y103 z103
 obtain ⟨rfl, N103q, q103_hh⟩ := hQ103
 have N103 := Fr.app N102 N103q
 have p104 : Go p.tables e below _ (T103.setTop (mkF m 11 #[.val (.ref a1), .val (.int (0 : Int32)), .val (.int (2 : Int32))] [(.ref a1)])) := fun t_ k_ => (gc (gcT p101 st102) st103) t_ (by
  refine XS.pop X103.here hx rfl (hb hby d17_9) rfl rfl ?_
  refine XS.aloadN X103.here hx rfl (hb hby d17_10) rfl rfl ?_
  exact k_)
 obtain ⟨cq105, kq105, q105a, q105b, q105c⟩ := isOf hZ q103_hh E1
 obtain ⟨_, _, ⟨T105, L105, k105, n105⟩, -, X105, ⟨Lc105, hQ105, l105, y105, z105⟩, st105⟩ := X103.virtualBack hx (y := (⟨"java/lang/String", "isLatin1", "()Z"⟩ : MethodName)) (z := (⟨"java/lang/String", "isLatin1", "()Z"⟩ : MethodName)) hown (mvT hZ (own_w hw 60 rfl)) (mvT hZ (own_w hw 61 rfl)) (notFace_of_selects (args := #[]) (mvT hZ (own_w hw 63 rfl))) (mvT hZ (own_w hw 63 rfl)) (mvT hZ (own_w hw 62 rfl)) (by decide) (backOf (W := 0) (rm12_0 l Z a0 hw [] a1 cs1 fm h0 n0 (Nat.le_trans Z0 (Keep.refl h0 []).1) O1 G F1) hZ (own_w hw 64 rfl) (own_w hw 8 rfl) (by decide) (by decide)) q105a q105c (g := (mkF m 11 #[.val (.ref a1), .val (.int (0 : Int32)), .val (.int (2 : Int32))] [(.ref a1)])) rfl (by rw [hml]; rfl) (Steps.refl _) (argsL := []) (rest := []) (lenOf pd3 rfl) rfl (by show 2 * 0 + _ ≤ _; exact Nat.le_of_eq rfl) (hb hby d17_11) (fun _ _ => ⟨rfl, q103_hh, (by decide : 0 + 0 ≤ _), (by decide : 0 + 0 ≤ _)⟩)
 dsimp only [Pt.U, Pt.locs, Pt.cells, Pt.slots] at X105 l105 y105 z105 st105 hQ105
 subst l105 y105 z105
 obtain ⟨rfl, N105q, q105_hh⟩ := hQ105
 have N105 := Fr.app N103 N105q
 have p106 : Go p.tables e below _ (T105.setTop (mkF m 20 #[.val (.ref a1), .val (.int (0 : Int32)), .val (.int (2 : Int32))] [(.int (2 : Int32))])) := fun t_ k_ => (gcT p104 st105) t_ (by
  refine XS.ifNo X105.here hx rfl (hb hby d17_14) rfl ((if0 _ _).trans (feq (by decide : ¬ ((1 : Int32) = (0 : Int32)))).1) ?_
  refine XS.iloadN X105.here hx rfl (hb hby d17_17) rfl ?_
  refine XS.iloadN X105.here hx rfl (hb hby d17_18) rfl ?_
  refine XS.isub X105.here hx rfl (hb hby d17_19) rfl ?_
  exact k_)
 obtain ⟨fs, hr, hrun, hended, hW, hsame⟩ := X105.leave (v := some (.int (2 : Int32))) (fun h => by rw [Bd.returns] at h; cases h)
 refine ⟨_, _, p106 _ (retI X105 hx Bd.returns (hb hby d17_20) hr), hrun, hended, _, _, rfl, ?_, ⟨_, rfl⟩, hW, hsame.mono (by decide) (by decide)⟩
 show Q17_0_2 Z a1 bv k1 c0 c1 c2 c3 cs1 fm h0 n0 _ T105.heap _
 rw [q105_hh]
 exact ⟨rfl, N105, rfl⟩
theorem ef_rm16_0_2 (m : MethodId) (a1 : Addr) (a2 : Addr) (bv : Addr) (k1 : ClassId) (c0 : Int32) (c1 : Int32) (c2 : Int32) (c3 : Int32) (cs1 : Int32) (fm : Value) : entryFrame m #[(.ref a1), (.int (2 : Int32))] 2 = mkF m 0 #[.val (.ref a1), .val (.int (2 : Int32))] [] := by first | (simp [entryFrame, mkF, argsToLocals, Value.category]; done) | rfl
def Q16_0_2 (Z : State) (a1 : Addr) (a2 : Addr) (bv : Addr) (k1 : ClassId) (c0 : Int32) (c1 : Int32) (c2 : Int32) (c3 : Int32) (cs1 : Int32) (fm : Value) (h0 : Heap) (n0 : Nat) (v : Option Value) (h : Heap) (L : List Loc) : Prop := v = some (.int (3 : Int32)) ∧ Fr n0 L ∧ (h = h0)
set_option maxRecDepth 65536 in
set_option maxHeartbeats 40000000 in
theorem rm16_0_2 (l : Launch) (Z : State) (a0 : Array Value) (hw : ∀ d ∈ tables_1, d.before a0 Z = true) (ws : List Jvm.Cond) (a1 : Addr) (a2 : Addr) (bv : Addr) (k1 : ClassId) (c0 : Int32) (c1 : Int32) (c2 : Int32) (c3 : Int32) (cs1 : Int32) (fm : Value) (h0 : Heap) (n0 : Nat) (Z0 : n0 ≤ h0.size) (O1 : Old Z n0 h0) (G : own_G Z cs1 fm) (T1 : Fld Z h0 a1 "com/example/subsume/subsume/model/Lines" "text" "Ljava/lang/String;" (.ref a2)) (E1 : Exa Z h0 a2 "java/lang/String") (F1 : Fld Z h0 a2 "java/lang/String" "coder" "B" (.int (0 : Int32))) (F2 : Fld Z h0 a2 "java/lang/String" "value" "[B" (.ref bv)) (V1 : Arv Z h0 bv k1 .byte (4 : Int32) [(.int (own_xl c0)), (.int (own_xl c1)), (.int (own_xl c2)), (.int (own_xl c3))] (.int (0 : Int32))) :
  MetFree l (⟨"com/example/subsume/subsume/model/Lines", "character", "(I)I"⟩ : MethodName) (head1 (Jvm.Cond.code (⟨"com/example/subsume/subsume/model/Lines", "character", "(I)I"⟩ : MethodName) prog_16_method_2_code 2 (some .int) :: ws) ({ frames := 3, cells := 0, slots := 0, locals := 43 } : Room)) (fun a U => a = #[(.ref a1), (.int (2 : Int32))] ∧ Z.Warmed39 U.vm ∧ U.heap = h0) (fun _ _ _ _ _ => True) (fun _ U o U' => ∃ v L, o = .returned v ∧ Q16_0_2 Z a1 a2 bv k1 c0 c1 c2 c3 cs1 fm h0 n0 v U'.heap L ∧ FrameEnd U o U' L ({ frames := 3, cells := 0, slots := 0, locals := 43 } : Room).cells ({ frames := 3, cells := 0, slots := 0, locals := 43 } : Room).slots) := by
 refine MetFree.of_bodySF pn16 hisR ?_
 intro p e s m args below meth c s₁ Bd hml0 hP hK
 obtain ⟨rfl, hZ, hh⟩ := hP
 have hx := Bd.exec
 have hby := Bd.bytes
 have hml : c.maxLocals = 2 := hml0
 have hown : s.vm.findClass "com/example/subsume/subsume/model/Lines" = some m.cls := findClass_of_methodNamed Bd.named
 have hnm := (name_of_methodNamed Bd.named Bd.method).1
 have X0 : Stand p l e ({ frames := 3, cells := 0, slots := 0, locals := 43 } : Room) s m #[(.ref a1), (.int (2 : Int32))] below meth c s₁ [] 0 0 := Stand.of_body Bd
 have e0 : s₁.heap = h0 := by rw [← hh, Bd.state]; rfl
 have N0 := Fr.nil n0
 have p0 : Go p.tables e below (s₁.setTop (entryFrame m #[(.ref a1), (.int (2 : Int32))] 2)) (s₁.setTop (mkF m 0 #[.val (.ref a1), .val (.int (2 : Int32))] [])) := fun t_ k_ => castTop (ef_rm16_0_2 m a1 a2 bv k1 c0 c1 c2 c3 cs1 fm) k_
 have p101 : Go p.tables e below _ (s₁.setTop (mkF m 1 #[.val (.ref a1), .val (.int (2 : Int32))] [(.ref a1)])) := fun t_ k_ => p0 t_ (by
  refine XS.aloadN X0.here hx rfl (hb hby d16_0) rfl rfl ?_
  exact k_)
 obtain ⟨T102, X102, e102, st102⟩ := getF X0 hx hZ hown (host := "") (Or.inl (own_w hw 43 rfl)) Via.refl e0 T1 (g := (mkF m 1 #[.val (.ref a1), .val (.int (2 : Int32))] [(.ref a1)])) rfl rfl (hb hby d16_1)
 have p103 : Go p.tables e below _ (T102.setTop (mkF m 6 #[.val (.ref a1), .val (.int (2 : Int32))] [(.int (2 : Int32)), (.int (0 : Int32)), (.ref a2)])) := fun t_ k_ => (gc p101 st102) t_ (by
  refine XS.iconst X102.here hx rfl (hb hby d16_4) ?_
  refine XS.iloadN X102.here hx rfl (hb hby d16_5) rfl ?_
  exact k_)
 obtain ⟨cq104, kq104, q104a, q104b, q104c⟩ := isOf hZ e102 E1
 obtain ⟨_, _, ⟨T104, L104, k104, n104⟩, -, X104, ⟨Lc104, hQ104, l104, y104, z104⟩, st104⟩ := X102.virtualBack hx (y := (⟨"java/lang/String", "codePointCount", "(II)I"⟩ : MethodName)) (z := (⟨"java/lang/String", "codePointCount", "(II)I"⟩ : MethodName)) hown (mvT hZ (own_w hw 85 rfl)) (mvT hZ (own_w hw 86 rfl)) (notFace_of_selects (args := #[]) (mvT hZ (own_w hw 88 rfl))) (mvT hZ (own_w hw 88 rfl)) (mvT hZ (own_w hw 87 rfl)) (by decide) (backOf (W := 0) (rm17_0_2 l Z a0 hw [] a2 bv k1 c0 c1 c2 c3 cs1 fm h0 n0 (Nat.le_trans Z0 (Keep.refl h0 []).1) O1 G E1 F1 F2 V1) hZ (own_w hw 89 rfl) (own_w hw 8 rfl) (by decide) (by decide)) q104a q104c (g := (mkF m 6 #[.val (.ref a1), .val (.int (2 : Int32))] [(.int (2 : Int32)), (.int (0 : Int32)), (.ref a2)])) rfl (by rw [hml]; rfl) (Steps.refl _) (argsL := [(.int (0 : Int32)), (.int (2 : Int32))]) (rest := []) (lenOf pd19 rfl) rfl (by show 2 * 0 + _ ≤ _; exact Nat.le_of_eq rfl) (hb hby d16_6) (fun _ _ => ⟨rfl, e102, (by decide : 0 + 0 ≤ _), (by decide : 0 + 0 ≤ _)⟩)
 dsimp only [Pt.U, Pt.locs, Pt.cells, Pt.slots] at X104 l104 y104 z104 st104 hQ104
 subst l104 y104 z104
 obtain ⟨rfl, N104q, q104_hh⟩ := hQ104
 have N104 := Fr.app N0 N104q
 have p105 : Go p.tables e below _ (T104.setTop (mkF m 11 #[.val (.ref a1), .val (.int (2 : Int32))] [(.int (3 : Int32))])) := fun t_ k_ => (gcT p103 st104) t_ (by
  refine XS.iconst X104.here hx rfl (hb hby d16_9) ?_
  refine XS.iadd X104.here hx rfl (hb hby d16_10) rfl ?_
  exact k_)
 obtain ⟨fs, hr, hrun, hended, hW, hsame⟩ := X104.leave (v := some (.int (3 : Int32))) (fun h => by rw [Bd.returns] at h; cases h)
 refine ⟨_, _, p105 _ (retI X104 hx Bd.returns (hb hby d16_11) hr), hrun, hended, _, _, rfl, ?_, ⟨_, rfl⟩, hW, hsame.mono (by decide) (by decide)⟩
 show Q16_0_2 Z a1 a2 bv k1 c0 c1 c2 c3 cs1 fm h0 n0 _ T104.heap _
 rw [q104_hh]
 exact ⟨rfl, N104, rfl⟩
theorem ef_rm17_1_2 (m : MethodId) (a1 : Addr) (bv : Addr) (k1 : ClassId) (c0 : Int32) (c1 : Int32) (c2 : Int32) (c3 : Int32) (cs1 : Int32) (fm : Value) : entryFrame m #[(.ref a1), (.int (0 : Int32)), (.int (2 : Int32))] 3 = mkF m 0 #[.val (.ref a1), .val (.int (0 : Int32)), .val (.int (2 : Int32))] [] := by first | (simp [entryFrame, mkF, argsToLocals, Value.category]; done) | rfl
def Q17_1_2 (Z : State) (a1 : Addr) (bv : Addr) (k1 : ClassId) (c0 : Int32) (c1 : Int32) (c2 : Int32) (c3 : Int32) (cs1 : Int32) (fm : Value) (h0 : Heap) (n0 : Nat) (v : Option Value) (h : Heap) (L : List Loc) : Prop := v = some (.int (own_cp2 c0 c1 c2 c3)) ∧ Fr n0 L ∧ (h = h0)
set_option maxRecDepth 65536 in
set_option maxHeartbeats 40000000 in
theorem rm17_1_2 (l : Launch) (Z : State) (a0 : Array Value) (hw : ∀ d ∈ tables_1, d.before a0 Z = true) (ws : List Jvm.Cond) (a1 : Addr) (bv : Addr) (k1 : ClassId) (c0 : Int32) (c1 : Int32) (c2 : Int32) (c3 : Int32) (cs1 : Int32) (fm : Value) (h0 : Heap) (n0 : Nat) (Z0 : n0 ≤ h0.size) (O1 : Old Z n0 h0) (G : own_G Z cs1 fm) (a0_ : ¬ (c0 < (0 : Int32))) (b0_ : ¬ ((65535 : Int32) < c0)) (a1_ : ¬ (c1 < (0 : Int32))) (b1_ : ¬ ((65535 : Int32) < c1)) (a2_ : ¬ (c2 < (0 : Int32))) (b2_ : ¬ ((65535 : Int32) < c2)) (a3_ : ¬ (c3 < (0 : Int32))) (b3_ : ¬ ((65535 : Int32) < c3)) (E1 : Exa Z h0 a1 "java/lang/String") (F1 : Fld Z h0 a1 "java/lang/String" "coder" "B" (.int (1 : Int32))) (F2 : Fld Z h0 a1 "java/lang/String" "value" "[B" (.ref bv)) (V1 : Arv Z h0 bv k1 .byte (8 : Int32) [(.int (own_x0 c0)), (.int (own_x8 c0)), (.int (own_x0 c1)), (.int (own_x8 c1)), (.int (own_x0 c2)), (.int (own_x8 c2)), (.int (own_x0 c3)), (.int (own_x8 c3))] (.int (0 : Int32))) :
  MetFree l (⟨"java/lang/String", "codePointCount", "(II)I"⟩ : MethodName) (head1 (Jvm.Cond.code (⟨"java/lang/String", "codePointCount", "(II)I"⟩ : MethodName) jdk_42_method_59_code 3 (some .int) :: ws) ({ frames := 6, cells := 0, slots := 0, locals := 91 } : Room)) (fun a U => a = #[(.ref a1), (.int (0 : Int32)), (.int (2 : Int32))] ∧ Z.Warmed39 U.vm ∧ U.heap = h0) (fun _ _ _ _ _ => True) (fun _ U o U' => ∃ v L, o = .returned v ∧ Q17_1_2 Z a1 bv k1 c0 c1 c2 c3 cs1 fm h0 n0 v U'.heap L ∧ FrameEnd U o U' L ({ frames := 6, cells := 0, slots := 0, locals := 91 } : Room).cells ({ frames := 6, cells := 0, slots := 0, locals := 91 } : Room).slots) := by
 refine MetFree.of_bodySF pn17 hisR ?_
 intro p e s m args below meth c s₁ Bd hml0 hP hK
 obtain ⟨rfl, hZ, hh⟩ := hP
 have hx := Bd.exec
 have hby := Bd.bytes
 have hml : c.maxLocals = 3 := hml0
 have hown : s.vm.findClass "java/lang/String" = some m.cls := findClass_of_methodNamed Bd.named
 have hnm := (name_of_methodNamed Bd.named Bd.method).1
 have X0 : Stand p l e ({ frames := 6, cells := 0, slots := 0, locals := 91 } : Room) s m #[(.ref a1), (.int (0 : Int32)), (.int (2 : Int32))] below meth c s₁ [] 0 0 := Stand.of_body Bd
 have e0 : s₁.heap = h0 := by rw [← hh, Bd.state]; rfl
 have N0 := Fr.nil n0
 have p0 : Go p.tables e below (s₁.setTop (entryFrame m #[(.ref a1), (.int (0 : Int32)), (.int (2 : Int32))] 3)) (s₁.setTop (mkF m 0 #[.val (.ref a1), .val (.int (0 : Int32)), .val (.int (2 : Int32))] [])) := fun t_ k_ => castTop (ef_rm17_1_2 m a1 bv k1 c0 c1 c2 c3 cs1 fm) k_
 have p101 : Go p.tables e below _ (s₁.setTop (mkF m 3 #[.val (.ref a1), .val (.int (0 : Int32)), .val (.int (2 : Int32))] [(.ref a1), (.int (2 : Int32)), (.int (0 : Int32))])) := fun t_ k_ => p0 t_ (by
  refine XS.iloadN X0.here hx rfl (hb hby d17_0) rfl ?_
  refine XS.iloadN X0.here hx rfl (hb hby d17_1) rfl ?_
  refine XS.aloadN X0.here hx rfl (hb hby d17_2) rfl rfl ?_
  exact k_)
 obtain ⟨cq102, kq102, q102a, q102b, q102c⟩ := isOf hZ e0 E1
 obtain ⟨_, _, ⟨T102, L102, k102, n102⟩, -, X102, ⟨Lc102, hQ102, l102, y102, z102⟩, st102⟩ := X0.virtualBack hx (y := (⟨"java/lang/String", "length", "()I"⟩ : MethodName)) (z := (⟨"java/lang/String", "length", "()I"⟩ : MethodName)) hown (mvT hZ (own_w hw 90 rfl)) (mvT hZ (own_w hw 46 rfl)) (notFace_of_selects (args := #[]) (mvT hZ (own_w hw 48 rfl))) (mvT hZ (own_w hw 48 rfl)) (mvT hZ (own_w hw 47 rfl)) (by decide) (backOf (W := 2) (rm9_1 l Z a0 hw [] a1 (4 : Int32) bv k1 (8 : Int32) [(.int (own_x0 c0)), (.int (own_x8 c0)), (.int (own_x0 c1)), (.int (own_x8 c1)), (.int (own_x0 c2)), (.int (own_x8 c2)), (.int (own_x0 c3)), (.int (own_x8 c3))] cs1 fm h0 n0 (Nat.le_trans Z0 (Keep.refl h0 []).1) O1 G E1 F1 F2 V1 (by decide)) hZ (own_w hw 49 rfl) (own_w hw 8 rfl) (by decide) (by decide)) q102a q102c (g := (mkF m 3 #[.val (.ref a1), .val (.int (0 : Int32)), .val (.int (2 : Int32))] [(.ref a1), (.int (2 : Int32)), (.int (0 : Int32))])) rfl (by rw [hml]; rfl) (Steps.refl _) (argsL := []) (rest := [(.int (2 : Int32)), (.int (0 : Int32))]) (lenOf pd14 rfl) rfl (by show 2 * 0 + _ ≤ _; exact Nat.le_of_eq rfl) (hb hby d17_3) (fun _ _ => ⟨rfl, e0, (by decide : 0 + 0 ≤ _), (by decide : 0 + 0 ≤ _)⟩)
 dsimp only [Pt.U, Pt.locs, Pt.cells, Pt.slots] at X102 l102 y102 z102 st102 hQ102
 subst l102 y102 z102
 obtain ⟨rfl, N102q, q102_hh⟩ := hQ102
 have N102 := Fr.app N0 N102q
 obtain ⟨_, _, ⟨T103, L103, k103, n103⟩, -, X103, ⟨Lc103, hQ103, l103, y103, z103⟩, st103⟩ := Jvm.LawKit.callS X102 hx (y := (⟨"java/util/Objects", "checkFromToIndex", "(III)I"⟩ : MethodName)) hown (mvT hZ (own_w hw 91 rfl)) (mvT hZ (own_w hw 92 rfl)) (mvT hZ (own_w hw 93 rfl)) (mvT hZ (own_w hw 94 rfl)) (by decide) (backOf (W := 0) (rm18_2 l Z a0 hw []  h0 n0 (Nat.le_trans Z0 (Keep.refl h0 []).1) ) hZ (own_w hw 94 rfl) (own_w hw 93 rfl) (by decide) (by decide)) (g := (mkF m 6 #[.val (.ref a1), .val (.int (0 : Int32)), .val (.int (2 : Int32))] [(.int (4 : Int32)), (.int (2 : Int32)), (.int (0 : Int32))])) rfl (by rw [hml]; rfl) (argsL := [(.int (0 : Int32)), (.int (2 : Int32)), (.int (4 : Int32))]) (rest := []) (lenOf pd18 rfl) rfl (by show 2 * 0 + _ ≤ _; exact Nat.le_of_eq rfl) (hb hby d17_6) (fun _ _ => ⟨rfl, q102_hh, (by decide : 0 + 0 ≤ _), (by decide : 0 + 0 ≤ _)⟩)
 dsimp only [Pt.U, Pt.locs, Pt.cells, Pt.slots] at X103 l103 y103 z103 st103 hQ103
 subst l103 y103 z103
 obtain ⟨rfl, N103q, q103_hh⟩ := hQ103
 have N103 := Fr.app N102 N103q
 have p104 : Go p.tables e below _ (T103.setTop (mkF m 11 #[.val (.ref a1), .val (.int (0 : Int32)), .val (.int (2 : Int32))] [(.ref a1)])) := fun t_ k_ => (gc (gcT p101 st102) st103) t_ (by
  refine XS.pop X103.here hx rfl (hb hby d17_9) rfl rfl ?_
  refine XS.aloadN X103.here hx rfl (hb hby d17_10) rfl rfl ?_
  exact k_)
 obtain ⟨cq105, kq105, q105a, q105b, q105c⟩ := isOf hZ q103_hh E1
 obtain ⟨_, _, ⟨T105, L105, k105, n105⟩, -, X105, ⟨Lc105, hQ105, l105, y105, z105⟩, st105⟩ := X103.virtualBack hx (y := (⟨"java/lang/String", "isLatin1", "()Z"⟩ : MethodName)) (z := (⟨"java/lang/String", "isLatin1", "()Z"⟩ : MethodName)) hown (mvT hZ (own_w hw 60 rfl)) (mvT hZ (own_w hw 61 rfl)) (notFace_of_selects (args := #[]) (mvT hZ (own_w hw 63 rfl))) (mvT hZ (own_w hw 63 rfl)) (mvT hZ (own_w hw 62 rfl)) (by decide) (backOf (W := 0) (rm12_1 l Z a0 hw [] a1 cs1 fm h0 n0 (Nat.le_trans Z0 (Keep.refl h0 []).1) O1 G F1) hZ (own_w hw 64 rfl) (own_w hw 8 rfl) (by decide) (by decide)) q105a q105c (g := (mkF m 11 #[.val (.ref a1), .val (.int (0 : Int32)), .val (.int (2 : Int32))] [(.ref a1)])) rfl (by rw [hml]; rfl) (Steps.refl _) (argsL := []) (rest := []) (lenOf pd3 rfl) rfl (by show 2 * 0 + _ ≤ _; exact Nat.le_of_eq rfl) (hb hby d17_11) (fun _ _ => ⟨rfl, q103_hh, (by decide : 0 + 0 ≤ _), (by decide : 0 + 0 ≤ _)⟩)
 dsimp only [Pt.U, Pt.locs, Pt.cells, Pt.slots] at X105 l105 y105 z105 st105 hQ105
 subst l105 y105 z105
 obtain ⟨rfl, N105q, q105_hh⟩ := hQ105
 have N105 := Fr.app N103 N105q
 have p106 : Go p.tables e below _ (T105.setTop (mkF m 22 #[.val (.ref a1), .val (.int (0 : Int32)), .val (.int (2 : Int32))] [(.ref a1)])) := fun t_ k_ => (gcT p104 st105) t_ (by
  refine XS.ifYes X105.here hx rfl (pc0 := 14) (pc' := 21) rfl (hb hby d17_14) rfl ((if0 _ _).trans (teq (by decide : ((0 : Int32) = (0 : Int32)))).1) (by decide) (by decide) ?_
  refine XS.aloadN X105.here hx rfl (hb hby d17_21) rfl rfl ?_
  exact k_)
 obtain ⟨T107, X107, e107, st107⟩ := getF X105 hx hZ hown (host := "") (Or.inl (own_w hw 33 rfl)) Via.refl q105_hh F2 (g := (mkF m 22 #[.val (.ref a1), .val (.int (0 : Int32)), .val (.int (2 : Int32))] [(.ref a1)])) rfl rfl (hb hby d17_22)
 have p108 : Go p.tables e below _ (T107.setTop (mkF m 27 #[.val (.ref a1), .val (.int (0 : Int32)), .val (.int (2 : Int32))] [(.int (2 : Int32)), (.int (0 : Int32)), (.ref bv)])) := fun t_ k_ => (gc p106 st107) t_ (by
  refine XS.iloadN X107.here hx rfl (hb hby d17_25) rfl ?_
  refine XS.iloadN X107.here hx rfl (hb hby d17_26) rfl ?_
  exact k_)
 obtain ⟨_, _, ⟨T109, L109, k109, n109⟩, -, X109, ⟨Lc109, hQ109, l109, y109, z109⟩, st109⟩ := Jvm.LawKit.callS X107 hx (y := (⟨"java/lang/StringUTF16", "codePointCount", "([BII)I"⟩ : MethodName)) hown (mvT hZ (own_w hw 132 rfl)) (mvT hZ (own_w hw 133 rfl)) (mvT hZ (own_w hw 22 rfl)) (mvT hZ (own_w hw 134 rfl)) (by decide) (backOf (W := 0) (rm29_2 l Z a0 hw [] bv k1 c0 c1 c2 c3 cs1 fm h0 n0 (Nat.le_trans Z0 (Keep.refl h0 []).1) O1 G V1 a0_ b0_ a1_ b1_ a2_ b2_ a3_ b3_) hZ (own_w hw 134 rfl) (own_w hw 22 rfl) (by decide) (by decide)) (g := (mkF m 27 #[.val (.ref a1), .val (.int (0 : Int32)), .val (.int (2 : Int32))] [(.int (2 : Int32)), (.int (0 : Int32)), (.ref bv)])) rfl (by rw [hml]; rfl) (argsL := [(.ref bv), (.int (0 : Int32)), (.int (2 : Int32))]) (rest := []) (lenOf pd20 rfl) rfl (by show 2 * 0 + _ ≤ _; exact Nat.le_of_eq rfl) (hb hby d17_27) (fun _ _ => ⟨rfl, e107, (by decide : 0 + 0 ≤ _), (by decide : 0 + 0 ≤ _)⟩)
 dsimp only [Pt.U, Pt.locs, Pt.cells, Pt.slots] at X109 l109 y109 z109 st109 hQ109
 subst l109 y109 z109
 obtain ⟨rfl, N109q, q109_hh⟩ := hQ109
 have N109 := Fr.app N105 N109q
 obtain ⟨fs, hr, hrun, hended, hW, hsame⟩ := X109.leave (v := some (.int (own_cp2 c0 c1 c2 c3))) (fun h => by rw [Bd.returns] at h; cases h)
 refine ⟨_, _, (gc p108 st109) _ (retI X109 hx Bd.returns (hb hby d17_30) hr), hrun, hended, _, _, rfl, ?_, ⟨_, rfl⟩, hW, hsame.mono (by decide) (by decide)⟩
 show Q17_1_2 Z a1 bv k1 c0 c1 c2 c3 cs1 fm h0 n0 _ T109.heap _
 rw [q109_hh]
 exact ⟨rfl, N109, rfl⟩
theorem ef_rm16_1_2 (m : MethodId) (a1 : Addr) (a2 : Addr) (bv : Addr) (k1 : ClassId) (c0 : Int32) (c1 : Int32) (c2 : Int32) (c3 : Int32) (cs1 : Int32) (fm : Value) : entryFrame m #[(.ref a1), (.int (2 : Int32))] 2 = mkF m 0 #[.val (.ref a1), .val (.int (2 : Int32))] [] := by first | (simp [entryFrame, mkF, argsToLocals, Value.category]; done) | rfl
def Q16_1_2 (Z : State) (a1 : Addr) (a2 : Addr) (bv : Addr) (k1 : ClassId) (c0 : Int32) (c1 : Int32) (c2 : Int32) (c3 : Int32) (cs1 : Int32) (fm : Value) (h0 : Heap) (n0 : Nat) (v : Option Value) (h : Heap) (L : List Loc) : Prop := v = some (.int ((own_cp2 c0 c1 c2 c3) + (1 : Int32))) ∧ Fr n0 L ∧ (h = h0)
set_option maxRecDepth 65536 in
set_option maxHeartbeats 40000000 in
theorem rm16_1_2 (l : Launch) (Z : State) (a0 : Array Value) (hw : ∀ d ∈ tables_1, d.before a0 Z = true) (ws : List Jvm.Cond) (a1 : Addr) (a2 : Addr) (bv : Addr) (k1 : ClassId) (c0 : Int32) (c1 : Int32) (c2 : Int32) (c3 : Int32) (cs1 : Int32) (fm : Value) (h0 : Heap) (n0 : Nat) (Z0 : n0 ≤ h0.size) (O1 : Old Z n0 h0) (G : own_G Z cs1 fm) (a0_ : ¬ (c0 < (0 : Int32))) (b0_ : ¬ ((65535 : Int32) < c0)) (a1_ : ¬ (c1 < (0 : Int32))) (b1_ : ¬ ((65535 : Int32) < c1)) (a2_ : ¬ (c2 < (0 : Int32))) (b2_ : ¬ ((65535 : Int32) < c2)) (a3_ : ¬ (c3 < (0 : Int32))) (b3_ : ¬ ((65535 : Int32) < c3)) (T1 : Fld Z h0 a1 "com/example/subsume/subsume/model/Lines" "text" "Ljava/lang/String;" (.ref a2)) (E1 : Exa Z h0 a2 "java/lang/String") (F1 : Fld Z h0 a2 "java/lang/String" "coder" "B" (.int (1 : Int32))) (F2 : Fld Z h0 a2 "java/lang/String" "value" "[B" (.ref bv)) (V1 : Arv Z h0 bv k1 .byte (8 : Int32) [(.int (own_x0 c0)), (.int (own_x8 c0)), (.int (own_x0 c1)), (.int (own_x8 c1)), (.int (own_x0 c2)), (.int (own_x8 c2)), (.int (own_x0 c3)), (.int (own_x8 c3))] (.int (0 : Int32))) :
  MetFree l (⟨"com/example/subsume/subsume/model/Lines", "character", "(I)I"⟩ : MethodName) (head1 (Jvm.Cond.code (⟨"com/example/subsume/subsume/model/Lines", "character", "(I)I"⟩ : MethodName) prog_16_method_2_code 2 (some .int) :: ws) ({ frames := 7, cells := 0, slots := 0, locals := 105 } : Room)) (fun a U => a = #[(.ref a1), (.int (2 : Int32))] ∧ Z.Warmed39 U.vm ∧ U.heap = h0) (fun _ _ _ _ _ => True) (fun _ U o U' => ∃ v L, o = .returned v ∧ Q16_1_2 Z a1 a2 bv k1 c0 c1 c2 c3 cs1 fm h0 n0 v U'.heap L ∧ FrameEnd U o U' L ({ frames := 7, cells := 0, slots := 0, locals := 105 } : Room).cells ({ frames := 7, cells := 0, slots := 0, locals := 105 } : Room).slots) := by
 refine MetFree.of_bodySF pn16 hisR ?_
 intro p e s m args below meth c s₁ Bd hml0 hP hK
 obtain ⟨rfl, hZ, hh⟩ := hP
 have hx := Bd.exec
 have hby := Bd.bytes
 have hml : c.maxLocals = 2 := hml0
 have hown : s.vm.findClass "com/example/subsume/subsume/model/Lines" = some m.cls := findClass_of_methodNamed Bd.named
 have hnm := (name_of_methodNamed Bd.named Bd.method).1
 have X0 : Stand p l e ({ frames := 7, cells := 0, slots := 0, locals := 105 } : Room) s m #[(.ref a1), (.int (2 : Int32))] below meth c s₁ [] 0 0 := Stand.of_body Bd
 have e0 : s₁.heap = h0 := by rw [← hh, Bd.state]; rfl
 have N0 := Fr.nil n0
 have p0 : Go p.tables e below (s₁.setTop (entryFrame m #[(.ref a1), (.int (2 : Int32))] 2)) (s₁.setTop (mkF m 0 #[.val (.ref a1), .val (.int (2 : Int32))] [])) := fun t_ k_ => castTop (ef_rm16_1_2 m a1 a2 bv k1 c0 c1 c2 c3 cs1 fm) k_
 have p101 : Go p.tables e below _ (s₁.setTop (mkF m 1 #[.val (.ref a1), .val (.int (2 : Int32))] [(.ref a1)])) := fun t_ k_ => p0 t_ (by
  refine XS.aloadN X0.here hx rfl (hb hby d16_0) rfl rfl ?_
  exact k_)
 obtain ⟨T102, X102, e102, st102⟩ := getF X0 hx hZ hown (host := "") (Or.inl (own_w hw 43 rfl)) Via.refl e0 T1 (g := (mkF m 1 #[.val (.ref a1), .val (.int (2 : Int32))] [(.ref a1)])) rfl rfl (hb hby d16_1)
 have p103 : Go p.tables e below _ (T102.setTop (mkF m 6 #[.val (.ref a1), .val (.int (2 : Int32))] [(.int (2 : Int32)), (.int (0 : Int32)), (.ref a2)])) := fun t_ k_ => (gc p101 st102) t_ (by
  refine XS.iconst X102.here hx rfl (hb hby d16_4) ?_
  refine XS.iloadN X102.here hx rfl (hb hby d16_5) rfl ?_
  exact k_)
 obtain ⟨cq104, kq104, q104a, q104b, q104c⟩ := isOf hZ e102 E1
 obtain ⟨_, _, ⟨T104, L104, k104, n104⟩, -, X104, ⟨Lc104, hQ104, l104, y104, z104⟩, st104⟩ := X102.virtualBack hx (y := (⟨"java/lang/String", "codePointCount", "(II)I"⟩ : MethodName)) (z := (⟨"java/lang/String", "codePointCount", "(II)I"⟩ : MethodName)) hown (mvT hZ (own_w hw 85 rfl)) (mvT hZ (own_w hw 86 rfl)) (notFace_of_selects (args := #[]) (mvT hZ (own_w hw 88 rfl))) (mvT hZ (own_w hw 88 rfl)) (mvT hZ (own_w hw 87 rfl)) (by decide) (backOf (W := 0) (rm17_1_2 l Z a0 hw [] a2 bv k1 c0 c1 c2 c3 cs1 fm h0 n0 (Nat.le_trans Z0 (Keep.refl h0 []).1) O1 G a0_ b0_ a1_ b1_ a2_ b2_ a3_ b3_ E1 F1 F2 V1) hZ (own_w hw 89 rfl) (own_w hw 8 rfl) (by decide) (by decide)) q104a q104c (g := (mkF m 6 #[.val (.ref a1), .val (.int (2 : Int32))] [(.int (2 : Int32)), (.int (0 : Int32)), (.ref a2)])) rfl (by rw [hml]; rfl) (Steps.refl _) (argsL := [(.int (0 : Int32)), (.int (2 : Int32))]) (rest := []) (lenOf pd19 rfl) rfl (by show 2 * 0 + _ ≤ _; exact Nat.le_of_eq rfl) (hb hby d16_6) (fun _ _ => ⟨rfl, e102, (by decide : 0 + 0 ≤ _), (by decide : 0 + 0 ≤ _)⟩)
 dsimp only [Pt.U, Pt.locs, Pt.cells, Pt.slots] at X104 l104 y104 z104 st104 hQ104
 subst l104 y104 z104
 obtain ⟨rfl, N104q, q104_hh⟩ := hQ104
 have N104 := Fr.app N0 N104q
 have p105 : Go p.tables e below _ (T104.setTop (mkF m 11 #[.val (.ref a1), .val (.int (2 : Int32))] [(.int ((own_cp2 c0 c1 c2 c3) + (1 : Int32)))])) := fun t_ k_ => (gcT p103 st104) t_ (by
  refine XS.iconst X104.here hx rfl (hb hby d16_9) ?_
  refine XS.iadd X104.here hx rfl (hb hby d16_10) rfl ?_
  exact k_)
 obtain ⟨fs, hr, hrun, hended, hW, hsame⟩ := X104.leave (v := some (.int ((own_cp2 c0 c1 c2 c3) + (1 : Int32)))) (fun h => by rw [Bd.returns] at h; cases h)
 refine ⟨_, _, p105 _ (retI X104 hx Bd.returns (hb hby d16_11) hr), hrun, hended, _, _, rfl, ?_, ⟨_, rfl⟩, hW, hsame.mono (by decide) (by decide)⟩
 show Q16_1_2 Z a1 a2 bv k1 c0 c1 c2 c3 cs1 fm h0 n0 _ T104.heap _
 rw [q104_hh]
 exact ⟨rfl, N104, rfl⟩
theorem ef_rm19_3 (m : MethodId)  : entryFrame m #[(.int (0 : Int32)), (.int (3 : Int32)), (.int (4 : Int32)), .null] 4 = mkF m 0 #[.val (.int (0 : Int32)), .val (.int (3 : Int32)), .val (.int (4 : Int32)), .val .null] [] := by first | (simp [entryFrame, mkF, argsToLocals, Value.category]; done) | rfl
def Q19_3 (Z : State)  (h0 : Heap) (n0 : Nat) (v : Option Value) (h : Heap) (L : List Loc) : Prop := v = some (.int (0 : Int32)) ∧ Fr n0 L ∧ (h = h0)
set_option maxRecDepth 65536 in
set_option maxHeartbeats 40000000 in
theorem rm19_3 (l : Launch) (Z : State) (a0 : Array Value) (hw : ∀ d ∈ tables_1, d.before a0 Z = true) (ws : List Jvm.Cond)  (h0 : Heap) (n0 : Nat) (Z0 : n0 ≤ h0.size) :
  MetFree l (⟨"jdk/internal/util/Preconditions", "checkFromToIndex", "(IIILjava/util/function/BiFunction;)I"⟩ : MethodName) (head1 (Jvm.Cond.code (⟨"jdk/internal/util/Preconditions", "checkFromToIndex", "(IIILjava/util/function/BiFunction;)I"⟩ : MethodName) jdk_41_method_12_code 4 (some .int) :: ws) ({ frames := 0, cells := 0, slots := 0, locals := 0 } : Room)) (fun a U => a = #[(.int (0 : Int32)), (.int (3 : Int32)), (.int (4 : Int32)), .null] ∧ Z.Warmed39 U.vm ∧ U.heap = h0) (fun _ _ _ _ _ => True) (fun _ U o U' => ∃ v L, o = .returned v ∧ Q19_3 Z  h0 n0 v U'.heap L ∧ FrameEnd U o U' L ({ frames := 0, cells := 0, slots := 0, locals := 0 } : Room).cells ({ frames := 0, cells := 0, slots := 0, locals := 0 } : Room).slots) := by
 refine MetFree.of_bodySF pn19 hisR ?_
 intro p e s m args below meth c s₁ Bd hml0 hP hK
 obtain ⟨rfl, hZ, hh⟩ := hP
 have hx := Bd.exec
 have hby := Bd.bytes
 have hml : c.maxLocals = 4 := hml0
 have hown : s.vm.findClass "jdk/internal/util/Preconditions" = some m.cls := findClass_of_methodNamed Bd.named
 have hnm := (name_of_methodNamed Bd.named Bd.method).1
 have X0 : Stand p l e ({ frames := 0, cells := 0, slots := 0, locals := 0 } : Room) s m #[(.int (0 : Int32)), (.int (3 : Int32)), (.int (4 : Int32)), .null] below meth c s₁ [] 0 0 := Stand.of_body Bd
 have e0 : s₁.heap = h0 := by rw [← hh, Bd.state]; rfl
 have N0 := Fr.nil n0
 have p0 : Go p.tables e below (s₁.setTop (entryFrame m #[(.int (0 : Int32)), (.int (3 : Int32)), (.int (4 : Int32)), .null] 4)) (s₁.setTop (mkF m 0 #[.val (.int (0 : Int32)), .val (.int (3 : Int32)), .val (.int (4 : Int32)), .val .null] [])) := fun t_ k_ => castTop (ef_rm19_3 m ) k_
 have p101 : Go p.tables e below _ (s₁.setTop (mkF m 23 #[.val (.int (0 : Int32)), .val (.int (3 : Int32)), .val (.int (4 : Int32)), .val .null] [(.int (0 : Int32))])) := fun t_ k_ => p0 t_ (by
  refine XS.iloadN X0.here hx rfl (hb hby d19_0) rfl ?_
  refine XS.ifNo X0.here hx rfl (hb hby d19_1) rfl ((if0 _ _).trans (flt (by decide : ¬ ((0 : Int32) < (0 : Int32)))).1) ?_
  refine XS.iloadN X0.here hx rfl (hb hby d19_4) rfl ?_
  refine XS.iloadN X0.here hx rfl (hb hby d19_5) rfl ?_
  refine XS.icmpNo X0.here hx rfl (hb hby d19_6) rfl (flt (by decide : ¬ ((3 : Int32) < (0 : Int32)))).2.2.1 ?_
  refine XS.iloadN X0.here hx rfl (hb hby d19_9) rfl ?_
  refine XS.iloadN X0.here hx rfl (hb hby d19_10) rfl ?_
  refine XS.icmpYes X0.here hx rfl (pc0 := 11) (pc' := 22) rfl (hb hby d19_11) rfl (flt (by decide : ¬ ((4 : Int32) < (3 : Int32)))).2.2.2 (by decide) (by decide) ?_
  refine XS.iloadN X0.here hx rfl (hb hby d19_22) rfl ?_
  exact k_)
 obtain ⟨fs, hr, hrun, hended, hW, hsame⟩ := X0.leave (v := some (.int (0 : Int32))) (fun h => by rw [Bd.returns] at h; cases h)
 refine ⟨_, _, p101 _ (retI X0 hx Bd.returns (hb hby d19_23) hr), hrun, hended, _, _, rfl, ?_, ⟨_, rfl⟩, hW, hsame.mono (by decide) (by decide)⟩
 show Q19_3 Z  h0 n0 _ s₁.heap _
 rw [e0]
 exact ⟨rfl, N0, rfl⟩
theorem ef_rm18_3 (m : MethodId)  : entryFrame m #[(.int (0 : Int32)), (.int (3 : Int32)), (.int (4 : Int32))] 3 = mkF m 0 #[.val (.int (0 : Int32)), .val (.int (3 : Int32)), .val (.int (4 : Int32))] [] := by first | (simp [entryFrame, mkF, argsToLocals, Value.category]; done) | rfl
def Q18_3 (Z : State)  (h0 : Heap) (n0 : Nat) (v : Option Value) (h : Heap) (L : List Loc) : Prop := v = some (.int (0 : Int32)) ∧ Fr n0 L ∧ (h = h0)
set_option maxRecDepth 65536 in
set_option maxHeartbeats 40000000 in
theorem rm18_3 (l : Launch) (Z : State) (a0 : Array Value) (hw : ∀ d ∈ tables_1, d.before a0 Z = true) (ws : List Jvm.Cond)  (h0 : Heap) (n0 : Nat) (Z0 : n0 ≤ h0.size) :
  MetFree l (⟨"java/util/Objects", "checkFromToIndex", "(III)I"⟩ : MethodName) (head1 (Jvm.Cond.code (⟨"java/util/Objects", "checkFromToIndex", "(III)I"⟩ : MethodName) jdk_31_method_18_code 3 (some .int) :: ws) ({ frames := 1, cells := 0, slots := 0, locals := 15 } : Room)) (fun a U => a = #[(.int (0 : Int32)), (.int (3 : Int32)), (.int (4 : Int32))] ∧ Z.Warmed39 U.vm ∧ U.heap = h0) (fun _ _ _ _ _ => True) (fun _ U o U' => ∃ v L, o = .returned v ∧ Q18_3 Z  h0 n0 v U'.heap L ∧ FrameEnd U o U' L ({ frames := 1, cells := 0, slots := 0, locals := 15 } : Room).cells ({ frames := 1, cells := 0, slots := 0, locals := 15 } : Room).slots) := by
 refine MetFree.of_bodySF pn18 hisR ?_
 intro p e s m args below meth c s₁ Bd hml0 hP hK
 obtain ⟨rfl, hZ, hh⟩ := hP
 have hx := Bd.exec
 have hby := Bd.bytes
 have hml : c.maxLocals = 3 := hml0
 have hown : s.vm.findClass "java/util/Objects" = some m.cls := findClass_of_methodNamed Bd.named
 have hnm := (name_of_methodNamed Bd.named Bd.method).1
 have X0 : Stand p l e ({ frames := 1, cells := 0, slots := 0, locals := 15 } : Room) s m #[(.int (0 : Int32)), (.int (3 : Int32)), (.int (4 : Int32))] below meth c s₁ [] 0 0 := Stand.of_body Bd
 have e0 : s₁.heap = h0 := by rw [← hh, Bd.state]; rfl
 have N0 := Fr.nil n0
 have p0 : Go p.tables e below (s₁.setTop (entryFrame m #[(.int (0 : Int32)), (.int (3 : Int32)), (.int (4 : Int32))] 3)) (s₁.setTop (mkF m 0 #[.val (.int (0 : Int32)), .val (.int (3 : Int32)), .val (.int (4 : Int32))] [])) := fun t_ k_ => castTop (ef_rm18_3 m ) k_
 have p101 : Go p.tables e below _ (s₁.setTop (mkF m 4 #[.val (.int (0 : Int32)), .val (.int (3 : Int32)), .val (.int (4 : Int32))] [.null, (.int (4 : Int32)), (.int (3 : Int32)), (.int (0 : Int32))])) := fun t_ k_ => p0 t_ (by
  refine XS.iloadN X0.here hx rfl (hb hby d18_0) rfl ?_
  refine XS.iloadN X0.here hx rfl (hb hby d18_1) rfl ?_
  refine XS.iloadN X0.here hx rfl (hb hby d18_2) rfl ?_
  refine XS.aconstNull X0.here hx rfl (hb hby d18_3) ?_
  exact k_)
 obtain ⟨_, _, ⟨T102, L102, k102, n102⟩, -, X102, ⟨Lc102, hQ102, l102, y102, z102⟩, st102⟩ := Jvm.LawKit.callS X0 hx (y := (⟨"jdk/internal/util/Preconditions", "checkFromToIndex", "(IIILjava/util/function/BiFunction;)I"⟩ : MethodName)) hown (mvT hZ (own_w hw 95 rfl)) (mvT hZ (own_w hw 96 rfl)) (mvT hZ (own_w hw 73 rfl)) (mvT hZ (own_w hw 97 rfl)) (by decide) (backOf (W := 0) (rm19_3 l Z a0 hw []  h0 n0 (Nat.le_trans Z0 (Keep.refl h0 []).1) ) hZ (own_w hw 97 rfl) (own_w hw 73 rfl) (by decide) (by decide)) (g := (mkF m 4 #[.val (.int (0 : Int32)), .val (.int (3 : Int32)), .val (.int (4 : Int32))] [.null, (.int (4 : Int32)), (.int (3 : Int32)), (.int (0 : Int32))])) rfl (by rw [hml]; rfl) (argsL := [(.int (0 : Int32)), (.int (3 : Int32)), (.int (4 : Int32)), .null]) (rest := []) (lenOf pd16 rfl) rfl (by show 2 * 0 + _ ≤ _; exact Nat.le_of_eq rfl) (hb hby d18_4) (fun _ _ => ⟨rfl, e0, (by decide : 0 + 0 ≤ _), (by decide : 0 + 0 ≤ _)⟩)
 dsimp only [Pt.U, Pt.locs, Pt.cells, Pt.slots] at X102 l102 y102 z102 st102 hQ102
 subst l102 y102 z102
 obtain ⟨rfl, N102q, q102_hh⟩ := hQ102
 have N102 := Fr.app N0 N102q
 obtain ⟨fs, hr, hrun, hended, hW, hsame⟩ := X102.leave (v := some (.int (0 : Int32))) (fun h => by rw [Bd.returns] at h; cases h)
 refine ⟨_, _, (gc p101 st102) _ (retI X102 hx Bd.returns (hb hby d18_7) hr), hrun, hended, _, _, rfl, ?_, ⟨_, rfl⟩, hW, hsame.mono (by decide) (by decide)⟩
 show Q18_3 Z  h0 n0 _ T102.heap _
 rw [q102_hh]
 exact ⟨rfl, N102, rfl⟩
set_option maxRecDepth 65536 in
set_option maxHeartbeats 40000000 in
theorem cp3_3 {p : Program} {l : Launch} {e : Env} {s : State} {m : MethodId} {args : Array Value} {below : List Frame} {meth : Method} {c : Code} (Z : State) (a0 : Array Value) (hx : p.tables.exec = Jvm.exec) (hZ : Z.Warmed39 s.vm) (hw : ∀ d ∈ tables_1, d.before a0 Z = true) (hby : c.code = jdk_52_method_11_code) (hml : c.maxLocals = 6) (hown : s.vm.findClass "java/lang/StringUTF16" = some m.cls) (a1 : Addr) (k1 : ClassId) (c0 c1 c2 c3 : Int32) (cs1 : Int32) (fm : Value) (h0 : Heap) (n0 : Nat) (Z0 : n0 ≤ h0.size) (O1 : Old Z n0 h0) (G : own_G Z cs1 fm) (V1 : Arv Z h0 a1 k1 .byte (8 : Int32) [(.int (own_x0 c0)), (.int (own_x8 c0)), (.int (own_x0 c1)), (.int (own_x8 c1)), (.int (own_x0 c2)), (.int (own_x8 c2)), (.int (own_x0 c3)), (.int (own_x8 c3))] (.int (0 : Int32))) (a0_ : ¬ (c0 < (0 : Int32))) (b0_ : ¬ ((65535 : Int32) < c0)) (a1_ : ¬ (c1 < (0 : Int32))) (b1_ : ¬ ((65535 : Int32) < c1)) (a2_ : ¬ (c2 < (0 : Int32))) (b2_ : ¬ ((65535 : Int32) < c2)) (a3_ : ¬ (c3 < (0 : Int32))) (b3_ : ¬ ((65535 : Int32) < c3)) (nn : Int32) (T : State) (locs : List Loc) (X0 : Stand p l e ({ frames := 4, cells := 0, slots := 0, locals := 60 } : Room) s m args below meth c T locs 0 0) (e0 : T.heap = h0) (N0 : Fr n0 locs) : ∃ (T' : State) (L' : List Loc) (j : Int32), Stand p l e ({ frames := 4, cells := 0, slots := 0, locals := 60 } : Room) s m args below meth c T' L' 0 0 ∧ T'.heap = h0 ∧ Fr n0 L' ∧ Go p.tables e below (T.setTop (mkF m 44 #[.val (.ref a1), .val (.int (0 : Int32)), .val (.int (3 : Int32)), .val (.int (0 : Int32)), .val (.int nn), .val (.int (3 : Int32))] [])) (T'.setTop (mkF m 88 #[.val (.ref a1), .val (.int (0 : Int32)), .val (.int (3 : Int32)), .val (.int (0 : Int32)), .val (.int (nn)), .val (.int j)] [])) := by
 have p0 : Go p.tables e below (T.setTop (mkF m 44 #[.val (.ref a1), .val (.int (0 : Int32)), .val (.int (3 : Int32)), .val (.int (0 : Int32)), .val (.int nn), .val (.int (3 : Int32))] [])) (T.setTop (mkF m 44 #[.val (.ref a1), .val (.int (0 : Int32)), .val (.int (3 : Int32)), .val (.int (0 : Int32)), .val (.int nn), .val (.int (3 : Int32))] [])) := fun t_ k_ => k_
 have p101 : Go p.tables e below _ (T.setTop (mkF m 88 #[.val (.ref a1), .val (.int (0 : Int32)), .val (.int (3 : Int32)), .val (.int (0 : Int32)), .val (.int nn), .val (.int (3 : Int32))] [])) := fun t_ k_ => p0 t_ (by
  refine XS.iload X0.here hx rfl (hb hby d30_44) rfl ?_
  refine XS.iloadN X0.here hx rfl (hb hby d30_46) rfl ?_
  refine XS.iconst X0.here hx rfl (hb hby d30_47) ?_
  refine XS.isub X0.here hx rfl (hb hby d30_48) rfl ?_
  refine XS.icmpYes X0.here hx rfl (pc0 := 49) (pc' := 88) rfl (hb hby d30_49) rfl (flt (by decide : ¬ ((3 : Int32) < (2 : Int32)))).2.1 (by decide) (by decide) ?_
  exact k_)
 exact ⟨_, _, _, X0, e0, N0, p101⟩
set_option maxRecDepth 65536 in
set_option maxHeartbeats 40000000 in
theorem cp3_2 {p : Program} {l : Launch} {e : Env} {s : State} {m : MethodId} {args : Array Value} {below : List Frame} {meth : Method} {c : Code} (Z : State) (a0 : Array Value) (hx : p.tables.exec = Jvm.exec) (hZ : Z.Warmed39 s.vm) (hw : ∀ d ∈ tables_1, d.before a0 Z = true) (hby : c.code = jdk_52_method_11_code) (hml : c.maxLocals = 6) (hown : s.vm.findClass "java/lang/StringUTF16" = some m.cls) (a1 : Addr) (k1 : ClassId) (c0 c1 c2 c3 : Int32) (cs1 : Int32) (fm : Value) (h0 : Heap) (n0 : Nat) (Z0 : n0 ≤ h0.size) (O1 : Old Z n0 h0) (G : own_G Z cs1 fm) (V1 : Arv Z h0 a1 k1 .byte (8 : Int32) [(.int (own_x0 c0)), (.int (own_x8 c0)), (.int (own_x0 c1)), (.int (own_x8 c1)), (.int (own_x0 c2)), (.int (own_x8 c2)), (.int (own_x0 c3)), (.int (own_x8 c3))] (.int (0 : Int32))) (a0_ : ¬ (c0 < (0 : Int32))) (b0_ : ¬ ((65535 : Int32) < c0)) (a1_ : ¬ (c1 < (0 : Int32))) (b1_ : ¬ ((65535 : Int32) < c1)) (a2_ : ¬ (c2 < (0 : Int32))) (b2_ : ¬ ((65535 : Int32) < c2)) (a3_ : ¬ (c3 < (0 : Int32))) (b3_ : ¬ ((65535 : Int32) < c3)) (nn : Int32) (T : State) (locs : List Loc) (X0 : Stand p l e ({ frames := 4, cells := 0, slots := 0, locals := 60 } : Room) s m args below meth c T locs 0 0) (e0 : T.heap = h0) (N0 : Fr n0 locs) : ∃ (T' : State) (L' : List Loc) (j : Int32), Stand p l e ({ frames := 4, cells := 0, slots := 0, locals := 60 } : Room) s m args below meth c T' L' 0 0 ∧ T'.heap = h0 ∧ Fr n0 L' ∧ Go p.tables e below (T.setTop (mkF m 44 #[.val (.ref a1), .val (.int (0 : Int32)), .val (.int (3 : Int32)), .val (.int (0 : Int32)), .val (.int nn), .val (.int (2 : Int32))] [])) (T'.setTop (mkF m 88 #[.val (.ref a1), .val (.int (0 : Int32)), .val (.int (3 : Int32)), .val (.int (0 : Int32)), .val (.int (nn)), .val (.int j)] [])) := by
 have p0 : Go p.tables e below (T.setTop (mkF m 44 #[.val (.ref a1), .val (.int (0 : Int32)), .val (.int (3 : Int32)), .val (.int (0 : Int32)), .val (.int nn), .val (.int (2 : Int32))] [])) (T.setTop (mkF m 44 #[.val (.ref a1), .val (.int (0 : Int32)), .val (.int (3 : Int32)), .val (.int (0 : Int32)), .val (.int nn), .val (.int (2 : Int32))] [])) := fun t_ k_ => k_
 have p101 : Go p.tables e below _ (T.setTop (mkF m 88 #[.val (.ref a1), .val (.int (0 : Int32)), .val (.int (3 : Int32)), .val (.int (0 : Int32)), .val (.int nn), .val (.int (2 : Int32))] [])) := fun t_ k_ => p0 t_ (by
  refine XS.iload X0.here hx rfl (hb hby d30_44) rfl ?_
  refine XS.iloadN X0.here hx rfl (hb hby d30_46) rfl ?_
  refine XS.iconst X0.here hx rfl (hb hby d30_47) ?_
  refine XS.isub X0.here hx rfl (hb hby d30_48) rfl ?_
  refine XS.icmpYes X0.here hx rfl (pc0 := 49) (pc' := 88) rfl (hb hby d30_49) rfl (flt (by decide : ¬ ((2 : Int32) < (2 : Int32)))).2.1 (by decide) (by decide) ?_
  exact k_)
 exact ⟨_, _, _, X0, e0, N0, p101⟩
set_option maxRecDepth 65536 in
set_option maxHeartbeats 40000000 in
theorem cp3_1 {p : Program} {l : Launch} {e : Env} {s : State} {m : MethodId} {args : Array Value} {below : List Frame} {meth : Method} {c : Code} (Z : State) (a0 : Array Value) (hx : p.tables.exec = Jvm.exec) (hZ : Z.Warmed39 s.vm) (hw : ∀ d ∈ tables_1, d.before a0 Z = true) (hby : c.code = jdk_52_method_11_code) (hml : c.maxLocals = 6) (hown : s.vm.findClass "java/lang/StringUTF16" = some m.cls) (a1 : Addr) (k1 : ClassId) (c0 c1 c2 c3 : Int32) (cs1 : Int32) (fm : Value) (h0 : Heap) (n0 : Nat) (Z0 : n0 ≤ h0.size) (O1 : Old Z n0 h0) (G : own_G Z cs1 fm) (V1 : Arv Z h0 a1 k1 .byte (8 : Int32) [(.int (own_x0 c0)), (.int (own_x8 c0)), (.int (own_x0 c1)), (.int (own_x8 c1)), (.int (own_x0 c2)), (.int (own_x8 c2)), (.int (own_x0 c3)), (.int (own_x8 c3))] (.int (0 : Int32))) (a0_ : ¬ (c0 < (0 : Int32))) (b0_ : ¬ ((65535 : Int32) < c0)) (a1_ : ¬ (c1 < (0 : Int32))) (b1_ : ¬ ((65535 : Int32) < c1)) (a2_ : ¬ (c2 < (0 : Int32))) (b2_ : ¬ ((65535 : Int32) < c2)) (a3_ : ¬ (c3 < (0 : Int32))) (b3_ : ¬ ((65535 : Int32) < c3)) (nn : Int32) (T : State) (locs : List Loc) (X0 : Stand p l e ({ frames := 4, cells := 0, slots := 0, locals := 60 } : Room) s m args below meth c T locs 0 0) (e0 : T.heap = h0) (N0 : Fr n0 locs) : ∃ (T' : State) (L' : List Loc) (j : Int32), Stand p l e ({ frames := 4, cells := 0, slots := 0, locals := 60 } : Room) s m args below meth c T' L' 0 0 ∧ T'.heap = h0 ∧ Fr n0 L' ∧ Go p.tables e below (T.setTop (mkF m 44 #[.val (.ref a1), .val (.int (0 : Int32)), .val (.int (3 : Int32)), .val (.int (0 : Int32)), .val (.int nn), .val (.int (1 : Int32))] [])) (T'.setTop (mkF m 88 #[.val (.ref a1), .val (.int (0 : Int32)), .val (.int (3 : Int32)), .val (.int (0 : Int32)), .val (.int (nn - own_pr c1 c2)), .val (.int j)] [])) := by
 have p0 : Go p.tables e below (T.setTop (mkF m 44 #[.val (.ref a1), .val (.int (0 : Int32)), .val (.int (3 : Int32)), .val (.int (0 : Int32)), .val (.int nn), .val (.int (1 : Int32))] [])) (T.setTop (mkF m 44 #[.val (.ref a1), .val (.int (0 : Int32)), .val (.int (3 : Int32)), .val (.int (0 : Int32)), .val (.int nn), .val (.int (1 : Int32))] [])) := fun t_ k_ => k_
 have p101 : Go p.tables e below _ (T.setTop (mkF m 58 #[.val (.ref a1), .val (.int (0 : Int32)), .val (.int (3 : Int32)), .val (.int (0 : Int32)), .val (.int nn), .val (.int (2 : Int32))] [(.int (1 : Int32)), (.ref a1)])) := fun t_ k_ => p0 t_ (by
  refine XS.iload X0.here hx rfl (hb hby d30_44) rfl ?_
  refine XS.iloadN X0.here hx rfl (hb hby d30_46) rfl ?_
  refine XS.iconst X0.here hx rfl (hb hby d30_47) ?_
  refine XS.isub X0.here hx rfl (hb hby d30_48) rfl ?_
  refine XS.icmpNo X0.here hx rfl (hb hby d30_49) rfl (tlt (by decide : ((1 : Int32) < (2 : Int32)))).2.1 ?_
  refine XS.aloadN X0.here hx rfl (hb hby d30_52) rfl rfl ?_
  refine XS.iload X0.here hx rfl (hb hby d30_53) rfl ?_
  refine XS.iinc X0.here hx rfl (hb hby d30_55) rfl (l' := #[.val (.ref a1), .val (.int (0 : Int32)), .val (.int (3 : Int32)), .val (.int (0 : Int32)), .val (.int nn), .val (.int (2 : Int32))]) rfl ?_
  exact k_)
 obtain ⟨_, _, ⟨T102, L102, k102, n102⟩, -, X102, ⟨Lc102, hQ102, l102, y102, z102⟩, st102⟩ := Jvm.LawKit.callS X0 hx (y := (⟨"java/lang/StringUTF16", "getChar", "([BI)C"⟩ : MethodName)) hown (mvT hZ (own_w hw 119 rfl)) (mvT hZ (own_w hw 120 rfl)) (mvT hZ (own_w hw 22 rfl)) (mvT hZ (own_w hw 121 rfl)) (by decide) (backOf (W := 0) (rm25 l Z a0 hw [] a1 (1 : Int32) k1 (8 : Int32) [(.int (own_x0 c0)), (.int (own_x8 c0)), (.int (own_x0 c1)), (.int (own_x8 c1)), (.int (own_x0 c2)), (.int (own_x8 c2)), (.int (own_x0 c3)), (.int (own_x8 c3))] (own_x0 c1) (own_x8 c1) c1 cs1 fm h0 n0 (Nat.le_trans Z0 (Keep.refl h0 []).1) O1 G V1 (by decide) (by decide) rfl rfl (own_l16 c1 a1_ b1_)) hZ (own_w hw 121 rfl) (own_w hw 22 rfl) (by decide) (by decide)) (g := (mkF m 58 #[.val (.ref a1), .val (.int (0 : Int32)), .val (.int (3 : Int32)), .val (.int (0 : Int32)), .val (.int nn), .val (.int (2 : Int32))] [(.int (1 : Int32)), (.ref a1)])) rfl (by rw [hml]; rfl) (argsL := [(.ref a1), (.int (1 : Int32))]) (rest := []) (lenOf pd4 rfl) rfl (by show 2 * 0 + _ ≤ _; exact Nat.le_of_eq rfl) (hb hby d30_58) (fun _ _ => ⟨rfl, e0, (by decide : 0 + 0 ≤ _), (by decide : 0 + 0 ≤ _)⟩)
 dsimp only [Pt.U, Pt.locs, Pt.cells, Pt.slots] at X102 l102 y102 z102 st102 hQ102
 subst l102 y102 z102
 obtain ⟨rfl, N102q, q102_hh⟩ := hQ102
 have N102 := Fr.app N0 N102q
 obtain ⟨_, _, ⟨T103, L103, k103, n103⟩, -, X103, ⟨Lc103, hQ103, l103, y103, z103⟩, st103⟩ := Jvm.LawKit.callS X102 hx (y := (⟨"java/lang/Character", "isHighSurrogate", "(C)Z"⟩ : MethodName)) hown (mvT hZ (own_w hw 138 rfl)) (mvT hZ (own_w hw 139 rfl)) (mvT hZ (own_w hw 140 rfl)) (mvT hZ (own_w hw 141 rfl)) (by decide) (backOf (W := 0) (rm31 l Z a0 hw [] c1 h0 n0 (Nat.le_trans Z0 (Keep.refl h0 []).1) ) hZ (own_w hw 141 rfl) (own_w hw 140 rfl) (by decide) (by decide)) (g := (mkF m 61 #[.val (.ref a1), .val (.int (0 : Int32)), .val (.int (3 : Int32)), .val (.int (0 : Int32)), .val (.int nn), .val (.int (2 : Int32))] [(.int c1)])) rfl (by rw [hml]; rfl) (argsL := [(.int c1)]) (rest := []) (lenOf pd21 rfl) rfl (by show 2 * 0 + _ ≤ _; exact Nat.le_of_eq rfl) (hb hby d30_61) (fun _ _ => ⟨rfl, q102_hh, (by decide : 0 + 0 ≤ _), (by decide : 0 + 0 ≤ _)⟩)
 dsimp only [Pt.U, Pt.locs, Pt.cells, Pt.slots] at X103 l103 y103 z103 st103 hQ103
 subst l103 y103 z103
 obtain ⟨rfl, N103q, q103_hh⟩ := hQ103
 have N103 := Fr.app N102 N103q
 by_cases c104 : (own_hi c1) = (0 : Int32)
 ·have p105 : Go p.tables e below _ (T103.setTop (mkF m 44 #[.val (.ref a1), .val (.int (0 : Int32)), .val (.int (3 : Int32)), .val (.int (0 : Int32)), .val (.int nn), .val (.int (2 : Int32))] [])) := fun t_ k_ => (gc (gc p101 st102) st103) t_ (by
   refine XS.ifYes X103.here hx rfl (pc0 := 64) (pc' := 44) rfl (hb hby d30_64) rfl ((if0 _ _).trans (teq c104).1) (by decide) (by decide) ?_
   exact k_)
  obtain ⟨T', L', j, X', e', N', g'⟩ := cp3_2 Z a0 hx hZ hw hby hml hown a1 k1 c0 c1 c2 c3 cs1 fm h0 n0 Z0 O1 G V1 a0_ b0_ a1_ b1_ a2_ b2_ a3_ b3_ nn T103 _ X103 q103_hh N103
  refine ⟨T', L', j, X', e', N', ?_⟩
  have eq : nn - own_pr c1 c2 = nn := by simp_all [own_pr, Int32.sub_eq_add_neg]
  rw [eq]; exact fun t_ k_ => p105 t_ (g' t_ k_)
 ·have p106 : Go p.tables e below _ (T103.setTop (mkF m 67 #[.val (.ref a1), .val (.int (0 : Int32)), .val (.int (3 : Int32)), .val (.int (0 : Int32)), .val (.int nn), .val (.int (2 : Int32))] [])) := fun t_ k_ => (gc (gc p101 st102) st103) t_ (by
   refine XS.ifNo X103.here hx rfl (hb hby d30_64) rfl ((if0 _ _).trans (feq c104).1) ?_
   exact k_)
  have p107 : Go p.tables e below _ (T103.setTop (mkF m 70 #[.val (.ref a1), .val (.int (0 : Int32)), .val (.int (3 : Int32)), .val (.int (0 : Int32)), .val (.int nn), .val (.int (2 : Int32))] [(.int (2 : Int32)), (.ref a1)])) := fun t_ k_ => p106 t_ (by
   refine XS.aloadN X103.here hx rfl (hb hby d30_67) rfl rfl ?_
   refine XS.iload X103.here hx rfl (hb hby d30_68) rfl ?_
   exact k_)
  obtain ⟨_, _, ⟨T108, L108, k108, n108⟩, -, X108, ⟨Lc108, hQ108, l108, y108, z108⟩, st108⟩ := Jvm.LawKit.callS X103 hx (y := (⟨"java/lang/StringUTF16", "getChar", "([BI)C"⟩ : MethodName)) hown (mvT hZ (own_w hw 119 rfl)) (mvT hZ (own_w hw 120 rfl)) (mvT hZ (own_w hw 22 rfl)) (mvT hZ (own_w hw 121 rfl)) (by decide) (backOf (W := 0) (rm25 l Z a0 hw [] a1 (2 : Int32) k1 (8 : Int32) [(.int (own_x0 c0)), (.int (own_x8 c0)), (.int (own_x0 c1)), (.int (own_x8 c1)), (.int (own_x0 c2)), (.int (own_x8 c2)), (.int (own_x0 c3)), (.int (own_x8 c3))] (own_x0 c2) (own_x8 c2) c2 cs1 fm h0 n0 (Nat.le_trans Z0 (Keep.refl h0 []).1) O1 G V1 (by decide) (by decide) rfl rfl (own_l16 c2 a2_ b2_)) hZ (own_w hw 121 rfl) (own_w hw 22 rfl) (by decide) (by decide)) (g := (mkF m 70 #[.val (.ref a1), .val (.int (0 : Int32)), .val (.int (3 : Int32)), .val (.int (0 : Int32)), .val (.int nn), .val (.int (2 : Int32))] [(.int (2 : Int32)), (.ref a1)])) rfl (by rw [hml]; rfl) (argsL := [(.ref a1), (.int (2 : Int32))]) (rest := []) (lenOf pd4 rfl) rfl (by show 2 * 0 + _ ≤ _; exact Nat.le_of_eq rfl) (hb hby d30_70) (fun _ _ => ⟨rfl, q103_hh, (by decide : 0 + 0 ≤ _), (by decide : 0 + 0 ≤ _)⟩)
  dsimp only [Pt.U, Pt.locs, Pt.cells, Pt.slots] at X108 l108 y108 z108 st108 hQ108
  subst l108 y108 z108
  obtain ⟨rfl, N108q, q108_hh⟩ := hQ108
  have N108 := Fr.app N103 N108q
  obtain ⟨_, _, ⟨T109, L109, k109, n109⟩, -, X109, ⟨Lc109, hQ109, l109, y109, z109⟩, st109⟩ := Jvm.LawKit.callS X108 hx (y := (⟨"java/lang/Character", "isLowSurrogate", "(C)Z"⟩ : MethodName)) hown (mvT hZ (own_w hw 144 rfl)) (mvT hZ (own_w hw 145 rfl)) (mvT hZ (own_w hw 140 rfl)) (mvT hZ (own_w hw 146 rfl)) (by decide) (backOf (W := 0) (rm32 l Z a0 hw [] c2 h0 n0 (Nat.le_trans Z0 (Keep.refl h0 []).1) ) hZ (own_w hw 146 rfl) (own_w hw 140 rfl) (by decide) (by decide)) (g := (mkF m 73 #[.val (.ref a1), .val (.int (0 : Int32)), .val (.int (3 : Int32)), .val (.int (0 : Int32)), .val (.int nn), .val (.int (2 : Int32))] [(.int c2)])) rfl (by rw [hml]; rfl) (argsL := [(.int c2)]) (rest := []) (lenOf pd21 rfl) rfl (by show 2 * 0 + _ ≤ _; exact Nat.le_of_eq rfl) (hb hby d30_73) (fun _ _ => ⟨rfl, q108_hh, (by decide : 0 + 0 ≤ _), (by decide : 0 + 0 ≤ _)⟩)
  dsimp only [Pt.U, Pt.locs, Pt.cells, Pt.slots] at X109 l109 y109 z109 st109 hQ109
  subst l109 y109 z109
  obtain ⟨rfl, N109q, q109_hh⟩ := hQ109
  have N109 := Fr.app N108 N109q
  by_cases c110 : (own_lo c2) = (0 : Int32)
  ·have p111 : Go p.tables e below _ (T109.setTop (mkF m 44 #[.val (.ref a1), .val (.int (0 : Int32)), .val (.int (3 : Int32)), .val (.int (0 : Int32)), .val (.int nn), .val (.int (2 : Int32))] [])) := fun t_ k_ => (gc (gc p107 st108) st109) t_ (by
    refine XS.ifYes X109.here hx rfl (pc0 := 76) (pc' := 44) rfl (hb hby d30_76) rfl ((if0 _ _).trans (teq c110).1) (by decide) (by decide) ?_
    exact k_)
   obtain ⟨T', L', j, X', e', N', g'⟩ := cp3_2 Z a0 hx hZ hw hby hml hown a1 k1 c0 c1 c2 c3 cs1 fm h0 n0 Z0 O1 G V1 a0_ b0_ a1_ b1_ a2_ b2_ a3_ b3_ nn T109 _ X109 q109_hh N109
   refine ⟨T', L', j, X', e', N', ?_⟩
   have eq : nn - own_pr c1 c2 = nn := by simp_all [own_pr, Int32.sub_eq_add_neg]
   rw [eq]; exact fun t_ k_ => p111 t_ (g' t_ k_)
  ·have p112 : Go p.tables e below _ (T109.setTop (mkF m 79 #[.val (.ref a1), .val (.int (0 : Int32)), .val (.int (3 : Int32)), .val (.int (0 : Int32)), .val (.int nn), .val (.int (2 : Int32))] [])) := fun t_ k_ => (gc (gc p107 st108) st109) t_ (by
    refine XS.ifNo X109.here hx rfl (hb hby d30_76) rfl ((if0 _ _).trans (feq c110).1) ?_
    exact k_)
   have p113 : Go p.tables e below _ (T109.setTop (mkF m 44 #[.val (.ref a1), .val (.int (0 : Int32)), .val (.int (3 : Int32)), .val (.int (0 : Int32)), .val (.int (nn + (-1 : Int32))), .val (.int (3 : Int32))] [])) := fun t_ k_ => p112 t_ (by
    refine XS.iinc X109.here hx rfl (hb hby d30_79) rfl (l' := #[.val (.ref a1), .val (.int (0 : Int32)), .val (.int (3 : Int32)), .val (.int (0 : Int32)), .val (.int (nn + (-1 : Int32))), .val (.int (2 : Int32))]) rfl ?_
    refine XS.iinc X109.here hx rfl (hb hby d30_82) rfl (l' := #[.val (.ref a1), .val (.int (0 : Int32)), .val (.int (3 : Int32)), .val (.int (0 : Int32)), .val (.int (nn + (-1 : Int32))), .val (.int (3 : Int32))]) rfl ?_
    refine XS.goto X109.here hx rfl (pc0 := 85) (pc' := 44) rfl (hb hby d30_85) (by decide) (by decide) ?_
    exact k_)
   obtain ⟨T', L', j, X', e', N', g'⟩ := cp3_3 Z a0 hx hZ hw hby hml hown a1 k1 c0 c1 c2 c3 cs1 fm h0 n0 Z0 O1 G V1 a0_ b0_ a1_ b1_ a2_ b2_ a3_ b3_ (nn + (-1 : Int32)) T109 _ X109 q109_hh N109
   refine ⟨T', L', j, X', e', N', ?_⟩
   have eq : nn - own_pr c1 c2 = (nn + (-1 : Int32)) := by rcases own_excl c2 with x1 | x1 <;> simp_all [own_pr, Int32.sub_eq_add_neg]
   rw [eq]; exact fun t_ k_ => p113 t_ (g' t_ k_)
set_option maxRecDepth 65536 in
set_option maxHeartbeats 40000000 in
theorem cp3_0 {p : Program} {l : Launch} {e : Env} {s : State} {m : MethodId} {args : Array Value} {below : List Frame} {meth : Method} {c : Code} (Z : State) (a0 : Array Value) (hx : p.tables.exec = Jvm.exec) (hZ : Z.Warmed39 s.vm) (hw : ∀ d ∈ tables_1, d.before a0 Z = true) (hby : c.code = jdk_52_method_11_code) (hml : c.maxLocals = 6) (hown : s.vm.findClass "java/lang/StringUTF16" = some m.cls) (a1 : Addr) (k1 : ClassId) (c0 c1 c2 c3 : Int32) (cs1 : Int32) (fm : Value) (h0 : Heap) (n0 : Nat) (Z0 : n0 ≤ h0.size) (O1 : Old Z n0 h0) (G : own_G Z cs1 fm) (V1 : Arv Z h0 a1 k1 .byte (8 : Int32) [(.int (own_x0 c0)), (.int (own_x8 c0)), (.int (own_x0 c1)), (.int (own_x8 c1)), (.int (own_x0 c2)), (.int (own_x8 c2)), (.int (own_x0 c3)), (.int (own_x8 c3))] (.int (0 : Int32))) (a0_ : ¬ (c0 < (0 : Int32))) (b0_ : ¬ ((65535 : Int32) < c0)) (a1_ : ¬ (c1 < (0 : Int32))) (b1_ : ¬ ((65535 : Int32) < c1)) (a2_ : ¬ (c2 < (0 : Int32))) (b2_ : ¬ ((65535 : Int32) < c2)) (a3_ : ¬ (c3 < (0 : Int32))) (b3_ : ¬ ((65535 : Int32) < c3)) (nn : Int32) (T : State) (locs : List Loc) (X0 : Stand p l e ({ frames := 4, cells := 0, slots := 0, locals := 60 } : Room) s m args below meth c T locs 0 0) (e0 : T.heap = h0) (N0 : Fr n0 locs) : ∃ (T' : State) (L' : List Loc) (j : Int32), Stand p l e ({ frames := 4, cells := 0, slots := 0, locals := 60 } : Room) s m args below meth c T' L' 0 0 ∧ T'.heap = h0 ∧ Fr n0 L' ∧ Go p.tables e below (T.setTop (mkF m 44 #[.val (.ref a1), .val (.int (0 : Int32)), .val (.int (3 : Int32)), .val (.int (0 : Int32)), .val (.int nn), .val (.int (0 : Int32))] [])) (T'.setTop (mkF m 88 #[.val (.ref a1), .val (.int (0 : Int32)), .val (.int (3 : Int32)), .val (.int (0 : Int32)), .val (.int (nn - own_pr c0 c1 - own_pr c1 c2)), .val (.int j)] [])) := by
 have p0 : Go p.tables e below (T.setTop (mkF m 44 #[.val (.ref a1), .val (.int (0 : Int32)), .val (.int (3 : Int32)), .val (.int (0 : Int32)), .val (.int nn), .val (.int (0 : Int32))] [])) (T.setTop (mkF m 44 #[.val (.ref a1), .val (.int (0 : Int32)), .val (.int (3 : Int32)), .val (.int (0 : Int32)), .val (.int nn), .val (.int (0 : Int32))] [])) := fun t_ k_ => k_
 have p101 : Go p.tables e below _ (T.setTop (mkF m 58 #[.val (.ref a1), .val (.int (0 : Int32)), .val (.int (3 : Int32)), .val (.int (0 : Int32)), .val (.int nn), .val (.int (1 : Int32))] [(.int (0 : Int32)), (.ref a1)])) := fun t_ k_ => p0 t_ (by
  refine XS.iload X0.here hx rfl (hb hby d30_44) rfl ?_
  refine XS.iloadN X0.here hx rfl (hb hby d30_46) rfl ?_
  refine XS.iconst X0.here hx rfl (hb hby d30_47) ?_
  refine XS.isub X0.here hx rfl (hb hby d30_48) rfl ?_
  refine XS.icmpNo X0.here hx rfl (hb hby d30_49) rfl (tlt (by decide : ((0 : Int32) < (2 : Int32)))).2.1 ?_
  refine XS.aloadN X0.here hx rfl (hb hby d30_52) rfl rfl ?_
  refine XS.iload X0.here hx rfl (hb hby d30_53) rfl ?_
  refine XS.iinc X0.here hx rfl (hb hby d30_55) rfl (l' := #[.val (.ref a1), .val (.int (0 : Int32)), .val (.int (3 : Int32)), .val (.int (0 : Int32)), .val (.int nn), .val (.int (1 : Int32))]) rfl ?_
  exact k_)
 obtain ⟨_, _, ⟨T102, L102, k102, n102⟩, -, X102, ⟨Lc102, hQ102, l102, y102, z102⟩, st102⟩ := Jvm.LawKit.callS X0 hx (y := (⟨"java/lang/StringUTF16", "getChar", "([BI)C"⟩ : MethodName)) hown (mvT hZ (own_w hw 119 rfl)) (mvT hZ (own_w hw 120 rfl)) (mvT hZ (own_w hw 22 rfl)) (mvT hZ (own_w hw 121 rfl)) (by decide) (backOf (W := 0) (rm25 l Z a0 hw [] a1 (0 : Int32) k1 (8 : Int32) [(.int (own_x0 c0)), (.int (own_x8 c0)), (.int (own_x0 c1)), (.int (own_x8 c1)), (.int (own_x0 c2)), (.int (own_x8 c2)), (.int (own_x0 c3)), (.int (own_x8 c3))] (own_x0 c0) (own_x8 c0) c0 cs1 fm h0 n0 (Nat.le_trans Z0 (Keep.refl h0 []).1) O1 G V1 (by decide) (by decide) rfl rfl (own_l16 c0 a0_ b0_)) hZ (own_w hw 121 rfl) (own_w hw 22 rfl) (by decide) (by decide)) (g := (mkF m 58 #[.val (.ref a1), .val (.int (0 : Int32)), .val (.int (3 : Int32)), .val (.int (0 : Int32)), .val (.int nn), .val (.int (1 : Int32))] [(.int (0 : Int32)), (.ref a1)])) rfl (by rw [hml]; rfl) (argsL := [(.ref a1), (.int (0 : Int32))]) (rest := []) (lenOf pd4 rfl) rfl (by show 2 * 0 + _ ≤ _; exact Nat.le_of_eq rfl) (hb hby d30_58) (fun _ _ => ⟨rfl, e0, (by decide : 0 + 0 ≤ _), (by decide : 0 + 0 ≤ _)⟩)
 dsimp only [Pt.U, Pt.locs, Pt.cells, Pt.slots] at X102 l102 y102 z102 st102 hQ102
 subst l102 y102 z102
 obtain ⟨rfl, N102q, q102_hh⟩ := hQ102
 have N102 := Fr.app N0 N102q
 obtain ⟨_, _, ⟨T103, L103, k103, n103⟩, -, X103, ⟨Lc103, hQ103, l103, y103, z103⟩, st103⟩ := Jvm.LawKit.callS X102 hx (y := (⟨"java/lang/Character", "isHighSurrogate", "(C)Z"⟩ : MethodName)) hown (mvT hZ (own_w hw 138 rfl)) (mvT hZ (own_w hw 139 rfl)) (mvT hZ (own_w hw 140 rfl)) (mvT hZ (own_w hw 141 rfl)) (by decide) (backOf (W := 0) (rm31 l Z a0 hw [] c0 h0 n0 (Nat.le_trans Z0 (Keep.refl h0 []).1) ) hZ (own_w hw 141 rfl) (own_w hw 140 rfl) (by decide) (by decide)) (g := (mkF m 61 #[.val (.ref a1), .val (.int (0 : Int32)), .val (.int (3 : Int32)), .val (.int (0 : Int32)), .val (.int nn), .val (.int (1 : Int32))] [(.int c0)])) rfl (by rw [hml]; rfl) (argsL := [(.int c0)]) (rest := []) (lenOf pd21 rfl) rfl (by show 2 * 0 + _ ≤ _; exact Nat.le_of_eq rfl) (hb hby d30_61) (fun _ _ => ⟨rfl, q102_hh, (by decide : 0 + 0 ≤ _), (by decide : 0 + 0 ≤ _)⟩)
 dsimp only [Pt.U, Pt.locs, Pt.cells, Pt.slots] at X103 l103 y103 z103 st103 hQ103
 subst l103 y103 z103
 obtain ⟨rfl, N103q, q103_hh⟩ := hQ103
 have N103 := Fr.app N102 N103q
 by_cases c104 : (own_hi c0) = (0 : Int32)
 ·have p105 : Go p.tables e below _ (T103.setTop (mkF m 44 #[.val (.ref a1), .val (.int (0 : Int32)), .val (.int (3 : Int32)), .val (.int (0 : Int32)), .val (.int nn), .val (.int (1 : Int32))] [])) := fun t_ k_ => (gc (gc p101 st102) st103) t_ (by
   refine XS.ifYes X103.here hx rfl (pc0 := 64) (pc' := 44) rfl (hb hby d30_64) rfl ((if0 _ _).trans (teq c104).1) (by decide) (by decide) ?_
   exact k_)
  obtain ⟨T', L', j, X', e', N', g'⟩ := cp3_1 Z a0 hx hZ hw hby hml hown a1 k1 c0 c1 c2 c3 cs1 fm h0 n0 Z0 O1 G V1 a0_ b0_ a1_ b1_ a2_ b2_ a3_ b3_ nn T103 _ X103 q103_hh N103
  refine ⟨T', L', j, X', e', N', ?_⟩
  have eq : nn - own_pr c0 c1 - own_pr c1 c2 = nn - own_pr c1 c2 := by simp_all [own_pr, Int32.sub_eq_add_neg]
  rw [eq]; exact fun t_ k_ => p105 t_ (g' t_ k_)
 ·have p106 : Go p.tables e below _ (T103.setTop (mkF m 67 #[.val (.ref a1), .val (.int (0 : Int32)), .val (.int (3 : Int32)), .val (.int (0 : Int32)), .val (.int nn), .val (.int (1 : Int32))] [])) := fun t_ k_ => (gc (gc p101 st102) st103) t_ (by
   refine XS.ifNo X103.here hx rfl (hb hby d30_64) rfl ((if0 _ _).trans (feq c104).1) ?_
   exact k_)
  have p107 : Go p.tables e below _ (T103.setTop (mkF m 70 #[.val (.ref a1), .val (.int (0 : Int32)), .val (.int (3 : Int32)), .val (.int (0 : Int32)), .val (.int nn), .val (.int (1 : Int32))] [(.int (1 : Int32)), (.ref a1)])) := fun t_ k_ => p106 t_ (by
   refine XS.aloadN X103.here hx rfl (hb hby d30_67) rfl rfl ?_
   refine XS.iload X103.here hx rfl (hb hby d30_68) rfl ?_
   exact k_)
  obtain ⟨_, _, ⟨T108, L108, k108, n108⟩, -, X108, ⟨Lc108, hQ108, l108, y108, z108⟩, st108⟩ := Jvm.LawKit.callS X103 hx (y := (⟨"java/lang/StringUTF16", "getChar", "([BI)C"⟩ : MethodName)) hown (mvT hZ (own_w hw 119 rfl)) (mvT hZ (own_w hw 120 rfl)) (mvT hZ (own_w hw 22 rfl)) (mvT hZ (own_w hw 121 rfl)) (by decide) (backOf (W := 0) (rm25 l Z a0 hw [] a1 (1 : Int32) k1 (8 : Int32) [(.int (own_x0 c0)), (.int (own_x8 c0)), (.int (own_x0 c1)), (.int (own_x8 c1)), (.int (own_x0 c2)), (.int (own_x8 c2)), (.int (own_x0 c3)), (.int (own_x8 c3))] (own_x0 c1) (own_x8 c1) c1 cs1 fm h0 n0 (Nat.le_trans Z0 (Keep.refl h0 []).1) O1 G V1 (by decide) (by decide) rfl rfl (own_l16 c1 a1_ b1_)) hZ (own_w hw 121 rfl) (own_w hw 22 rfl) (by decide) (by decide)) (g := (mkF m 70 #[.val (.ref a1), .val (.int (0 : Int32)), .val (.int (3 : Int32)), .val (.int (0 : Int32)), .val (.int nn), .val (.int (1 : Int32))] [(.int (1 : Int32)), (.ref a1)])) rfl (by rw [hml]; rfl) (argsL := [(.ref a1), (.int (1 : Int32))]) (rest := []) (lenOf pd4 rfl) rfl (by show 2 * 0 + _ ≤ _; exact Nat.le_of_eq rfl) (hb hby d30_70) (fun _ _ => ⟨rfl, q103_hh, (by decide : 0 + 0 ≤ _), (by decide : 0 + 0 ≤ _)⟩)
  dsimp only [Pt.U, Pt.locs, Pt.cells, Pt.slots] at X108 l108 y108 z108 st108 hQ108
  subst l108 y108 z108
  obtain ⟨rfl, N108q, q108_hh⟩ := hQ108
  have N108 := Fr.app N103 N108q
  obtain ⟨_, _, ⟨T109, L109, k109, n109⟩, -, X109, ⟨Lc109, hQ109, l109, y109, z109⟩, st109⟩ := Jvm.LawKit.callS X108 hx (y := (⟨"java/lang/Character", "isLowSurrogate", "(C)Z"⟩ : MethodName)) hown (mvT hZ (own_w hw 144 rfl)) (mvT hZ (own_w hw 145 rfl)) (mvT hZ (own_w hw 140 rfl)) (mvT hZ (own_w hw 146 rfl)) (by decide) (backOf (W := 0) (rm32 l Z a0 hw [] c1 h0 n0 (Nat.le_trans Z0 (Keep.refl h0 []).1) ) hZ (own_w hw 146 rfl) (own_w hw 140 rfl) (by decide) (by decide)) (g := (mkF m 73 #[.val (.ref a1), .val (.int (0 : Int32)), .val (.int (3 : Int32)), .val (.int (0 : Int32)), .val (.int nn), .val (.int (1 : Int32))] [(.int c1)])) rfl (by rw [hml]; rfl) (argsL := [(.int c1)]) (rest := []) (lenOf pd21 rfl) rfl (by show 2 * 0 + _ ≤ _; exact Nat.le_of_eq rfl) (hb hby d30_73) (fun _ _ => ⟨rfl, q108_hh, (by decide : 0 + 0 ≤ _), (by decide : 0 + 0 ≤ _)⟩)
  dsimp only [Pt.U, Pt.locs, Pt.cells, Pt.slots] at X109 l109 y109 z109 st109 hQ109
  subst l109 y109 z109
  obtain ⟨rfl, N109q, q109_hh⟩ := hQ109
  have N109 := Fr.app N108 N109q
  by_cases c110 : (own_lo c1) = (0 : Int32)
  ·have p111 : Go p.tables e below _ (T109.setTop (mkF m 44 #[.val (.ref a1), .val (.int (0 : Int32)), .val (.int (3 : Int32)), .val (.int (0 : Int32)), .val (.int nn), .val (.int (1 : Int32))] [])) := fun t_ k_ => (gc (gc p107 st108) st109) t_ (by
    refine XS.ifYes X109.here hx rfl (pc0 := 76) (pc' := 44) rfl (hb hby d30_76) rfl ((if0 _ _).trans (teq c110).1) (by decide) (by decide) ?_
    exact k_)
   obtain ⟨T', L', j, X', e', N', g'⟩ := cp3_1 Z a0 hx hZ hw hby hml hown a1 k1 c0 c1 c2 c3 cs1 fm h0 n0 Z0 O1 G V1 a0_ b0_ a1_ b1_ a2_ b2_ a3_ b3_ nn T109 _ X109 q109_hh N109
   refine ⟨T', L', j, X', e', N', ?_⟩
   have eq : nn - own_pr c0 c1 - own_pr c1 c2 = nn - own_pr c1 c2 := by simp_all [own_pr, Int32.sub_eq_add_neg]
   rw [eq]; exact fun t_ k_ => p111 t_ (g' t_ k_)
  ·have p112 : Go p.tables e below _ (T109.setTop (mkF m 79 #[.val (.ref a1), .val (.int (0 : Int32)), .val (.int (3 : Int32)), .val (.int (0 : Int32)), .val (.int nn), .val (.int (1 : Int32))] [])) := fun t_ k_ => (gc (gc p107 st108) st109) t_ (by
    refine XS.ifNo X109.here hx rfl (hb hby d30_76) rfl ((if0 _ _).trans (feq c110).1) ?_
    exact k_)
   have p113 : Go p.tables e below _ (T109.setTop (mkF m 44 #[.val (.ref a1), .val (.int (0 : Int32)), .val (.int (3 : Int32)), .val (.int (0 : Int32)), .val (.int (nn + (-1 : Int32))), .val (.int (2 : Int32))] [])) := fun t_ k_ => p112 t_ (by
    refine XS.iinc X109.here hx rfl (hb hby d30_79) rfl (l' := #[.val (.ref a1), .val (.int (0 : Int32)), .val (.int (3 : Int32)), .val (.int (0 : Int32)), .val (.int (nn + (-1 : Int32))), .val (.int (1 : Int32))]) rfl ?_
    refine XS.iinc X109.here hx rfl (hb hby d30_82) rfl (l' := #[.val (.ref a1), .val (.int (0 : Int32)), .val (.int (3 : Int32)), .val (.int (0 : Int32)), .val (.int (nn + (-1 : Int32))), .val (.int (2 : Int32))]) rfl ?_
    refine XS.goto X109.here hx rfl (pc0 := 85) (pc' := 44) rfl (hb hby d30_85) (by decide) (by decide) ?_
    exact k_)
   obtain ⟨T', L', j, X', e', N', g'⟩ := cp3_2 Z a0 hx hZ hw hby hml hown a1 k1 c0 c1 c2 c3 cs1 fm h0 n0 Z0 O1 G V1 a0_ b0_ a1_ b1_ a2_ b2_ a3_ b3_ (nn + (-1 : Int32)) T109 _ X109 q109_hh N109
   refine ⟨T', L', j, X', e', N', ?_⟩
   have eq : nn - own_pr c0 c1 - own_pr c1 c2 = (nn + (-1 : Int32)) := by rcases own_excl c1 with x1 | x1 <;> simp_all [own_pr, Int32.sub_eq_add_neg]
   rw [eq]; exact fun t_ k_ => p113 t_ (g' t_ k_)
theorem ef_rm30_3 (m : MethodId) (a1 : Addr) (k1 : ClassId) (c0 : Int32) (c1 : Int32) (c2 : Int32) (c3 : Int32) (cs1 : Int32) (fm : Value) : entryFrame m #[(.ref a1), (.int (0 : Int32)), (.int (3 : Int32)), (.int (0 : Int32))] 6 = mkF m 0 #[.val (.ref a1), .val (.int (0 : Int32)), .val (.int (3 : Int32)), .val (.int (0 : Int32)), .unset, .unset] [] := by first | (simp [entryFrame, mkF, argsToLocals, Value.category]; done) | rfl
def Q30_3 (Z : State) (a1 : Addr) (k1 : ClassId) (c0 : Int32) (c1 : Int32) (c2 : Int32) (c3 : Int32) (cs1 : Int32) (fm : Value) (h0 : Heap) (n0 : Nat) (v : Option Value) (h : Heap) (L : List Loc) : Prop := v = some (.int (own_cp3 c0 c1 c2 c3)) ∧ Fr n0 L ∧ (h = h0)
set_option maxRecDepth 65536 in
set_option maxHeartbeats 40000000 in
theorem rm30_3 (l : Launch) (Z : State) (a0 : Array Value) (hw : ∀ d ∈ tables_1, d.before a0 Z = true) (ws : List Jvm.Cond) (a1 : Addr) (k1 : ClassId) (c0 : Int32) (c1 : Int32) (c2 : Int32) (c3 : Int32) (cs1 : Int32) (fm : Value) (h0 : Heap) (n0 : Nat) (Z0 : n0 ≤ h0.size) (O1 : Old Z n0 h0) (G : own_G Z cs1 fm) (V1 : Arv Z h0 a1 k1 .byte (8 : Int32) [(.int (own_x0 c0)), (.int (own_x8 c0)), (.int (own_x0 c1)), (.int (own_x8 c1)), (.int (own_x0 c2)), (.int (own_x8 c2)), (.int (own_x0 c3)), (.int (own_x8 c3))] (.int (0 : Int32))) (a0_ : ¬ (c0 < (0 : Int32))) (b0_ : ¬ ((65535 : Int32) < c0)) (a1_ : ¬ (c1 < (0 : Int32))) (b1_ : ¬ ((65535 : Int32) < c1)) (a2_ : ¬ (c2 < (0 : Int32))) (b2_ : ¬ ((65535 : Int32) < c2)) (a3_ : ¬ (c3 < (0 : Int32))) (b3_ : ¬ ((65535 : Int32) < c3)) :
  MetFree l (⟨"java/lang/StringUTF16", "codePointCount", "([BIIZ)I"⟩ : MethodName) (head1 (Jvm.Cond.code (⟨"java/lang/StringUTF16", "codePointCount", "([BIIZ)I"⟩ : MethodName) jdk_52_method_11_code 6 (some .int) :: ws) ({ frames := 4, cells := 0, slots := 0, locals := 60 } : Room)) (fun a U => a = #[(.ref a1), (.int (0 : Int32)), (.int (3 : Int32)), (.int (0 : Int32))] ∧ Z.Warmed39 U.vm ∧ U.heap = h0) (fun _ _ _ _ _ => True) (fun _ U o U' => ∃ v L, o = .returned v ∧ Q30_3 Z a1 k1 c0 c1 c2 c3 cs1 fm h0 n0 v U'.heap L ∧ FrameEnd U o U' L ({ frames := 4, cells := 0, slots := 0, locals := 60 } : Room).cells ({ frames := 4, cells := 0, slots := 0, locals := 60 } : Room).slots) := by
 refine MetFree.of_bodySF pn30 hisR ?_
 intro p e s m args below meth c s₁ Bd hml0 hP hK
 obtain ⟨rfl, hZ, hh⟩ := hP
 have hx := Bd.exec
 have hby := Bd.bytes
 have hml : c.maxLocals = 6 := hml0
 have hown : s.vm.findClass "java/lang/StringUTF16" = some m.cls := findClass_of_methodNamed Bd.named
 have hnm := (name_of_methodNamed Bd.named Bd.method).1
 have X0 : Stand p l e ({ frames := 4, cells := 0, slots := 0, locals := 60 } : Room) s m #[(.ref a1), (.int (0 : Int32)), (.int (3 : Int32)), (.int (0 : Int32))] below meth c s₁ [] 0 0 := Stand.of_body Bd
 have e0 : s₁.heap = h0 := by rw [← hh, Bd.state]; rfl
 have N0 := Fr.nil n0
 have p0 : Go p.tables e below (s₁.setTop (entryFrame m #[(.ref a1), (.int (0 : Int32)), (.int (3 : Int32)), (.int (0 : Int32))] 6)) (s₁.setTop (mkF m 0 #[.val (.ref a1), .val (.int (0 : Int32)), .val (.int (3 : Int32)), .val (.int (0 : Int32)), .unset, .unset] [])) := fun t_ k_ => castTop (ef_rm30_3 m a1 k1 c0 c1 c2 c3 cs1 fm) k_
 obtain ⟨T101, X101, e101, st101⟩ := getS2 X0 hx hZ hown (host := "") (Or.inl (own_w hw 116 rfl)) Via.refl e0 (G.2.2.2.2.1.ext O1.2) (g := (mkF m 0 #[.val (.ref a1), .val (.int (0 : Int32)), .val (.int (3 : Int32)), .val (.int (0 : Int32)), .unset, .unset] [])) rfl (hb hby d30_0)
 have p102 : Go p.tables e below _ (T101.setTop (mkF m 44 #[.val (.ref a1), .val (.int (0 : Int32)), .val (.int (3 : Int32)), .val (.int (0 : Int32)), .val (.int (3 : Int32)), .val (.int (0 : Int32))] [])) := fun t_ k_ => (gc p0 st101) t_ (by
  refine XS.ifYes X101.here hx rfl (pc0 := 3) (pc' := 19) rfl (hb hby d30_3) rfl ((if0 _ _).trans (feq (by decide : ¬ ((1 : Int32) = (0 : Int32)))).2) (by decide) (by decide) ?_
  refine XS.iloadN X101.here hx rfl (hb hby d30_19) rfl ?_
  refine XS.iloadN X101.here hx rfl (hb hby d30_20) rfl ?_
  refine XS.isub X101.here hx rfl (hb hby d30_21) rfl ?_
  refine XS.istore X101.here hx rfl (hb hby d30_22) rfl (l' := #[.val (.ref a1), .val (.int (0 : Int32)), .val (.int (3 : Int32)), .val (.int (0 : Int32)), .val (.int (3 : Int32)), .unset]) rfl ?_
  refine XS.iloadN X101.here hx rfl (hb hby d30_24) rfl ?_
  refine XS.istore X101.here hx rfl (hb hby d30_25) rfl (l' := #[.val (.ref a1), .val (.int (0 : Int32)), .val (.int (3 : Int32)), .val (.int (0 : Int32)), .val (.int (3 : Int32)), .val (.int (0 : Int32))]) rfl ?_
  refine XS.iloadN X101.here hx rfl (hb hby d30_27) rfl ?_
  refine XS.ifYes X101.here hx rfl (pc0 := 28) (pc' := 44) rfl (hb hby d30_28) rfl ((if0 _ _).trans (teq (by decide : ((0 : Int32) = (0 : Int32)))).1) (by decide) (by decide) ?_
  exact k_)
 obtain ⟨T103, L103, j103, X103, e103, N103, g103⟩ := cp3_0 Z a0 hx hZ hw hby hml hown a1 k1 c0 c1 c2 c3 cs1 fm h0 n0 (Nat.le_trans Z0 (Keep.refl h0 []).1) O1 G V1 a0_ b0_ a1_ b1_ a2_ b2_ a3_ b3_ (3 : Int32) T101 _ X101 e101 N0
 have p104 : Go p.tables e below _ (T103.setTop (mkF m 88 #[.val (.ref a1), .val (.int (0 : Int32)), .val (.int (3 : Int32)), .val (.int (0 : Int32)), .val (.int ((3 : Int32) - own_pr c0 c1 - own_pr c1 c2)), .val (.int j103)] [])) := fun t_ k_ => p102 t_ (g103 t_ k_)
 have p105 : Go p.tables e below _ (T103.setTop (mkF m 90 #[.val (.ref a1), .val (.int (0 : Int32)), .val (.int (3 : Int32)), .val (.int (0 : Int32)), .val (.int ((3 : Int32) - own_pr c0 c1 - own_pr c1 c2)), .val (.int j103)] [(.int ((3 : Int32) - own_pr c0 c1 - own_pr c1 c2))])) := fun t_ k_ => p104 t_ (by
  refine XS.iload X103.here hx rfl (hb hby d30_88) rfl ?_
  exact k_)
 obtain ⟨fs, hr, hrun, hended, hW, hsame⟩ := X103.leave (v := some (.int ((3 : Int32) - own_pr c0 c1 - own_pr c1 c2))) (fun h => by rw [Bd.returns] at h; cases h)
 refine ⟨_, _, p105 _ (retI X103 hx Bd.returns (hb hby d30_90) hr), hrun, hended, _, _, rfl, ?_, ⟨_, rfl⟩, hW, hsame.mono (by decide) (by decide)⟩
 show Q30_3 Z a1 k1 c0 c1 c2 c3 cs1 fm h0 n0 _ T103.heap _
 rw [e103]
 exact ⟨rfl, N103, rfl⟩
theorem ef_rm29_3 (m : MethodId) (a1 : Addr) (k1 : ClassId) (c0 : Int32) (c1 : Int32) (c2 : Int32) (c3 : Int32) (cs1 : Int32) (fm : Value) : entryFrame m #[(.ref a1), (.int (0 : Int32)), (.int (3 : Int32))] 3 = mkF m 0 #[.val (.ref a1), .val (.int (0 : Int32)), .val (.int (3 : Int32))] [] := by first | (simp [entryFrame, mkF, argsToLocals, Value.category]; done) | rfl
def Q29_3 (Z : State) (a1 : Addr) (k1 : ClassId) (c0 : Int32) (c1 : Int32) (c2 : Int32) (c3 : Int32) (cs1 : Int32) (fm : Value) (h0 : Heap) (n0 : Nat) (v : Option Value) (h : Heap) (L : List Loc) : Prop := v = some (.int (own_cp3 c0 c1 c2 c3)) ∧ Fr n0 L ∧ (h = h0)
set_option maxRecDepth 65536 in
set_option maxHeartbeats 40000000 in
theorem rm29_3 (l : Launch) (Z : State) (a0 : Array Value) (hw : ∀ d ∈ tables_1, d.before a0 Z = true) (ws : List Jvm.Cond) (a1 : Addr) (k1 : ClassId) (c0 : Int32) (c1 : Int32) (c2 : Int32) (c3 : Int32) (cs1 : Int32) (fm : Value) (h0 : Heap) (n0 : Nat) (Z0 : n0 ≤ h0.size) (O1 : Old Z n0 h0) (G : own_G Z cs1 fm) (V1 : Arv Z h0 a1 k1 .byte (8 : Int32) [(.int (own_x0 c0)), (.int (own_x8 c0)), (.int (own_x0 c1)), (.int (own_x8 c1)), (.int (own_x0 c2)), (.int (own_x8 c2)), (.int (own_x0 c3)), (.int (own_x8 c3))] (.int (0 : Int32))) (a0_ : ¬ (c0 < (0 : Int32))) (b0_ : ¬ ((65535 : Int32) < c0)) (a1_ : ¬ (c1 < (0 : Int32))) (b1_ : ¬ ((65535 : Int32) < c1)) (a2_ : ¬ (c2 < (0 : Int32))) (b2_ : ¬ ((65535 : Int32) < c2)) (a3_ : ¬ (c3 < (0 : Int32))) (b3_ : ¬ ((65535 : Int32) < c3)) :
  MetFree l (⟨"java/lang/StringUTF16", "codePointCount", "([BII)I"⟩ : MethodName) (head1 (Jvm.Cond.code (⟨"java/lang/StringUTF16", "codePointCount", "([BII)I"⟩ : MethodName) jdk_52_method_12_code 3 (some .int) :: ws) ({ frames := 5, cells := 0, slots := 0, locals := 77 } : Room)) (fun a U => a = #[(.ref a1), (.int (0 : Int32)), (.int (3 : Int32))] ∧ Z.Warmed39 U.vm ∧ U.heap = h0) (fun _ _ _ _ _ => True) (fun _ U o U' => ∃ v L, o = .returned v ∧ Q29_3 Z a1 k1 c0 c1 c2 c3 cs1 fm h0 n0 v U'.heap L ∧ FrameEnd U o U' L ({ frames := 5, cells := 0, slots := 0, locals := 77 } : Room).cells ({ frames := 5, cells := 0, slots := 0, locals := 77 } : Room).slots) := by
 refine MetFree.of_bodySF pn29 hisR ?_
 intro p e s m args below meth c s₁ Bd hml0 hP hK
 obtain ⟨rfl, hZ, hh⟩ := hP
 have hx := Bd.exec
 have hby := Bd.bytes
 have hml : c.maxLocals = 3 := hml0
 have hown : s.vm.findClass "java/lang/StringUTF16" = some m.cls := findClass_of_methodNamed Bd.named
 have hnm := (name_of_methodNamed Bd.named Bd.method).1
 have X0 : Stand p l e ({ frames := 5, cells := 0, slots := 0, locals := 77 } : Room) s m #[(.ref a1), (.int (0 : Int32)), (.int (3 : Int32))] below meth c s₁ [] 0 0 := Stand.of_body Bd
 have e0 : s₁.heap = h0 := by rw [← hh, Bd.state]; rfl
 have N0 := Fr.nil n0
 have p0 : Go p.tables e below (s₁.setTop (entryFrame m #[(.ref a1), (.int (0 : Int32)), (.int (3 : Int32))] 3)) (s₁.setTop (mkF m 0 #[.val (.ref a1), .val (.int (0 : Int32)), .val (.int (3 : Int32))] [])) := fun t_ k_ => castTop (ef_rm29_3 m a1 k1 c0 c1 c2 c3 cs1 fm) k_
 have p101 : Go p.tables e below _ (s₁.setTop (mkF m 4 #[.val (.ref a1), .val (.int (0 : Int32)), .val (.int (3 : Int32))] [(.int (0 : Int32)), (.int (3 : Int32)), (.int (0 : Int32)), (.ref a1)])) := fun t_ k_ => p0 t_ (by
  refine XS.aloadN X0.here hx rfl (hb hby d29_0) rfl rfl ?_
  refine XS.iloadN X0.here hx rfl (hb hby d29_1) rfl ?_
  refine XS.iloadN X0.here hx rfl (hb hby d29_2) rfl ?_
  refine XS.iconst X0.here hx rfl (hb hby d29_3) ?_
  exact k_)
 obtain ⟨_, _, ⟨T102, L102, k102, n102⟩, -, X102, ⟨Lc102, hQ102, l102, y102, z102⟩, st102⟩ := Jvm.LawKit.callS X0 hx (y := (⟨"java/lang/StringUTF16", "codePointCount", "([BIIZ)I"⟩ : MethodName)) hown (mvT hZ (own_w hw 135 rfl)) (mvT hZ (own_w hw 136 rfl)) (mvT hZ (own_w hw 22 rfl)) (mvT hZ (own_w hw 137 rfl)) (by decide) (backOf (W := 0) (rm30_3 l Z a0 hw [] a1 k1 c0 c1 c2 c3 cs1 fm h0 n0 (Nat.le_trans Z0 (Keep.refl h0 []).1) O1 G V1 a0_ b0_ a1_ b1_ a2_ b2_ a3_ b3_) hZ (own_w hw 137 rfl) (own_w hw 22 rfl) (by decide) (by decide)) (g := (mkF m 4 #[.val (.ref a1), .val (.int (0 : Int32)), .val (.int (3 : Int32))] [(.int (0 : Int32)), (.int (3 : Int32)), (.int (0 : Int32)), (.ref a1)])) rfl (by rw [hml]; rfl) (argsL := [(.ref a1), (.int (0 : Int32)), (.int (3 : Int32)), (.int (0 : Int32))]) (rest := []) (lenOf pd17 rfl) rfl (by show 2 * 0 + _ ≤ _; exact Nat.le_of_eq rfl) (hb hby d29_4) (fun _ _ => ⟨rfl, e0, (by decide : 0 + 0 ≤ _), (by decide : 0 + 0 ≤ _)⟩)
 dsimp only [Pt.U, Pt.locs, Pt.cells, Pt.slots] at X102 l102 y102 z102 st102 hQ102
 subst l102 y102 z102
 obtain ⟨rfl, N102q, q102_hh⟩ := hQ102
 have N102 := Fr.app N0 N102q
 obtain ⟨fs, hr, hrun, hended, hW, hsame⟩ := X102.leave (v := some (.int (own_cp3 c0 c1 c2 c3))) (fun h => by rw [Bd.returns] at h; cases h)
 refine ⟨_, _, (gc p101 st102) _ (retI X102 hx Bd.returns (hb hby d29_7) hr), hrun, hended, _, _, rfl, ?_, ⟨_, rfl⟩, hW, hsame.mono (by decide) (by decide)⟩
 show Q29_3 Z a1 k1 c0 c1 c2 c3 cs1 fm h0 n0 _ T102.heap _
 rw [q102_hh]
 exact ⟨rfl, N102, rfl⟩
theorem ef_rm17_0_3 (m : MethodId) (a1 : Addr) (bv : Addr) (k1 : ClassId) (c0 : Int32) (c1 : Int32) (c2 : Int32) (c3 : Int32) (cs1 : Int32) (fm : Value) : entryFrame m #[(.ref a1), (.int (0 : Int32)), (.int (3 : Int32))] 3 = mkF m 0 #[.val (.ref a1), .val (.int (0 : Int32)), .val (.int (3 : Int32))] [] := by first | (simp [entryFrame, mkF, argsToLocals, Value.category]; done) | rfl
def Q17_0_3 (Z : State) (a1 : Addr) (bv : Addr) (k1 : ClassId) (c0 : Int32) (c1 : Int32) (c2 : Int32) (c3 : Int32) (cs1 : Int32) (fm : Value) (h0 : Heap) (n0 : Nat) (v : Option Value) (h : Heap) (L : List Loc) : Prop := v = some (.int (3 : Int32)) ∧ Fr n0 L ∧ (h = h0)
set_option maxRecDepth 65536 in
set_option maxHeartbeats 40000000 in
theorem rm17_0_3 (l : Launch) (Z : State) (a0 : Array Value) (hw : ∀ d ∈ tables_1, d.before a0 Z = true) (ws : List Jvm.Cond) (a1 : Addr) (bv : Addr) (k1 : ClassId) (c0 : Int32) (c1 : Int32) (c2 : Int32) (c3 : Int32) (cs1 : Int32) (fm : Value) (h0 : Heap) (n0 : Nat) (Z0 : n0 ≤ h0.size) (O1 : Old Z n0 h0) (G : own_G Z cs1 fm) (E1 : Exa Z h0 a1 "java/lang/String") (F1 : Fld Z h0 a1 "java/lang/String" "coder" "B" (.int (0 : Int32))) (F2 : Fld Z h0 a1 "java/lang/String" "value" "[B" (.ref bv)) (V1 : Arv Z h0 bv k1 .byte (4 : Int32) [(.int (own_xl c0)), (.int (own_xl c1)), (.int (own_xl c2)), (.int (own_xl c3))] (.int (0 : Int32))) :
  MetFree l (⟨"java/lang/String", "codePointCount", "(II)I"⟩ : MethodName) (head1 (Jvm.Cond.code (⟨"java/lang/String", "codePointCount", "(II)I"⟩ : MethodName) jdk_42_method_59_code 3 (some .int) :: ws) ({ frames := 2, cells := 0, slots := 0, locals := 29 } : Room)) (fun a U => a = #[(.ref a1), (.int (0 : Int32)), (.int (3 : Int32))] ∧ Z.Warmed39 U.vm ∧ U.heap = h0) (fun _ _ _ _ _ => True) (fun _ U o U' => ∃ v L, o = .returned v ∧ Q17_0_3 Z a1 bv k1 c0 c1 c2 c3 cs1 fm h0 n0 v U'.heap L ∧ FrameEnd U o U' L ({ frames := 2, cells := 0, slots := 0, locals := 29 } : Room).cells ({ frames := 2, cells := 0, slots := 0, locals := 29 } : Room).slots) := by
 refine MetFree.of_bodySF pn17 hisR ?_
 intro p e s m args below meth c s₁ Bd hml0 hP hK
 obtain ⟨rfl, hZ, hh⟩ := hP
 have hx := Bd.exec
 have hby := Bd.bytes
 have hml : c.maxLocals = 3 := hml0
 have hown : s.vm.findClass "java/lang/String" = some m.cls := findClass_of_methodNamed Bd.named
 have hnm := (name_of_methodNamed Bd.named Bd.method).1
 have X0 : Stand p l e ({ frames := 2, cells := 0, slots := 0, locals := 29 } : Room) s m #[(.ref a1), (.int (0 : Int32)), (.int (3 : Int32))] below meth c s₁ [] 0 0 := Stand.of_body Bd
 have e0 : s₁.heap = h0 := by rw [← hh, Bd.state]; rfl
 have N0 := Fr.nil n0
 have p0 : Go p.tables e below (s₁.setTop (entryFrame m #[(.ref a1), (.int (0 : Int32)), (.int (3 : Int32))] 3)) (s₁.setTop (mkF m 0 #[.val (.ref a1), .val (.int (0 : Int32)), .val (.int (3 : Int32))] [])) := fun t_ k_ => castTop (ef_rm17_0_3 m a1 bv k1 c0 c1 c2 c3 cs1 fm) k_
 have p101 : Go p.tables e below _ (s₁.setTop (mkF m 3 #[.val (.ref a1), .val (.int (0 : Int32)), .val (.int (3 : Int32))] [(.ref a1), (.int (3 : Int32)), (.int (0 : Int32))])) := fun t_ k_ => p0 t_ (by
  refine XS.iloadN X0.here hx rfl (hb hby d17_0) rfl ?_
  refine XS.iloadN X0.here hx rfl (hb hby d17_1) rfl ?_
  refine XS.aloadN X0.here hx rfl (hb hby d17_2) rfl rfl ?_
  exact k_)
 obtain ⟨cq102, kq102, q102a, q102b, q102c⟩ := isOf hZ e0 E1
 obtain ⟨_, _, ⟨T102, L102, k102, n102⟩, -, X102, ⟨Lc102, hQ102, l102, y102, z102⟩, st102⟩ := X0.virtualBack hx (y := (⟨"java/lang/String", "length", "()I"⟩ : MethodName)) (z := (⟨"java/lang/String", "length", "()I"⟩ : MethodName)) hown (mvT hZ (own_w hw 90 rfl)) (mvT hZ (own_w hw 46 rfl)) (notFace_of_selects (args := #[]) (mvT hZ (own_w hw 48 rfl))) (mvT hZ (own_w hw 48 rfl)) (mvT hZ (own_w hw 47 rfl)) (by decide) (backOf (W := 2) (rm9_0 l Z a0 hw [] a1 (4 : Int32) bv k1 (4 : Int32) [(.int (own_xl c0)), (.int (own_xl c1)), (.int (own_xl c2)), (.int (own_xl c3))] cs1 fm h0 n0 (Nat.le_trans Z0 (Keep.refl h0 []).1) O1 G E1 F1 F2 V1 (by decide)) hZ (own_w hw 49 rfl) (own_w hw 8 rfl) (by decide) (by decide)) q102a q102c (g := (mkF m 3 #[.val (.ref a1), .val (.int (0 : Int32)), .val (.int (3 : Int32))] [(.ref a1), (.int (3 : Int32)), (.int (0 : Int32))])) rfl (by rw [hml]; rfl) (Steps.refl _) (argsL := []) (rest := [(.int (3 : Int32)), (.int (0 : Int32))]) (lenOf pd14 rfl) rfl (by show 2 * 0 + _ ≤ _; exact Nat.le_of_eq rfl) (hb hby d17_3) (fun _ _ => ⟨rfl, e0, (by decide : 0 + 0 ≤ _), (by decide : 0 + 0 ≤ _)⟩)
 dsimp only [Pt.U, Pt.locs, Pt.cells, Pt.slots] at X102 l102 y102 z102 st102 hQ102
 subst l102 y102 z102
 obtain ⟨rfl, N102q, q102_hh⟩ := hQ102
 have N102 := Fr.app N0 N102q
 obtain ⟨_, _, ⟨T103, L103, k103, n103⟩, -, X103, ⟨Lc103, hQ103, l103, y103, z103⟩, st103⟩ := Jvm.LawKit.callS X102 hx (y := (⟨"java/util/Objects", "checkFromToIndex", "(III)I"⟩ : MethodName)) hown (mvT hZ (own_w hw 91 rfl)) (mvT hZ (own_w hw 92 rfl)) (mvT hZ (own_w hw 93 rfl)) (mvT hZ (own_w hw 94 rfl)) (by decide) (backOf (W := 0) (rm18_3 l Z a0 hw []  h0 n0 (Nat.le_trans Z0 (Keep.refl h0 []).1) ) hZ (own_w hw 94 rfl) (own_w hw 93 rfl) (by decide) (by decide)) (g := (mkF m 6 #[.val (.ref a1), .val (.int (0 : Int32)), .val (.int (3 : Int32))] [(.int (4 : Int32)), (.int (3 : Int32)), (.int (0 : Int32))])) rfl (by rw [hml]; rfl) (argsL := [(.int (0 : Int32)), (.int (3 : Int32)), (.int (4 : Int32))]) (rest := []) (lenOf pd18 rfl) rfl (by show 2 * 0 + _ ≤ _; exact Nat.le_of_eq rfl) (hb hby d17_6) (fun _ _ => ⟨rfl, q102_hh, (by decide : 0 + 0 ≤ _), (by decide : 0 + 0 ≤ _)⟩)
 dsimp only [Pt.U, Pt.locs, Pt.cells, Pt.slots] at X103 l103 y103 z103 st103 hQ103
 subst l103 y103 z103
 obtain ⟨rfl, N103q, q103_hh⟩ := hQ103
 have N103 := Fr.app N102 N103q
 have p104 : Go p.tables e below _ (T103.setTop (mkF m 11 #[.val (.ref a1), .val (.int (0 : Int32)), .val (.int (3 : Int32))] [(.ref a1)])) := fun t_ k_ => (gc (gcT p101 st102) st103) t_ (by
  refine XS.pop X103.here hx rfl (hb hby d17_9) rfl rfl ?_
  refine XS.aloadN X103.here hx rfl (hb hby d17_10) rfl rfl ?_
  exact k_)
 obtain ⟨cq105, kq105, q105a, q105b, q105c⟩ := isOf hZ q103_hh E1
 obtain ⟨_, _, ⟨T105, L105, k105, n105⟩, -, X105, ⟨Lc105, hQ105, l105, y105, z105⟩, st105⟩ := X103.virtualBack hx (y := (⟨"java/lang/String", "isLatin1", "()Z"⟩ : MethodName)) (z := (⟨"java/lang/String", "isLatin1", "()Z"⟩ : MethodName)) hown (mvT hZ (own_w hw 60 rfl)) (mvT hZ (own_w hw 61 rfl)) (notFace_of_selects (args := #[]) (mvT hZ (own_w hw 63 rfl))) (mvT hZ (own_w hw 63 rfl)) (mvT hZ (own_w hw 62 rfl)) (by decide) (backOf (W := 0) (rm12_0 l Z a0 hw [] a1 cs1 fm h0 n0 (Nat.le_trans Z0 (Keep.refl h0 []).1) O1 G F1) hZ (own_w hw 64 rfl) (own_w hw 8 rfl) (by decide) (by decide)) q105a q105c (g := (mkF m 11 #[.val (.ref a1), .val (.int (0 : Int32)), .val (.int (3 : Int32))] [(.ref a1)])) rfl (by rw [hml]; rfl) (Steps.refl _) (argsL := []) (rest := []) (lenOf pd3 rfl) rfl (by show 2 * 0 + _ ≤ _; exact Nat.le_of_eq rfl) (hb hby d17_11) (fun _ _ => ⟨rfl, q103_hh, (by decide : 0 + 0 ≤ _), (by decide : 0 + 0 ≤ _)⟩)
 dsimp only [Pt.U, Pt.locs, Pt.cells, Pt.slots] at X105 l105 y105 z105 st105 hQ105
 subst l105 y105 z105
 obtain ⟨rfl, N105q, q105_hh⟩ := hQ105
 have N105 := Fr.app N103 N105q
 have p106 : Go p.tables e below _ (T105.setTop (mkF m 20 #[.val (.ref a1), .val (.int (0 : Int32)), .val (.int (3 : Int32))] [(.int (3 : Int32))])) := fun t_ k_ => (gcT p104 st105) t_ (by
  refine XS.ifNo X105.here hx rfl (hb hby d17_14) rfl ((if0 _ _).trans (feq (by decide : ¬ ((1 : Int32) = (0 : Int32)))).1) ?_
  refine XS.iloadN X105.here hx rfl (hb hby d17_17) rfl ?_
  refine XS.iloadN X105.here hx rfl (hb hby d17_18) rfl ?_
  refine XS.isub X105.here hx rfl (hb hby d17_19) rfl ?_
  exact k_)
 obtain ⟨fs, hr, hrun, hended, hW, hsame⟩ := X105.leave (v := some (.int (3 : Int32))) (fun h => by rw [Bd.returns] at h; cases h)
 refine ⟨_, _, p106 _ (retI X105 hx Bd.returns (hb hby d17_20) hr), hrun, hended, _, _, rfl, ?_, ⟨_, rfl⟩, hW, hsame.mono (by decide) (by decide)⟩
 show Q17_0_3 Z a1 bv k1 c0 c1 c2 c3 cs1 fm h0 n0 _ T105.heap _
 rw [q105_hh]
 exact ⟨rfl, N105, rfl⟩
theorem ef_rm16_0_3 (m : MethodId) (a1 : Addr) (a2 : Addr) (bv : Addr) (k1 : ClassId) (c0 : Int32) (c1 : Int32) (c2 : Int32) (c3 : Int32) (cs1 : Int32) (fm : Value) : entryFrame m #[(.ref a1), (.int (3 : Int32))] 2 = mkF m 0 #[.val (.ref a1), .val (.int (3 : Int32))] [] := by first | (simp [entryFrame, mkF, argsToLocals, Value.category]; done) | rfl
def Q16_0_3 (Z : State) (a1 : Addr) (a2 : Addr) (bv : Addr) (k1 : ClassId) (c0 : Int32) (c1 : Int32) (c2 : Int32) (c3 : Int32) (cs1 : Int32) (fm : Value) (h0 : Heap) (n0 : Nat) (v : Option Value) (h : Heap) (L : List Loc) : Prop := v = some (.int (4 : Int32)) ∧ Fr n0 L ∧ (h = h0)
set_option maxRecDepth 65536 in
set_option maxHeartbeats 40000000 in
theorem rm16_0_3 (l : Launch) (Z : State) (a0 : Array Value) (hw : ∀ d ∈ tables_1, d.before a0 Z = true) (ws : List Jvm.Cond) (a1 : Addr) (a2 : Addr) (bv : Addr) (k1 : ClassId) (c0 : Int32) (c1 : Int32) (c2 : Int32) (c3 : Int32) (cs1 : Int32) (fm : Value) (h0 : Heap) (n0 : Nat) (Z0 : n0 ≤ h0.size) (O1 : Old Z n0 h0) (G : own_G Z cs1 fm) (T1 : Fld Z h0 a1 "com/example/subsume/subsume/model/Lines" "text" "Ljava/lang/String;" (.ref a2)) (E1 : Exa Z h0 a2 "java/lang/String") (F1 : Fld Z h0 a2 "java/lang/String" "coder" "B" (.int (0 : Int32))) (F2 : Fld Z h0 a2 "java/lang/String" "value" "[B" (.ref bv)) (V1 : Arv Z h0 bv k1 .byte (4 : Int32) [(.int (own_xl c0)), (.int (own_xl c1)), (.int (own_xl c2)), (.int (own_xl c3))] (.int (0 : Int32))) :
  MetFree l (⟨"com/example/subsume/subsume/model/Lines", "character", "(I)I"⟩ : MethodName) (head1 (Jvm.Cond.code (⟨"com/example/subsume/subsume/model/Lines", "character", "(I)I"⟩ : MethodName) prog_16_method_2_code 2 (some .int) :: ws) ({ frames := 3, cells := 0, slots := 0, locals := 43 } : Room)) (fun a U => a = #[(.ref a1), (.int (3 : Int32))] ∧ Z.Warmed39 U.vm ∧ U.heap = h0) (fun _ _ _ _ _ => True) (fun _ U o U' => ∃ v L, o = .returned v ∧ Q16_0_3 Z a1 a2 bv k1 c0 c1 c2 c3 cs1 fm h0 n0 v U'.heap L ∧ FrameEnd U o U' L ({ frames := 3, cells := 0, slots := 0, locals := 43 } : Room).cells ({ frames := 3, cells := 0, slots := 0, locals := 43 } : Room).slots) := by
 refine MetFree.of_bodySF pn16 hisR ?_
 intro p e s m args below meth c s₁ Bd hml0 hP hK
 obtain ⟨rfl, hZ, hh⟩ := hP
 have hx := Bd.exec
 have hby := Bd.bytes
 have hml : c.maxLocals = 2 := hml0
 have hown : s.vm.findClass "com/example/subsume/subsume/model/Lines" = some m.cls := findClass_of_methodNamed Bd.named
 have hnm := (name_of_methodNamed Bd.named Bd.method).1
 have X0 : Stand p l e ({ frames := 3, cells := 0, slots := 0, locals := 43 } : Room) s m #[(.ref a1), (.int (3 : Int32))] below meth c s₁ [] 0 0 := Stand.of_body Bd
 have e0 : s₁.heap = h0 := by rw [← hh, Bd.state]; rfl
 have N0 := Fr.nil n0
 have p0 : Go p.tables e below (s₁.setTop (entryFrame m #[(.ref a1), (.int (3 : Int32))] 2)) (s₁.setTop (mkF m 0 #[.val (.ref a1), .val (.int (3 : Int32))] [])) := fun t_ k_ => castTop (ef_rm16_0_3 m a1 a2 bv k1 c0 c1 c2 c3 cs1 fm) k_
 have p101 : Go p.tables e below _ (s₁.setTop (mkF m 1 #[.val (.ref a1), .val (.int (3 : Int32))] [(.ref a1)])) := fun t_ k_ => p0 t_ (by
  refine XS.aloadN X0.here hx rfl (hb hby d16_0) rfl rfl ?_
  exact k_)
 obtain ⟨T102, X102, e102, st102⟩ := getF X0 hx hZ hown (host := "") (Or.inl (own_w hw 43 rfl)) Via.refl e0 T1 (g := (mkF m 1 #[.val (.ref a1), .val (.int (3 : Int32))] [(.ref a1)])) rfl rfl (hb hby d16_1)
 have p103 : Go p.tables e below _ (T102.setTop (mkF m 6 #[.val (.ref a1), .val (.int (3 : Int32))] [(.int (3 : Int32)), (.int (0 : Int32)), (.ref a2)])) := fun t_ k_ => (gc p101 st102) t_ (by
  refine XS.iconst X102.here hx rfl (hb hby d16_4) ?_
  refine XS.iloadN X102.here hx rfl (hb hby d16_5) rfl ?_
  exact k_)
 obtain ⟨cq104, kq104, q104a, q104b, q104c⟩ := isOf hZ e102 E1
 obtain ⟨_, _, ⟨T104, L104, k104, n104⟩, -, X104, ⟨Lc104, hQ104, l104, y104, z104⟩, st104⟩ := X102.virtualBack hx (y := (⟨"java/lang/String", "codePointCount", "(II)I"⟩ : MethodName)) (z := (⟨"java/lang/String", "codePointCount", "(II)I"⟩ : MethodName)) hown (mvT hZ (own_w hw 85 rfl)) (mvT hZ (own_w hw 86 rfl)) (notFace_of_selects (args := #[]) (mvT hZ (own_w hw 88 rfl))) (mvT hZ (own_w hw 88 rfl)) (mvT hZ (own_w hw 87 rfl)) (by decide) (backOf (W := 0) (rm17_0_3 l Z a0 hw [] a2 bv k1 c0 c1 c2 c3 cs1 fm h0 n0 (Nat.le_trans Z0 (Keep.refl h0 []).1) O1 G E1 F1 F2 V1) hZ (own_w hw 89 rfl) (own_w hw 8 rfl) (by decide) (by decide)) q104a q104c (g := (mkF m 6 #[.val (.ref a1), .val (.int (3 : Int32))] [(.int (3 : Int32)), (.int (0 : Int32)), (.ref a2)])) rfl (by rw [hml]; rfl) (Steps.refl _) (argsL := [(.int (0 : Int32)), (.int (3 : Int32))]) (rest := []) (lenOf pd19 rfl) rfl (by show 2 * 0 + _ ≤ _; exact Nat.le_of_eq rfl) (hb hby d16_6) (fun _ _ => ⟨rfl, e102, (by decide : 0 + 0 ≤ _), (by decide : 0 + 0 ≤ _)⟩)
 dsimp only [Pt.U, Pt.locs, Pt.cells, Pt.slots] at X104 l104 y104 z104 st104 hQ104
 subst l104 y104 z104
 obtain ⟨rfl, N104q, q104_hh⟩ := hQ104
 have N104 := Fr.app N0 N104q
 have p105 : Go p.tables e below _ (T104.setTop (mkF m 11 #[.val (.ref a1), .val (.int (3 : Int32))] [(.int (4 : Int32))])) := fun t_ k_ => (gcT p103 st104) t_ (by
  refine XS.iconst X104.here hx rfl (hb hby d16_9) ?_
  refine XS.iadd X104.here hx rfl (hb hby d16_10) rfl ?_
  exact k_)
 obtain ⟨fs, hr, hrun, hended, hW, hsame⟩ := X104.leave (v := some (.int (4 : Int32))) (fun h => by rw [Bd.returns] at h; cases h)
 refine ⟨_, _, p105 _ (retI X104 hx Bd.returns (hb hby d16_11) hr), hrun, hended, _, _, rfl, ?_, ⟨_, rfl⟩, hW, hsame.mono (by decide) (by decide)⟩
 show Q16_0_3 Z a1 a2 bv k1 c0 c1 c2 c3 cs1 fm h0 n0 _ T104.heap _
 rw [q104_hh]
 exact ⟨rfl, N104, rfl⟩
theorem ef_rm17_1_3 (m : MethodId) (a1 : Addr) (bv : Addr) (k1 : ClassId) (c0 : Int32) (c1 : Int32) (c2 : Int32) (c3 : Int32) (cs1 : Int32) (fm : Value) : entryFrame m #[(.ref a1), (.int (0 : Int32)), (.int (3 : Int32))] 3 = mkF m 0 #[.val (.ref a1), .val (.int (0 : Int32)), .val (.int (3 : Int32))] [] := by first | (simp [entryFrame, mkF, argsToLocals, Value.category]; done) | rfl
def Q17_1_3 (Z : State) (a1 : Addr) (bv : Addr) (k1 : ClassId) (c0 : Int32) (c1 : Int32) (c2 : Int32) (c3 : Int32) (cs1 : Int32) (fm : Value) (h0 : Heap) (n0 : Nat) (v : Option Value) (h : Heap) (L : List Loc) : Prop := v = some (.int (own_cp3 c0 c1 c2 c3)) ∧ Fr n0 L ∧ (h = h0)
set_option maxRecDepth 65536 in
set_option maxHeartbeats 40000000 in
theorem rm17_1_3 (l : Launch) (Z : State) (a0 : Array Value) (hw : ∀ d ∈ tables_1, d.before a0 Z = true) (ws : List Jvm.Cond) (a1 : Addr) (bv : Addr) (k1 : ClassId) (c0 : Int32) (c1 : Int32) (c2 : Int32) (c3 : Int32) (cs1 : Int32) (fm : Value) (h0 : Heap) (n0 : Nat) (Z0 : n0 ≤ h0.size) (O1 : Old Z n0 h0) (G : own_G Z cs1 fm) (a0_ : ¬ (c0 < (0 : Int32))) (b0_ : ¬ ((65535 : Int32) < c0)) (a1_ : ¬ (c1 < (0 : Int32))) (b1_ : ¬ ((65535 : Int32) < c1)) (a2_ : ¬ (c2 < (0 : Int32))) (b2_ : ¬ ((65535 : Int32) < c2)) (a3_ : ¬ (c3 < (0 : Int32))) (b3_ : ¬ ((65535 : Int32) < c3)) (E1 : Exa Z h0 a1 "java/lang/String") (F1 : Fld Z h0 a1 "java/lang/String" "coder" "B" (.int (1 : Int32))) (F2 : Fld Z h0 a1 "java/lang/String" "value" "[B" (.ref bv)) (V1 : Arv Z h0 bv k1 .byte (8 : Int32) [(.int (own_x0 c0)), (.int (own_x8 c0)), (.int (own_x0 c1)), (.int (own_x8 c1)), (.int (own_x0 c2)), (.int (own_x8 c2)), (.int (own_x0 c3)), (.int (own_x8 c3))] (.int (0 : Int32))) :
  MetFree l (⟨"java/lang/String", "codePointCount", "(II)I"⟩ : MethodName) (head1 (Jvm.Cond.code (⟨"java/lang/String", "codePointCount", "(II)I"⟩ : MethodName) jdk_42_method_59_code 3 (some .int) :: ws) ({ frames := 6, cells := 0, slots := 0, locals := 91 } : Room)) (fun a U => a = #[(.ref a1), (.int (0 : Int32)), (.int (3 : Int32))] ∧ Z.Warmed39 U.vm ∧ U.heap = h0) (fun _ _ _ _ _ => True) (fun _ U o U' => ∃ v L, o = .returned v ∧ Q17_1_3 Z a1 bv k1 c0 c1 c2 c3 cs1 fm h0 n0 v U'.heap L ∧ FrameEnd U o U' L ({ frames := 6, cells := 0, slots := 0, locals := 91 } : Room).cells ({ frames := 6, cells := 0, slots := 0, locals := 91 } : Room).slots) := by
 refine MetFree.of_bodySF pn17 hisR ?_
 intro p e s m args below meth c s₁ Bd hml0 hP hK
 obtain ⟨rfl, hZ, hh⟩ := hP
 have hx := Bd.exec
 have hby := Bd.bytes
 have hml : c.maxLocals = 3 := hml0
 have hown : s.vm.findClass "java/lang/String" = some m.cls := findClass_of_methodNamed Bd.named
 have hnm := (name_of_methodNamed Bd.named Bd.method).1
 have X0 : Stand p l e ({ frames := 6, cells := 0, slots := 0, locals := 91 } : Room) s m #[(.ref a1), (.int (0 : Int32)), (.int (3 : Int32))] below meth c s₁ [] 0 0 := Stand.of_body Bd
 have e0 : s₁.heap = h0 := by rw [← hh, Bd.state]; rfl
 have N0 := Fr.nil n0
 have p0 : Go p.tables e below (s₁.setTop (entryFrame m #[(.ref a1), (.int (0 : Int32)), (.int (3 : Int32))] 3)) (s₁.setTop (mkF m 0 #[.val (.ref a1), .val (.int (0 : Int32)), .val (.int (3 : Int32))] [])) := fun t_ k_ => castTop (ef_rm17_1_3 m a1 bv k1 c0 c1 c2 c3 cs1 fm) k_
 have p101 : Go p.tables e below _ (s₁.setTop (mkF m 3 #[.val (.ref a1), .val (.int (0 : Int32)), .val (.int (3 : Int32))] [(.ref a1), (.int (3 : Int32)), (.int (0 : Int32))])) := fun t_ k_ => p0 t_ (by
  refine XS.iloadN X0.here hx rfl (hb hby d17_0) rfl ?_
  refine XS.iloadN X0.here hx rfl (hb hby d17_1) rfl ?_
  refine XS.aloadN X0.here hx rfl (hb hby d17_2) rfl rfl ?_
  exact k_)
 obtain ⟨cq102, kq102, q102a, q102b, q102c⟩ := isOf hZ e0 E1
 obtain ⟨_, _, ⟨T102, L102, k102, n102⟩, -, X102, ⟨Lc102, hQ102, l102, y102, z102⟩, st102⟩ := X0.virtualBack hx (y := (⟨"java/lang/String", "length", "()I"⟩ : MethodName)) (z := (⟨"java/lang/String", "length", "()I"⟩ : MethodName)) hown (mvT hZ (own_w hw 90 rfl)) (mvT hZ (own_w hw 46 rfl)) (notFace_of_selects (args := #[]) (mvT hZ (own_w hw 48 rfl))) (mvT hZ (own_w hw 48 rfl)) (mvT hZ (own_w hw 47 rfl)) (by decide) (backOf (W := 2) (rm9_1 l Z a0 hw [] a1 (4 : Int32) bv k1 (8 : Int32) [(.int (own_x0 c0)), (.int (own_x8 c0)), (.int (own_x0 c1)), (.int (own_x8 c1)), (.int (own_x0 c2)), (.int (own_x8 c2)), (.int (own_x0 c3)), (.int (own_x8 c3))] cs1 fm h0 n0 (Nat.le_trans Z0 (Keep.refl h0 []).1) O1 G E1 F1 F2 V1 (by decide)) hZ (own_w hw 49 rfl) (own_w hw 8 rfl) (by decide) (by decide)) q102a q102c (g := (mkF m 3 #[.val (.ref a1), .val (.int (0 : Int32)), .val (.int (3 : Int32))] [(.ref a1), (.int (3 : Int32)), (.int (0 : Int32))])) rfl (by rw [hml]; rfl) (Steps.refl _) (argsL := []) (rest := [(.int (3 : Int32)), (.int (0 : Int32))]) (lenOf pd14 rfl) rfl (by show 2 * 0 + _ ≤ _; exact Nat.le_of_eq rfl) (hb hby d17_3) (fun _ _ => ⟨rfl, e0, (by decide : 0 + 0 ≤ _), (by decide : 0 + 0 ≤ _)⟩)
 dsimp only [Pt.U, Pt.locs, Pt.cells, Pt.slots] at X102 l102 y102 z102 st102 hQ102
 subst l102 y102 z102
 obtain ⟨rfl, N102q, q102_hh⟩ := hQ102
 have N102 := Fr.app N0 N102q
 obtain ⟨_, _, ⟨T103, L103, k103, n103⟩, -, X103, ⟨Lc103, hQ103, l103, y103, z103⟩, st103⟩ := Jvm.LawKit.callS X102 hx (y := (⟨"java/util/Objects", "checkFromToIndex", "(III)I"⟩ : MethodName)) hown (mvT hZ (own_w hw 91 rfl)) (mvT hZ (own_w hw 92 rfl)) (mvT hZ (own_w hw 93 rfl)) (mvT hZ (own_w hw 94 rfl)) (by decide) (backOf (W := 0) (rm18_3 l Z a0 hw []  h0 n0 (Nat.le_trans Z0 (Keep.refl h0 []).1) ) hZ (own_w hw 94 rfl) (own_w hw 93 rfl) (by decide) (by decide)) (g := (mkF m 6 #[.val (.ref a1), .val (.int (0 : Int32)), .val (.int (3 : Int32))] [(.int (4 : Int32)), (.int (3 : Int32)), (.int (0 : Int32))])) rfl (by rw [hml]; rfl) (argsL := [(.int (0 : Int32)), (.int (3 : Int32)), (.int (4 : Int32))]) (rest := []) (lenOf pd18 rfl) rfl (by show 2 * 0 + _ ≤ _; exact Nat.le_of_eq rfl) (hb hby d17_6) (fun _ _ => ⟨rfl, q102_hh, (by decide : 0 + 0 ≤ _), (by decide : 0 + 0 ≤ _)⟩)
 dsimp only [Pt.U, Pt.locs, Pt.cells, Pt.slots] at X103 l103 y103 z103 st103 hQ103
 subst l103 y103 z103
 obtain ⟨rfl, N103q, q103_hh⟩ := hQ103
 have N103 := Fr.app N102 N103q
 have p104 : Go p.tables e below _ (T103.setTop (mkF m 11 #[.val (.ref a1), .val (.int (0 : Int32)), .val (.int (3 : Int32))] [(.ref a1)])) := fun t_ k_ => (gc (gcT p101 st102) st103) t_ (by
  refine XS.pop X103.here hx rfl (hb hby d17_9) rfl rfl ?_
  refine XS.aloadN X103.here hx rfl (hb hby d17_10) rfl rfl ?_
  exact k_)
 obtain ⟨cq105, kq105, q105a, q105b, q105c⟩ := isOf hZ q103_hh E1
 obtain ⟨_, _, ⟨T105, L105, k105, n105⟩, -, X105, ⟨Lc105, hQ105, l105, y105, z105⟩, st105⟩ := X103.virtualBack hx (y := (⟨"java/lang/String", "isLatin1", "()Z"⟩ : MethodName)) (z := (⟨"java/lang/String", "isLatin1", "()Z"⟩ : MethodName)) hown (mvT hZ (own_w hw 60 rfl)) (mvT hZ (own_w hw 61 rfl)) (notFace_of_selects (args := #[]) (mvT hZ (own_w hw 63 rfl))) (mvT hZ (own_w hw 63 rfl)) (mvT hZ (own_w hw 62 rfl)) (by decide) (backOf (W := 0) (rm12_1 l Z a0 hw [] a1 cs1 fm h0 n0 (Nat.le_trans Z0 (Keep.refl h0 []).1) O1 G F1) hZ (own_w hw 64 rfl) (own_w hw 8 rfl) (by decide) (by decide)) q105a q105c (g := (mkF m 11 #[.val (.ref a1), .val (.int (0 : Int32)), .val (.int (3 : Int32))] [(.ref a1)])) rfl (by rw [hml]; rfl) (Steps.refl _) (argsL := []) (rest := []) (lenOf pd3 rfl) rfl (by show 2 * 0 + _ ≤ _; exact Nat.le_of_eq rfl) (hb hby d17_11) (fun _ _ => ⟨rfl, q103_hh, (by decide : 0 + 0 ≤ _), (by decide : 0 + 0 ≤ _)⟩)
 dsimp only [Pt.U, Pt.locs, Pt.cells, Pt.slots] at X105 l105 y105 z105 st105 hQ105
 subst l105 y105 z105
 obtain ⟨rfl, N105q, q105_hh⟩ := hQ105
 have N105 := Fr.app N103 N105q
 have p106 : Go p.tables e below _ (T105.setTop (mkF m 22 #[.val (.ref a1), .val (.int (0 : Int32)), .val (.int (3 : Int32))] [(.ref a1)])) := fun t_ k_ => (gcT p104 st105) t_ (by
  refine XS.ifYes X105.here hx rfl (pc0 := 14) (pc' := 21) rfl (hb hby d17_14) rfl ((if0 _ _).trans (teq (by decide : ((0 : Int32) = (0 : Int32)))).1) (by decide) (by decide) ?_
  refine XS.aloadN X105.here hx rfl (hb hby d17_21) rfl rfl ?_
  exact k_)
 obtain ⟨T107, X107, e107, st107⟩ := getF X105 hx hZ hown (host := "") (Or.inl (own_w hw 33 rfl)) Via.refl q105_hh F2 (g := (mkF m 22 #[.val (.ref a1), .val (.int (0 : Int32)), .val (.int (3 : Int32))] [(.ref a1)])) rfl rfl (hb hby d17_22)
 have p108 : Go p.tables e below _ (T107.setTop (mkF m 27 #[.val (.ref a1), .val (.int (0 : Int32)), .val (.int (3 : Int32))] [(.int (3 : Int32)), (.int (0 : Int32)), (.ref bv)])) := fun t_ k_ => (gc p106 st107) t_ (by
  refine XS.iloadN X107.here hx rfl (hb hby d17_25) rfl ?_
  refine XS.iloadN X107.here hx rfl (hb hby d17_26) rfl ?_
  exact k_)
 obtain ⟨_, _, ⟨T109, L109, k109, n109⟩, -, X109, ⟨Lc109, hQ109, l109, y109, z109⟩, st109⟩ := Jvm.LawKit.callS X107 hx (y := (⟨"java/lang/StringUTF16", "codePointCount", "([BII)I"⟩ : MethodName)) hown (mvT hZ (own_w hw 132 rfl)) (mvT hZ (own_w hw 133 rfl)) (mvT hZ (own_w hw 22 rfl)) (mvT hZ (own_w hw 134 rfl)) (by decide) (backOf (W := 0) (rm29_3 l Z a0 hw [] bv k1 c0 c1 c2 c3 cs1 fm h0 n0 (Nat.le_trans Z0 (Keep.refl h0 []).1) O1 G V1 a0_ b0_ a1_ b1_ a2_ b2_ a3_ b3_) hZ (own_w hw 134 rfl) (own_w hw 22 rfl) (by decide) (by decide)) (g := (mkF m 27 #[.val (.ref a1), .val (.int (0 : Int32)), .val (.int (3 : Int32))] [(.int (3 : Int32)), (.int (0 : Int32)), (.ref bv)])) rfl (by rw [hml]; rfl) (argsL := [(.ref bv), (.int (0 : Int32)), (.int (3 : Int32))]) (rest := []) (lenOf pd20 rfl) rfl (by show 2 * 0 + _ ≤ _; exact Nat.le_of_eq rfl) (hb hby d17_27) (fun _ _ => ⟨rfl, e107, (by decide : 0 + 0 ≤ _), (by decide : 0 + 0 ≤ _)⟩)
 dsimp only [Pt.U, Pt.locs, Pt.cells, Pt.slots] at X109 l109 y109 z109 st109 hQ109
 subst l109 y109 z109
 obtain ⟨rfl, N109q, q109_hh⟩ := hQ109
 have N109 := Fr.app N105 N109q
 obtain ⟨fs, hr, hrun, hended, hW, hsame⟩ := X109.leave (v := some (.int (own_cp3 c0 c1 c2 c3))) (fun h => by rw [Bd.returns] at h; cases h)
 refine ⟨_, _, (gc p108 st109) _ (retI X109 hx Bd.returns (hb hby d17_30) hr), hrun, hended, _, _, rfl, ?_, ⟨_, rfl⟩, hW, hsame.mono (by decide) (by decide)⟩
 show Q17_1_3 Z a1 bv k1 c0 c1 c2 c3 cs1 fm h0 n0 _ T109.heap _
 rw [q109_hh]
 exact ⟨rfl, N109, rfl⟩
theorem ef_rm16_1_3 (m : MethodId) (a1 : Addr) (a2 : Addr) (bv : Addr) (k1 : ClassId) (c0 : Int32) (c1 : Int32) (c2 : Int32) (c3 : Int32) (cs1 : Int32) (fm : Value) : entryFrame m #[(.ref a1), (.int (3 : Int32))] 2 = mkF m 0 #[.val (.ref a1), .val (.int (3 : Int32))] [] := by first | (simp [entryFrame, mkF, argsToLocals, Value.category]; done) | rfl
def Q16_1_3 (Z : State) (a1 : Addr) (a2 : Addr) (bv : Addr) (k1 : ClassId) (c0 : Int32) (c1 : Int32) (c2 : Int32) (c3 : Int32) (cs1 : Int32) (fm : Value) (h0 : Heap) (n0 : Nat) (v : Option Value) (h : Heap) (L : List Loc) : Prop := v = some (.int ((own_cp3 c0 c1 c2 c3) + (1 : Int32))) ∧ Fr n0 L ∧ (h = h0)
set_option maxRecDepth 65536 in
set_option maxHeartbeats 40000000 in
theorem rm16_1_3 (l : Launch) (Z : State) (a0 : Array Value) (hw : ∀ d ∈ tables_1, d.before a0 Z = true) (ws : List Jvm.Cond) (a1 : Addr) (a2 : Addr) (bv : Addr) (k1 : ClassId) (c0 : Int32) (c1 : Int32) (c2 : Int32) (c3 : Int32) (cs1 : Int32) (fm : Value) (h0 : Heap) (n0 : Nat) (Z0 : n0 ≤ h0.size) (O1 : Old Z n0 h0) (G : own_G Z cs1 fm) (a0_ : ¬ (c0 < (0 : Int32))) (b0_ : ¬ ((65535 : Int32) < c0)) (a1_ : ¬ (c1 < (0 : Int32))) (b1_ : ¬ ((65535 : Int32) < c1)) (a2_ : ¬ (c2 < (0 : Int32))) (b2_ : ¬ ((65535 : Int32) < c2)) (a3_ : ¬ (c3 < (0 : Int32))) (b3_ : ¬ ((65535 : Int32) < c3)) (T1 : Fld Z h0 a1 "com/example/subsume/subsume/model/Lines" "text" "Ljava/lang/String;" (.ref a2)) (E1 : Exa Z h0 a2 "java/lang/String") (F1 : Fld Z h0 a2 "java/lang/String" "coder" "B" (.int (1 : Int32))) (F2 : Fld Z h0 a2 "java/lang/String" "value" "[B" (.ref bv)) (V1 : Arv Z h0 bv k1 .byte (8 : Int32) [(.int (own_x0 c0)), (.int (own_x8 c0)), (.int (own_x0 c1)), (.int (own_x8 c1)), (.int (own_x0 c2)), (.int (own_x8 c2)), (.int (own_x0 c3)), (.int (own_x8 c3))] (.int (0 : Int32))) :
  MetFree l (⟨"com/example/subsume/subsume/model/Lines", "character", "(I)I"⟩ : MethodName) (head1 (Jvm.Cond.code (⟨"com/example/subsume/subsume/model/Lines", "character", "(I)I"⟩ : MethodName) prog_16_method_2_code 2 (some .int) :: ws) ({ frames := 7, cells := 0, slots := 0, locals := 105 } : Room)) (fun a U => a = #[(.ref a1), (.int (3 : Int32))] ∧ Z.Warmed39 U.vm ∧ U.heap = h0) (fun _ _ _ _ _ => True) (fun _ U o U' => ∃ v L, o = .returned v ∧ Q16_1_3 Z a1 a2 bv k1 c0 c1 c2 c3 cs1 fm h0 n0 v U'.heap L ∧ FrameEnd U o U' L ({ frames := 7, cells := 0, slots := 0, locals := 105 } : Room).cells ({ frames := 7, cells := 0, slots := 0, locals := 105 } : Room).slots) := by
 refine MetFree.of_bodySF pn16 hisR ?_
 intro p e s m args below meth c s₁ Bd hml0 hP hK
 obtain ⟨rfl, hZ, hh⟩ := hP
 have hx := Bd.exec
 have hby := Bd.bytes
 have hml : c.maxLocals = 2 := hml0
 have hown : s.vm.findClass "com/example/subsume/subsume/model/Lines" = some m.cls := findClass_of_methodNamed Bd.named
 have hnm := (name_of_methodNamed Bd.named Bd.method).1
 have X0 : Stand p l e ({ frames := 7, cells := 0, slots := 0, locals := 105 } : Room) s m #[(.ref a1), (.int (3 : Int32))] below meth c s₁ [] 0 0 := Stand.of_body Bd
 have e0 : s₁.heap = h0 := by rw [← hh, Bd.state]; rfl
 have N0 := Fr.nil n0
 have p0 : Go p.tables e below (s₁.setTop (entryFrame m #[(.ref a1), (.int (3 : Int32))] 2)) (s₁.setTop (mkF m 0 #[.val (.ref a1), .val (.int (3 : Int32))] [])) := fun t_ k_ => castTop (ef_rm16_1_3 m a1 a2 bv k1 c0 c1 c2 c3 cs1 fm) k_
 have p101 : Go p.tables e below _ (s₁.setTop (mkF m 1 #[.val (.ref a1), .val (.int (3 : Int32))] [(.ref a1)])) := fun t_ k_ => p0 t_ (by
  refine XS.aloadN X0.here hx rfl (hb hby d16_0) rfl rfl ?_
  exact k_)
 obtain ⟨T102, X102, e102, st102⟩ := getF X0 hx hZ hown (host := "") (Or.inl (own_w hw 43 rfl)) Via.refl e0 T1 (g := (mkF m 1 #[.val (.ref a1), .val (.int (3 : Int32))] [(.ref a1)])) rfl rfl (hb hby d16_1)
 have p103 : Go p.tables e below _ (T102.setTop (mkF m 6 #[.val (.ref a1), .val (.int (3 : Int32))] [(.int (3 : Int32)), (.int (0 : Int32)), (.ref a2)])) := fun t_ k_ => (gc p101 st102) t_ (by
  refine XS.iconst X102.here hx rfl (hb hby d16_4) ?_
  refine XS.iloadN X102.here hx rfl (hb hby d16_5) rfl ?_
  exact k_)
 obtain ⟨cq104, kq104, q104a, q104b, q104c⟩ := isOf hZ e102 E1
 obtain ⟨_, _, ⟨T104, L104, k104, n104⟩, -, X104, ⟨Lc104, hQ104, l104, y104, z104⟩, st104⟩ := X102.virtualBack hx (y := (⟨"java/lang/String", "codePointCount", "(II)I"⟩ : MethodName)) (z := (⟨"java/lang/String", "codePointCount", "(II)I"⟩ : MethodName)) hown (mvT hZ (own_w hw 85 rfl)) (mvT hZ (own_w hw 86 rfl)) (notFace_of_selects (args := #[]) (mvT hZ (own_w hw 88 rfl))) (mvT hZ (own_w hw 88 rfl)) (mvT hZ (own_w hw 87 rfl)) (by decide) (backOf (W := 0) (rm17_1_3 l Z a0 hw [] a2 bv k1 c0 c1 c2 c3 cs1 fm h0 n0 (Nat.le_trans Z0 (Keep.refl h0 []).1) O1 G a0_ b0_ a1_ b1_ a2_ b2_ a3_ b3_ E1 F1 F2 V1) hZ (own_w hw 89 rfl) (own_w hw 8 rfl) (by decide) (by decide)) q104a q104c (g := (mkF m 6 #[.val (.ref a1), .val (.int (3 : Int32))] [(.int (3 : Int32)), (.int (0 : Int32)), (.ref a2)])) rfl (by rw [hml]; rfl) (Steps.refl _) (argsL := [(.int (0 : Int32)), (.int (3 : Int32))]) (rest := []) (lenOf pd19 rfl) rfl (by show 2 * 0 + _ ≤ _; exact Nat.le_of_eq rfl) (hb hby d16_6) (fun _ _ => ⟨rfl, e102, (by decide : 0 + 0 ≤ _), (by decide : 0 + 0 ≤ _)⟩)
 dsimp only [Pt.U, Pt.locs, Pt.cells, Pt.slots] at X104 l104 y104 z104 st104 hQ104
 subst l104 y104 z104
 obtain ⟨rfl, N104q, q104_hh⟩ := hQ104
 have N104 := Fr.app N0 N104q
 have p105 : Go p.tables e below _ (T104.setTop (mkF m 11 #[.val (.ref a1), .val (.int (3 : Int32))] [(.int ((own_cp3 c0 c1 c2 c3) + (1 : Int32)))])) := fun t_ k_ => (gcT p103 st104) t_ (by
  refine XS.iconst X104.here hx rfl (hb hby d16_9) ?_
  refine XS.iadd X104.here hx rfl (hb hby d16_10) rfl ?_
  exact k_)
 obtain ⟨fs, hr, hrun, hended, hW, hsame⟩ := X104.leave (v := some (.int ((own_cp3 c0 c1 c2 c3) + (1 : Int32)))) (fun h => by rw [Bd.returns] at h; cases h)
 refine ⟨_, _, p105 _ (retI X104 hx Bd.returns (hb hby d16_11) hr), hrun, hended, _, _, rfl, ?_, ⟨_, rfl⟩, hW, hsame.mono (by decide) (by decide)⟩
 show Q16_1_3 Z a1 a2 bv k1 c0 c1 c2 c3 cs1 fm h0 n0 _ T104.heap _
 rw [q104_hh]
 exact ⟨rfl, N104, rfl⟩
theorem ef_rm19_4 (m : MethodId)  : entryFrame m #[(.int (0 : Int32)), (.int (4 : Int32)), (.int (4 : Int32)), .null] 4 = mkF m 0 #[.val (.int (0 : Int32)), .val (.int (4 : Int32)), .val (.int (4 : Int32)), .val .null] [] := by first | (simp [entryFrame, mkF, argsToLocals, Value.category]; done) | rfl
def Q19_4 (Z : State)  (h0 : Heap) (n0 : Nat) (v : Option Value) (h : Heap) (L : List Loc) : Prop := v = some (.int (0 : Int32)) ∧ Fr n0 L ∧ (h = h0)
set_option maxRecDepth 65536 in
set_option maxHeartbeats 40000000 in
theorem rm19_4 (l : Launch) (Z : State) (a0 : Array Value) (hw : ∀ d ∈ tables_1, d.before a0 Z = true) (ws : List Jvm.Cond)  (h0 : Heap) (n0 : Nat) (Z0 : n0 ≤ h0.size) :
  MetFree l (⟨"jdk/internal/util/Preconditions", "checkFromToIndex", "(IIILjava/util/function/BiFunction;)I"⟩ : MethodName) (head1 (Jvm.Cond.code (⟨"jdk/internal/util/Preconditions", "checkFromToIndex", "(IIILjava/util/function/BiFunction;)I"⟩ : MethodName) jdk_41_method_12_code 4 (some .int) :: ws) ({ frames := 0, cells := 0, slots := 0, locals := 0 } : Room)) (fun a U => a = #[(.int (0 : Int32)), (.int (4 : Int32)), (.int (4 : Int32)), .null] ∧ Z.Warmed39 U.vm ∧ U.heap = h0) (fun _ _ _ _ _ => True) (fun _ U o U' => ∃ v L, o = .returned v ∧ Q19_4 Z  h0 n0 v U'.heap L ∧ FrameEnd U o U' L ({ frames := 0, cells := 0, slots := 0, locals := 0 } : Room).cells ({ frames := 0, cells := 0, slots := 0, locals := 0 } : Room).slots) := by
 refine MetFree.of_bodySF pn19 hisR ?_
 intro p e s m args below meth c s₁ Bd hml0 hP hK
 obtain ⟨rfl, hZ, hh⟩ := hP
 have hx := Bd.exec
 have hby := Bd.bytes
 have hml : c.maxLocals = 4 := hml0
 have hown : s.vm.findClass "jdk/internal/util/Preconditions" = some m.cls := findClass_of_methodNamed Bd.named
 have hnm := (name_of_methodNamed Bd.named Bd.method).1
 have X0 : Stand p l e ({ frames := 0, cells := 0, slots := 0, locals := 0 } : Room) s m #[(.int (0 : Int32)), (.int (4 : Int32)), (.int (4 : Int32)), .null] below meth c s₁ [] 0 0 := Stand.of_body Bd
 have e0 : s₁.heap = h0 := by rw [← hh, Bd.state]; rfl
 have N0 := Fr.nil n0
 have p0 : Go p.tables e below (s₁.setTop (entryFrame m #[(.int (0 : Int32)), (.int (4 : Int32)), (.int (4 : Int32)), .null] 4)) (s₁.setTop (mkF m 0 #[.val (.int (0 : Int32)), .val (.int (4 : Int32)), .val (.int (4 : Int32)), .val .null] [])) := fun t_ k_ => castTop (ef_rm19_4 m ) k_
 have p101 : Go p.tables e below _ (s₁.setTop (mkF m 23 #[.val (.int (0 : Int32)), .val (.int (4 : Int32)), .val (.int (4 : Int32)), .val .null] [(.int (0 : Int32))])) := fun t_ k_ => p0 t_ (by
  refine XS.iloadN X0.here hx rfl (hb hby d19_0) rfl ?_
  refine XS.ifNo X0.here hx rfl (hb hby d19_1) rfl ((if0 _ _).trans (flt (by decide : ¬ ((0 : Int32) < (0 : Int32)))).1) ?_
  refine XS.iloadN X0.here hx rfl (hb hby d19_4) rfl ?_
  refine XS.iloadN X0.here hx rfl (hb hby d19_5) rfl ?_
  refine XS.icmpNo X0.here hx rfl (hb hby d19_6) rfl (flt (by decide : ¬ ((4 : Int32) < (0 : Int32)))).2.2.1 ?_
  refine XS.iloadN X0.here hx rfl (hb hby d19_9) rfl ?_
  refine XS.iloadN X0.here hx rfl (hb hby d19_10) rfl ?_
  refine XS.icmpYes X0.here hx rfl (pc0 := 11) (pc' := 22) rfl (hb hby d19_11) rfl (flt (by decide : ¬ ((4 : Int32) < (4 : Int32)))).2.2.2 (by decide) (by decide) ?_
  refine XS.iloadN X0.here hx rfl (hb hby d19_22) rfl ?_
  exact k_)
 obtain ⟨fs, hr, hrun, hended, hW, hsame⟩ := X0.leave (v := some (.int (0 : Int32))) (fun h => by rw [Bd.returns] at h; cases h)
 refine ⟨_, _, p101 _ (retI X0 hx Bd.returns (hb hby d19_23) hr), hrun, hended, _, _, rfl, ?_, ⟨_, rfl⟩, hW, hsame.mono (by decide) (by decide)⟩
 show Q19_4 Z  h0 n0 _ s₁.heap _
 rw [e0]
 exact ⟨rfl, N0, rfl⟩
theorem ef_rm18_4 (m : MethodId)  : entryFrame m #[(.int (0 : Int32)), (.int (4 : Int32)), (.int (4 : Int32))] 3 = mkF m 0 #[.val (.int (0 : Int32)), .val (.int (4 : Int32)), .val (.int (4 : Int32))] [] := by first | (simp [entryFrame, mkF, argsToLocals, Value.category]; done) | rfl
def Q18_4 (Z : State)  (h0 : Heap) (n0 : Nat) (v : Option Value) (h : Heap) (L : List Loc) : Prop := v = some (.int (0 : Int32)) ∧ Fr n0 L ∧ (h = h0)
set_option maxRecDepth 65536 in
set_option maxHeartbeats 40000000 in
theorem rm18_4 (l : Launch) (Z : State) (a0 : Array Value) (hw : ∀ d ∈ tables_1, d.before a0 Z = true) (ws : List Jvm.Cond)  (h0 : Heap) (n0 : Nat) (Z0 : n0 ≤ h0.size) :
  MetFree l (⟨"java/util/Objects", "checkFromToIndex", "(III)I"⟩ : MethodName) (head1 (Jvm.Cond.code (⟨"java/util/Objects", "checkFromToIndex", "(III)I"⟩ : MethodName) jdk_31_method_18_code 3 (some .int) :: ws) ({ frames := 1, cells := 0, slots := 0, locals := 15 } : Room)) (fun a U => a = #[(.int (0 : Int32)), (.int (4 : Int32)), (.int (4 : Int32))] ∧ Z.Warmed39 U.vm ∧ U.heap = h0) (fun _ _ _ _ _ => True) (fun _ U o U' => ∃ v L, o = .returned v ∧ Q18_4 Z  h0 n0 v U'.heap L ∧ FrameEnd U o U' L ({ frames := 1, cells := 0, slots := 0, locals := 15 } : Room).cells ({ frames := 1, cells := 0, slots := 0, locals := 15 } : Room).slots) := by
 refine MetFree.of_bodySF pn18 hisR ?_
 intro p e s m args below meth c s₁ Bd hml0 hP hK
 obtain ⟨rfl, hZ, hh⟩ := hP
 have hx := Bd.exec
 have hby := Bd.bytes
 have hml : c.maxLocals = 3 := hml0
 have hown : s.vm.findClass "java/util/Objects" = some m.cls := findClass_of_methodNamed Bd.named
 have hnm := (name_of_methodNamed Bd.named Bd.method).1
 have X0 : Stand p l e ({ frames := 1, cells := 0, slots := 0, locals := 15 } : Room) s m #[(.int (0 : Int32)), (.int (4 : Int32)), (.int (4 : Int32))] below meth c s₁ [] 0 0 := Stand.of_body Bd
 have e0 : s₁.heap = h0 := by rw [← hh, Bd.state]; rfl
 have N0 := Fr.nil n0
 have p0 : Go p.tables e below (s₁.setTop (entryFrame m #[(.int (0 : Int32)), (.int (4 : Int32)), (.int (4 : Int32))] 3)) (s₁.setTop (mkF m 0 #[.val (.int (0 : Int32)), .val (.int (4 : Int32)), .val (.int (4 : Int32))] [])) := fun t_ k_ => castTop (ef_rm18_4 m ) k_
 have p101 : Go p.tables e below _ (s₁.setTop (mkF m 4 #[.val (.int (0 : Int32)), .val (.int (4 : Int32)), .val (.int (4 : Int32))] [.null, (.int (4 : Int32)), (.int (4 : Int32)), (.int (0 : Int32))])) := fun t_ k_ => p0 t_ (by
  refine XS.iloadN X0.here hx rfl (hb hby d18_0) rfl ?_
  refine XS.iloadN X0.here hx rfl (hb hby d18_1) rfl ?_
  refine XS.iloadN X0.here hx rfl (hb hby d18_2) rfl ?_
  refine XS.aconstNull X0.here hx rfl (hb hby d18_3) ?_
  exact k_)
 obtain ⟨_, _, ⟨T102, L102, k102, n102⟩, -, X102, ⟨Lc102, hQ102, l102, y102, z102⟩, st102⟩ := Jvm.LawKit.callS X0 hx (y := (⟨"jdk/internal/util/Preconditions", "checkFromToIndex", "(IIILjava/util/function/BiFunction;)I"⟩ : MethodName)) hown (mvT hZ (own_w hw 95 rfl)) (mvT hZ (own_w hw 96 rfl)) (mvT hZ (own_w hw 73 rfl)) (mvT hZ (own_w hw 97 rfl)) (by decide) (backOf (W := 0) (rm19_4 l Z a0 hw []  h0 n0 (Nat.le_trans Z0 (Keep.refl h0 []).1) ) hZ (own_w hw 97 rfl) (own_w hw 73 rfl) (by decide) (by decide)) (g := (mkF m 4 #[.val (.int (0 : Int32)), .val (.int (4 : Int32)), .val (.int (4 : Int32))] [.null, (.int (4 : Int32)), (.int (4 : Int32)), (.int (0 : Int32))])) rfl (by rw [hml]; rfl) (argsL := [(.int (0 : Int32)), (.int (4 : Int32)), (.int (4 : Int32)), .null]) (rest := []) (lenOf pd16 rfl) rfl (by show 2 * 0 + _ ≤ _; exact Nat.le_of_eq rfl) (hb hby d18_4) (fun _ _ => ⟨rfl, e0, (by decide : 0 + 0 ≤ _), (by decide : 0 + 0 ≤ _)⟩)
 dsimp only [Pt.U, Pt.locs, Pt.cells, Pt.slots] at X102 l102 y102 z102 st102 hQ102
 subst l102 y102 z102
 obtain ⟨rfl, N102q, q102_hh⟩ := hQ102
 have N102 := Fr.app N0 N102q
 obtain ⟨fs, hr, hrun, hended, hW, hsame⟩ := X102.leave (v := some (.int (0 : Int32))) (fun h => by rw [Bd.returns] at h; cases h)
 refine ⟨_, _, (gc p101 st102) _ (retI X102 hx Bd.returns (hb hby d18_7) hr), hrun, hended, _, _, rfl, ?_, ⟨_, rfl⟩, hW, hsame.mono (by decide) (by decide)⟩
 show Q18_4 Z  h0 n0 _ T102.heap _
 rw [q102_hh]
 exact ⟨rfl, N102, rfl⟩
set_option maxRecDepth 65536 in
set_option maxHeartbeats 40000000 in
theorem cp4_4 {p : Program} {l : Launch} {e : Env} {s : State} {m : MethodId} {args : Array Value} {below : List Frame} {meth : Method} {c : Code} (Z : State) (a0 : Array Value) (hx : p.tables.exec = Jvm.exec) (hZ : Z.Warmed39 s.vm) (hw : ∀ d ∈ tables_1, d.before a0 Z = true) (hby : c.code = jdk_52_method_11_code) (hml : c.maxLocals = 6) (hown : s.vm.findClass "java/lang/StringUTF16" = some m.cls) (a1 : Addr) (k1 : ClassId) (c0 c1 c2 c3 : Int32) (cs1 : Int32) (fm : Value) (h0 : Heap) (n0 : Nat) (Z0 : n0 ≤ h0.size) (O1 : Old Z n0 h0) (G : own_G Z cs1 fm) (V1 : Arv Z h0 a1 k1 .byte (8 : Int32) [(.int (own_x0 c0)), (.int (own_x8 c0)), (.int (own_x0 c1)), (.int (own_x8 c1)), (.int (own_x0 c2)), (.int (own_x8 c2)), (.int (own_x0 c3)), (.int (own_x8 c3))] (.int (0 : Int32))) (a0_ : ¬ (c0 < (0 : Int32))) (b0_ : ¬ ((65535 : Int32) < c0)) (a1_ : ¬ (c1 < (0 : Int32))) (b1_ : ¬ ((65535 : Int32) < c1)) (a2_ : ¬ (c2 < (0 : Int32))) (b2_ : ¬ ((65535 : Int32) < c2)) (a3_ : ¬ (c3 < (0 : Int32))) (b3_ : ¬ ((65535 : Int32) < c3)) (nn : Int32) (T : State) (locs : List Loc) (X0 : Stand p l e ({ frames := 4, cells := 0, slots := 0, locals := 60 } : Room) s m args below meth c T locs 0 0) (e0 : T.heap = h0) (N0 : Fr n0 locs) : ∃ (T' : State) (L' : List Loc) (j : Int32), Stand p l e ({ frames := 4, cells := 0, slots := 0, locals := 60 } : Room) s m args below meth c T' L' 0 0 ∧ T'.heap = h0 ∧ Fr n0 L' ∧ Go p.tables e below (T.setTop (mkF m 44 #[.val (.ref a1), .val (.int (0 : Int32)), .val (.int (4 : Int32)), .val (.int (0 : Int32)), .val (.int nn), .val (.int (4 : Int32))] [])) (T'.setTop (mkF m 88 #[.val (.ref a1), .val (.int (0 : Int32)), .val (.int (4 : Int32)), .val (.int (0 : Int32)), .val (.int (nn)), .val (.int j)] [])) := by
 have p0 : Go p.tables e below (T.setTop (mkF m 44 #[.val (.ref a1), .val (.int (0 : Int32)), .val (.int (4 : Int32)), .val (.int (0 : Int32)), .val (.int nn), .val (.int (4 : Int32))] [])) (T.setTop (mkF m 44 #[.val (.ref a1), .val (.int (0 : Int32)), .val (.int (4 : Int32)), .val (.int (0 : Int32)), .val (.int nn), .val (.int (4 : Int32))] [])) := fun t_ k_ => k_
 have p101 : Go p.tables e below _ (T.setTop (mkF m 88 #[.val (.ref a1), .val (.int (0 : Int32)), .val (.int (4 : Int32)), .val (.int (0 : Int32)), .val (.int nn), .val (.int (4 : Int32))] [])) := fun t_ k_ => p0 t_ (by
  refine XS.iload X0.here hx rfl (hb hby d30_44) rfl ?_
  refine XS.iloadN X0.here hx rfl (hb hby d30_46) rfl ?_
  refine XS.iconst X0.here hx rfl (hb hby d30_47) ?_
  refine XS.isub X0.here hx rfl (hb hby d30_48) rfl ?_
  refine XS.icmpYes X0.here hx rfl (pc0 := 49) (pc' := 88) rfl (hb hby d30_49) rfl (flt (by decide : ¬ ((4 : Int32) < (3 : Int32)))).2.1 (by decide) (by decide) ?_
  exact k_)
 exact ⟨_, _, _, X0, e0, N0, p101⟩
set_option maxRecDepth 65536 in
set_option maxHeartbeats 40000000 in
theorem cp4_3 {p : Program} {l : Launch} {e : Env} {s : State} {m : MethodId} {args : Array Value} {below : List Frame} {meth : Method} {c : Code} (Z : State) (a0 : Array Value) (hx : p.tables.exec = Jvm.exec) (hZ : Z.Warmed39 s.vm) (hw : ∀ d ∈ tables_1, d.before a0 Z = true) (hby : c.code = jdk_52_method_11_code) (hml : c.maxLocals = 6) (hown : s.vm.findClass "java/lang/StringUTF16" = some m.cls) (a1 : Addr) (k1 : ClassId) (c0 c1 c2 c3 : Int32) (cs1 : Int32) (fm : Value) (h0 : Heap) (n0 : Nat) (Z0 : n0 ≤ h0.size) (O1 : Old Z n0 h0) (G : own_G Z cs1 fm) (V1 : Arv Z h0 a1 k1 .byte (8 : Int32) [(.int (own_x0 c0)), (.int (own_x8 c0)), (.int (own_x0 c1)), (.int (own_x8 c1)), (.int (own_x0 c2)), (.int (own_x8 c2)), (.int (own_x0 c3)), (.int (own_x8 c3))] (.int (0 : Int32))) (a0_ : ¬ (c0 < (0 : Int32))) (b0_ : ¬ ((65535 : Int32) < c0)) (a1_ : ¬ (c1 < (0 : Int32))) (b1_ : ¬ ((65535 : Int32) < c1)) (a2_ : ¬ (c2 < (0 : Int32))) (b2_ : ¬ ((65535 : Int32) < c2)) (a3_ : ¬ (c3 < (0 : Int32))) (b3_ : ¬ ((65535 : Int32) < c3)) (nn : Int32) (T : State) (locs : List Loc) (X0 : Stand p l e ({ frames := 4, cells := 0, slots := 0, locals := 60 } : Room) s m args below meth c T locs 0 0) (e0 : T.heap = h0) (N0 : Fr n0 locs) : ∃ (T' : State) (L' : List Loc) (j : Int32), Stand p l e ({ frames := 4, cells := 0, slots := 0, locals := 60 } : Room) s m args below meth c T' L' 0 0 ∧ T'.heap = h0 ∧ Fr n0 L' ∧ Go p.tables e below (T.setTop (mkF m 44 #[.val (.ref a1), .val (.int (0 : Int32)), .val (.int (4 : Int32)), .val (.int (0 : Int32)), .val (.int nn), .val (.int (3 : Int32))] [])) (T'.setTop (mkF m 88 #[.val (.ref a1), .val (.int (0 : Int32)), .val (.int (4 : Int32)), .val (.int (0 : Int32)), .val (.int (nn)), .val (.int j)] [])) := by
 have p0 : Go p.tables e below (T.setTop (mkF m 44 #[.val (.ref a1), .val (.int (0 : Int32)), .val (.int (4 : Int32)), .val (.int (0 : Int32)), .val (.int nn), .val (.int (3 : Int32))] [])) (T.setTop (mkF m 44 #[.val (.ref a1), .val (.int (0 : Int32)), .val (.int (4 : Int32)), .val (.int (0 : Int32)), .val (.int nn), .val (.int (3 : Int32))] [])) := fun t_ k_ => k_
 have p101 : Go p.tables e below _ (T.setTop (mkF m 88 #[.val (.ref a1), .val (.int (0 : Int32)), .val (.int (4 : Int32)), .val (.int (0 : Int32)), .val (.int nn), .val (.int (3 : Int32))] [])) := fun t_ k_ => p0 t_ (by
  refine XS.iload X0.here hx rfl (hb hby d30_44) rfl ?_
  refine XS.iloadN X0.here hx rfl (hb hby d30_46) rfl ?_
  refine XS.iconst X0.here hx rfl (hb hby d30_47) ?_
  refine XS.isub X0.here hx rfl (hb hby d30_48) rfl ?_
  refine XS.icmpYes X0.here hx rfl (pc0 := 49) (pc' := 88) rfl (hb hby d30_49) rfl (flt (by decide : ¬ ((3 : Int32) < (3 : Int32)))).2.1 (by decide) (by decide) ?_
  exact k_)
 exact ⟨_, _, _, X0, e0, N0, p101⟩
set_option maxRecDepth 65536 in
set_option maxHeartbeats 40000000 in
theorem cp4_2 {p : Program} {l : Launch} {e : Env} {s : State} {m : MethodId} {args : Array Value} {below : List Frame} {meth : Method} {c : Code} (Z : State) (a0 : Array Value) (hx : p.tables.exec = Jvm.exec) (hZ : Z.Warmed39 s.vm) (hw : ∀ d ∈ tables_1, d.before a0 Z = true) (hby : c.code = jdk_52_method_11_code) (hml : c.maxLocals = 6) (hown : s.vm.findClass "java/lang/StringUTF16" = some m.cls) (a1 : Addr) (k1 : ClassId) (c0 c1 c2 c3 : Int32) (cs1 : Int32) (fm : Value) (h0 : Heap) (n0 : Nat) (Z0 : n0 ≤ h0.size) (O1 : Old Z n0 h0) (G : own_G Z cs1 fm) (V1 : Arv Z h0 a1 k1 .byte (8 : Int32) [(.int (own_x0 c0)), (.int (own_x8 c0)), (.int (own_x0 c1)), (.int (own_x8 c1)), (.int (own_x0 c2)), (.int (own_x8 c2)), (.int (own_x0 c3)), (.int (own_x8 c3))] (.int (0 : Int32))) (a0_ : ¬ (c0 < (0 : Int32))) (b0_ : ¬ ((65535 : Int32) < c0)) (a1_ : ¬ (c1 < (0 : Int32))) (b1_ : ¬ ((65535 : Int32) < c1)) (a2_ : ¬ (c2 < (0 : Int32))) (b2_ : ¬ ((65535 : Int32) < c2)) (a3_ : ¬ (c3 < (0 : Int32))) (b3_ : ¬ ((65535 : Int32) < c3)) (nn : Int32) (T : State) (locs : List Loc) (X0 : Stand p l e ({ frames := 4, cells := 0, slots := 0, locals := 60 } : Room) s m args below meth c T locs 0 0) (e0 : T.heap = h0) (N0 : Fr n0 locs) : ∃ (T' : State) (L' : List Loc) (j : Int32), Stand p l e ({ frames := 4, cells := 0, slots := 0, locals := 60 } : Room) s m args below meth c T' L' 0 0 ∧ T'.heap = h0 ∧ Fr n0 L' ∧ Go p.tables e below (T.setTop (mkF m 44 #[.val (.ref a1), .val (.int (0 : Int32)), .val (.int (4 : Int32)), .val (.int (0 : Int32)), .val (.int nn), .val (.int (2 : Int32))] [])) (T'.setTop (mkF m 88 #[.val (.ref a1), .val (.int (0 : Int32)), .val (.int (4 : Int32)), .val (.int (0 : Int32)), .val (.int (nn - own_pr c2 c3)), .val (.int j)] [])) := by
 have p0 : Go p.tables e below (T.setTop (mkF m 44 #[.val (.ref a1), .val (.int (0 : Int32)), .val (.int (4 : Int32)), .val (.int (0 : Int32)), .val (.int nn), .val (.int (2 : Int32))] [])) (T.setTop (mkF m 44 #[.val (.ref a1), .val (.int (0 : Int32)), .val (.int (4 : Int32)), .val (.int (0 : Int32)), .val (.int nn), .val (.int (2 : Int32))] [])) := fun t_ k_ => k_
 have p101 : Go p.tables e below _ (T.setTop (mkF m 58 #[.val (.ref a1), .val (.int (0 : Int32)), .val (.int (4 : Int32)), .val (.int (0 : Int32)), .val (.int nn), .val (.int (3 : Int32))] [(.int (2 : Int32)), (.ref a1)])) := fun t_ k_ => p0 t_ (by
  refine XS.iload X0.here hx rfl (hb hby d30_44) rfl ?_
  refine XS.iloadN X0.here hx rfl (hb hby d30_46) rfl ?_
  refine XS.iconst X0.here hx rfl (hb hby d30_47) ?_
  refine XS.isub X0.here hx rfl (hb hby d30_48) rfl ?_
  refine XS.icmpNo X0.here hx rfl (hb hby d30_49) rfl (tlt (by decide : ((2 : Int32) < (3 : Int32)))).2.1 ?_
  refine XS.aloadN X0.here hx rfl (hb hby d30_52) rfl rfl ?_
  refine XS.iload X0.here hx rfl (hb hby d30_53) rfl ?_
  refine XS.iinc X0.here hx rfl (hb hby d30_55) rfl (l' := #[.val (.ref a1), .val (.int (0 : Int32)), .val (.int (4 : Int32)), .val (.int (0 : Int32)), .val (.int nn), .val (.int (3 : Int32))]) rfl ?_
  exact k_)
 obtain ⟨_, _, ⟨T102, L102, k102, n102⟩, -, X102, ⟨Lc102, hQ102, l102, y102, z102⟩, st102⟩ := Jvm.LawKit.callS X0 hx (y := (⟨"java/lang/StringUTF16", "getChar", "([BI)C"⟩ : MethodName)) hown (mvT hZ (own_w hw 119 rfl)) (mvT hZ (own_w hw 120 rfl)) (mvT hZ (own_w hw 22 rfl)) (mvT hZ (own_w hw 121 rfl)) (by decide) (backOf (W := 0) (rm25 l Z a0 hw [] a1 (2 : Int32) k1 (8 : Int32) [(.int (own_x0 c0)), (.int (own_x8 c0)), (.int (own_x0 c1)), (.int (own_x8 c1)), (.int (own_x0 c2)), (.int (own_x8 c2)), (.int (own_x0 c3)), (.int (own_x8 c3))] (own_x0 c2) (own_x8 c2) c2 cs1 fm h0 n0 (Nat.le_trans Z0 (Keep.refl h0 []).1) O1 G V1 (by decide) (by decide) rfl rfl (own_l16 c2 a2_ b2_)) hZ (own_w hw 121 rfl) (own_w hw 22 rfl) (by decide) (by decide)) (g := (mkF m 58 #[.val (.ref a1), .val (.int (0 : Int32)), .val (.int (4 : Int32)), .val (.int (0 : Int32)), .val (.int nn), .val (.int (3 : Int32))] [(.int (2 : Int32)), (.ref a1)])) rfl (by rw [hml]; rfl) (argsL := [(.ref a1), (.int (2 : Int32))]) (rest := []) (lenOf pd4 rfl) rfl (by show 2 * 0 + _ ≤ _; exact Nat.le_of_eq rfl) (hb hby d30_58) (fun _ _ => ⟨rfl, e0, (by decide : 0 + 0 ≤ _), (by decide : 0 + 0 ≤ _)⟩)
 dsimp only [Pt.U, Pt.locs, Pt.cells, Pt.slots] at X102 l102 y102 z102 st102 hQ102
 subst l102 y102 z102
 obtain ⟨rfl, N102q, q102_hh⟩ := hQ102
 have N102 := Fr.app N0 N102q
 obtain ⟨_, _, ⟨T103, L103, k103, n103⟩, -, X103, ⟨Lc103, hQ103, l103, y103, z103⟩, st103⟩ := Jvm.LawKit.callS X102 hx (y := (⟨"java/lang/Character", "isHighSurrogate", "(C)Z"⟩ : MethodName)) hown (mvT hZ (own_w hw 138 rfl)) (mvT hZ (own_w hw 139 rfl)) (mvT hZ (own_w hw 140 rfl)) (mvT hZ (own_w hw 141 rfl)) (by decide) (backOf (W := 0) (rm31 l Z a0 hw [] c2 h0 n0 (Nat.le_trans Z0 (Keep.refl h0 []).1) ) hZ (own_w hw 141 rfl) (own_w hw 140 rfl) (by decide) (by decide)) (g := (mkF m 61 #[.val (.ref a1), .val (.int (0 : Int32)), .val (.int (4 : Int32)), .val (.int (0 : Int32)), .val (.int nn), .val (.int (3 : Int32))] [(.int c2)])) rfl (by rw [hml]; rfl) (argsL := [(.int c2)]) (rest := []) (lenOf pd21 rfl) rfl (by show 2 * 0 + _ ≤ _; exact Nat.le_of_eq rfl) (hb hby d30_61) (fun _ _ => ⟨rfl, q102_hh, (by decide : 0 + 0 ≤ _), (by decide : 0 + 0 ≤ _)⟩)
 dsimp only [Pt.U, Pt.locs, Pt.cells, Pt.slots] at X103 l103 y103 z103 st103 hQ103
 subst l103 y103 z103
 obtain ⟨rfl, N103q, q103_hh⟩ := hQ103
 have N103 := Fr.app N102 N103q
 by_cases c104 : (own_hi c2) = (0 : Int32)
 ·have p105 : Go p.tables e below _ (T103.setTop (mkF m 44 #[.val (.ref a1), .val (.int (0 : Int32)), .val (.int (4 : Int32)), .val (.int (0 : Int32)), .val (.int nn), .val (.int (3 : Int32))] [])) := fun t_ k_ => (gc (gc p101 st102) st103) t_ (by
   refine XS.ifYes X103.here hx rfl (pc0 := 64) (pc' := 44) rfl (hb hby d30_64) rfl ((if0 _ _).trans (teq c104).1) (by decide) (by decide) ?_
   exact k_)
  obtain ⟨T', L', j, X', e', N', g'⟩ := cp4_3 Z a0 hx hZ hw hby hml hown a1 k1 c0 c1 c2 c3 cs1 fm h0 n0 Z0 O1 G V1 a0_ b0_ a1_ b1_ a2_ b2_ a3_ b3_ nn T103 _ X103 q103_hh N103
  refine ⟨T', L', j, X', e', N', ?_⟩
  have eq : nn - own_pr c2 c3 = nn := by simp_all [own_pr, Int32.sub_eq_add_neg]
  rw [eq]; exact fun t_ k_ => p105 t_ (g' t_ k_)
 ·have p106 : Go p.tables e below _ (T103.setTop (mkF m 67 #[.val (.ref a1), .val (.int (0 : Int32)), .val (.int (4 : Int32)), .val (.int (0 : Int32)), .val (.int nn), .val (.int (3 : Int32))] [])) := fun t_ k_ => (gc (gc p101 st102) st103) t_ (by
   refine XS.ifNo X103.here hx rfl (hb hby d30_64) rfl ((if0 _ _).trans (feq c104).1) ?_
   exact k_)
  have p107 : Go p.tables e below _ (T103.setTop (mkF m 70 #[.val (.ref a1), .val (.int (0 : Int32)), .val (.int (4 : Int32)), .val (.int (0 : Int32)), .val (.int nn), .val (.int (3 : Int32))] [(.int (3 : Int32)), (.ref a1)])) := fun t_ k_ => p106 t_ (by
   refine XS.aloadN X103.here hx rfl (hb hby d30_67) rfl rfl ?_
   refine XS.iload X103.here hx rfl (hb hby d30_68) rfl ?_
   exact k_)
  obtain ⟨_, _, ⟨T108, L108, k108, n108⟩, -, X108, ⟨Lc108, hQ108, l108, y108, z108⟩, st108⟩ := Jvm.LawKit.callS X103 hx (y := (⟨"java/lang/StringUTF16", "getChar", "([BI)C"⟩ : MethodName)) hown (mvT hZ (own_w hw 119 rfl)) (mvT hZ (own_w hw 120 rfl)) (mvT hZ (own_w hw 22 rfl)) (mvT hZ (own_w hw 121 rfl)) (by decide) (backOf (W := 0) (rm25 l Z a0 hw [] a1 (3 : Int32) k1 (8 : Int32) [(.int (own_x0 c0)), (.int (own_x8 c0)), (.int (own_x0 c1)), (.int (own_x8 c1)), (.int (own_x0 c2)), (.int (own_x8 c2)), (.int (own_x0 c3)), (.int (own_x8 c3))] (own_x0 c3) (own_x8 c3) c3 cs1 fm h0 n0 (Nat.le_trans Z0 (Keep.refl h0 []).1) O1 G V1 (by decide) (by decide) rfl rfl (own_l16 c3 a3_ b3_)) hZ (own_w hw 121 rfl) (own_w hw 22 rfl) (by decide) (by decide)) (g := (mkF m 70 #[.val (.ref a1), .val (.int (0 : Int32)), .val (.int (4 : Int32)), .val (.int (0 : Int32)), .val (.int nn), .val (.int (3 : Int32))] [(.int (3 : Int32)), (.ref a1)])) rfl (by rw [hml]; rfl) (argsL := [(.ref a1), (.int (3 : Int32))]) (rest := []) (lenOf pd4 rfl) rfl (by show 2 * 0 + _ ≤ _; exact Nat.le_of_eq rfl) (hb hby d30_70) (fun _ _ => ⟨rfl, q103_hh, (by decide : 0 + 0 ≤ _), (by decide : 0 + 0 ≤ _)⟩)
  dsimp only [Pt.U, Pt.locs, Pt.cells, Pt.slots] at X108 l108 y108 z108 st108 hQ108
  subst l108 y108 z108
  obtain ⟨rfl, N108q, q108_hh⟩ := hQ108
  have N108 := Fr.app N103 N108q
  obtain ⟨_, _, ⟨T109, L109, k109, n109⟩, -, X109, ⟨Lc109, hQ109, l109, y109, z109⟩, st109⟩ := Jvm.LawKit.callS X108 hx (y := (⟨"java/lang/Character", "isLowSurrogate", "(C)Z"⟩ : MethodName)) hown (mvT hZ (own_w hw 144 rfl)) (mvT hZ (own_w hw 145 rfl)) (mvT hZ (own_w hw 140 rfl)) (mvT hZ (own_w hw 146 rfl)) (by decide) (backOf (W := 0) (rm32 l Z a0 hw [] c3 h0 n0 (Nat.le_trans Z0 (Keep.refl h0 []).1) ) hZ (own_w hw 146 rfl) (own_w hw 140 rfl) (by decide) (by decide)) (g := (mkF m 73 #[.val (.ref a1), .val (.int (0 : Int32)), .val (.int (4 : Int32)), .val (.int (0 : Int32)), .val (.int nn), .val (.int (3 : Int32))] [(.int c3)])) rfl (by rw [hml]; rfl) (argsL := [(.int c3)]) (rest := []) (lenOf pd21 rfl) rfl (by show 2 * 0 + _ ≤ _; exact Nat.le_of_eq rfl) (hb hby d30_73) (fun _ _ => ⟨rfl, q108_hh, (by decide : 0 + 0 ≤ _), (by decide : 0 + 0 ≤ _)⟩)
  dsimp only [Pt.U, Pt.locs, Pt.cells, Pt.slots] at X109 l109 y109 z109 st109 hQ109
  subst l109 y109 z109
  obtain ⟨rfl, N109q, q109_hh⟩ := hQ109
  have N109 := Fr.app N108 N109q
  by_cases c110 : (own_lo c3) = (0 : Int32)
  ·have p111 : Go p.tables e below _ (T109.setTop (mkF m 44 #[.val (.ref a1), .val (.int (0 : Int32)), .val (.int (4 : Int32)), .val (.int (0 : Int32)), .val (.int nn), .val (.int (3 : Int32))] [])) := fun t_ k_ => (gc (gc p107 st108) st109) t_ (by
    refine XS.ifYes X109.here hx rfl (pc0 := 76) (pc' := 44) rfl (hb hby d30_76) rfl ((if0 _ _).trans (teq c110).1) (by decide) (by decide) ?_
    exact k_)
   obtain ⟨T', L', j, X', e', N', g'⟩ := cp4_3 Z a0 hx hZ hw hby hml hown a1 k1 c0 c1 c2 c3 cs1 fm h0 n0 Z0 O1 G V1 a0_ b0_ a1_ b1_ a2_ b2_ a3_ b3_ nn T109 _ X109 q109_hh N109
   refine ⟨T', L', j, X', e', N', ?_⟩
   have eq : nn - own_pr c2 c3 = nn := by simp_all [own_pr, Int32.sub_eq_add_neg]
   rw [eq]; exact fun t_ k_ => p111 t_ (g' t_ k_)
  ·have p112 : Go p.tables e below _ (T109.setTop (mkF m 79 #[.val (.ref a1), .val (.int (0 : Int32)), .val (.int (4 : Int32)), .val (.int (0 : Int32)), .val (.int nn), .val (.int (3 : Int32))] [])) := fun t_ k_ => (gc (gc p107 st108) st109) t_ (by
    refine XS.ifNo X109.here hx rfl (hb hby d30_76) rfl ((if0 _ _).trans (feq c110).1) ?_
    exact k_)
   have p113 : Go p.tables e below _ (T109.setTop (mkF m 44 #[.val (.ref a1), .val (.int (0 : Int32)), .val (.int (4 : Int32)), .val (.int (0 : Int32)), .val (.int (nn + (-1 : Int32))), .val (.int (4 : Int32))] [])) := fun t_ k_ => p112 t_ (by
    refine XS.iinc X109.here hx rfl (hb hby d30_79) rfl (l' := #[.val (.ref a1), .val (.int (0 : Int32)), .val (.int (4 : Int32)), .val (.int (0 : Int32)), .val (.int (nn + (-1 : Int32))), .val (.int (3 : Int32))]) rfl ?_
    refine XS.iinc X109.here hx rfl (hb hby d30_82) rfl (l' := #[.val (.ref a1), .val (.int (0 : Int32)), .val (.int (4 : Int32)), .val (.int (0 : Int32)), .val (.int (nn + (-1 : Int32))), .val (.int (4 : Int32))]) rfl ?_
    refine XS.goto X109.here hx rfl (pc0 := 85) (pc' := 44) rfl (hb hby d30_85) (by decide) (by decide) ?_
    exact k_)
   obtain ⟨T', L', j, X', e', N', g'⟩ := cp4_4 Z a0 hx hZ hw hby hml hown a1 k1 c0 c1 c2 c3 cs1 fm h0 n0 Z0 O1 G V1 a0_ b0_ a1_ b1_ a2_ b2_ a3_ b3_ (nn + (-1 : Int32)) T109 _ X109 q109_hh N109
   refine ⟨T', L', j, X', e', N', ?_⟩
   have eq : nn - own_pr c2 c3 = (nn + (-1 : Int32)) := by rcases own_excl c3 with x1 | x1 <;> simp_all [own_pr, Int32.sub_eq_add_neg]
   rw [eq]; exact fun t_ k_ => p113 t_ (g' t_ k_)
set_option maxRecDepth 65536 in
set_option maxHeartbeats 40000000 in
theorem cp4_1 {p : Program} {l : Launch} {e : Env} {s : State} {m : MethodId} {args : Array Value} {below : List Frame} {meth : Method} {c : Code} (Z : State) (a0 : Array Value) (hx : p.tables.exec = Jvm.exec) (hZ : Z.Warmed39 s.vm) (hw : ∀ d ∈ tables_1, d.before a0 Z = true) (hby : c.code = jdk_52_method_11_code) (hml : c.maxLocals = 6) (hown : s.vm.findClass "java/lang/StringUTF16" = some m.cls) (a1 : Addr) (k1 : ClassId) (c0 c1 c2 c3 : Int32) (cs1 : Int32) (fm : Value) (h0 : Heap) (n0 : Nat) (Z0 : n0 ≤ h0.size) (O1 : Old Z n0 h0) (G : own_G Z cs1 fm) (V1 : Arv Z h0 a1 k1 .byte (8 : Int32) [(.int (own_x0 c0)), (.int (own_x8 c0)), (.int (own_x0 c1)), (.int (own_x8 c1)), (.int (own_x0 c2)), (.int (own_x8 c2)), (.int (own_x0 c3)), (.int (own_x8 c3))] (.int (0 : Int32))) (a0_ : ¬ (c0 < (0 : Int32))) (b0_ : ¬ ((65535 : Int32) < c0)) (a1_ : ¬ (c1 < (0 : Int32))) (b1_ : ¬ ((65535 : Int32) < c1)) (a2_ : ¬ (c2 < (0 : Int32))) (b2_ : ¬ ((65535 : Int32) < c2)) (a3_ : ¬ (c3 < (0 : Int32))) (b3_ : ¬ ((65535 : Int32) < c3)) (nn : Int32) (T : State) (locs : List Loc) (X0 : Stand p l e ({ frames := 4, cells := 0, slots := 0, locals := 60 } : Room) s m args below meth c T locs 0 0) (e0 : T.heap = h0) (N0 : Fr n0 locs) : ∃ (T' : State) (L' : List Loc) (j : Int32), Stand p l e ({ frames := 4, cells := 0, slots := 0, locals := 60 } : Room) s m args below meth c T' L' 0 0 ∧ T'.heap = h0 ∧ Fr n0 L' ∧ Go p.tables e below (T.setTop (mkF m 44 #[.val (.ref a1), .val (.int (0 : Int32)), .val (.int (4 : Int32)), .val (.int (0 : Int32)), .val (.int nn), .val (.int (1 : Int32))] [])) (T'.setTop (mkF m 88 #[.val (.ref a1), .val (.int (0 : Int32)), .val (.int (4 : Int32)), .val (.int (0 : Int32)), .val (.int (nn - own_pr c1 c2 - own_pr c2 c3)), .val (.int j)] [])) := by
 have p0 : Go p.tables e below (T.setTop (mkF m 44 #[.val (.ref a1), .val (.int (0 : Int32)), .val (.int (4 : Int32)), .val (.int (0 : Int32)), .val (.int nn), .val (.int (1 : Int32))] [])) (T.setTop (mkF m 44 #[.val (.ref a1), .val (.int (0 : Int32)), .val (.int (4 : Int32)), .val (.int (0 : Int32)), .val (.int nn), .val (.int (1 : Int32))] [])) := fun t_ k_ => k_
 have p101 : Go p.tables e below _ (T.setTop (mkF m 58 #[.val (.ref a1), .val (.int (0 : Int32)), .val (.int (4 : Int32)), .val (.int (0 : Int32)), .val (.int nn), .val (.int (2 : Int32))] [(.int (1 : Int32)), (.ref a1)])) := fun t_ k_ => p0 t_ (by
  refine XS.iload X0.here hx rfl (hb hby d30_44) rfl ?_
  refine XS.iloadN X0.here hx rfl (hb hby d30_46) rfl ?_
  refine XS.iconst X0.here hx rfl (hb hby d30_47) ?_
  refine XS.isub X0.here hx rfl (hb hby d30_48) rfl ?_
  refine XS.icmpNo X0.here hx rfl (hb hby d30_49) rfl (tlt (by decide : ((1 : Int32) < (3 : Int32)))).2.1 ?_
  refine XS.aloadN X0.here hx rfl (hb hby d30_52) rfl rfl ?_
  refine XS.iload X0.here hx rfl (hb hby d30_53) rfl ?_
  refine XS.iinc X0.here hx rfl (hb hby d30_55) rfl (l' := #[.val (.ref a1), .val (.int (0 : Int32)), .val (.int (4 : Int32)), .val (.int (0 : Int32)), .val (.int nn), .val (.int (2 : Int32))]) rfl ?_
  exact k_)
 obtain ⟨_, _, ⟨T102, L102, k102, n102⟩, -, X102, ⟨Lc102, hQ102, l102, y102, z102⟩, st102⟩ := Jvm.LawKit.callS X0 hx (y := (⟨"java/lang/StringUTF16", "getChar", "([BI)C"⟩ : MethodName)) hown (mvT hZ (own_w hw 119 rfl)) (mvT hZ (own_w hw 120 rfl)) (mvT hZ (own_w hw 22 rfl)) (mvT hZ (own_w hw 121 rfl)) (by decide) (backOf (W := 0) (rm25 l Z a0 hw [] a1 (1 : Int32) k1 (8 : Int32) [(.int (own_x0 c0)), (.int (own_x8 c0)), (.int (own_x0 c1)), (.int (own_x8 c1)), (.int (own_x0 c2)), (.int (own_x8 c2)), (.int (own_x0 c3)), (.int (own_x8 c3))] (own_x0 c1) (own_x8 c1) c1 cs1 fm h0 n0 (Nat.le_trans Z0 (Keep.refl h0 []).1) O1 G V1 (by decide) (by decide) rfl rfl (own_l16 c1 a1_ b1_)) hZ (own_w hw 121 rfl) (own_w hw 22 rfl) (by decide) (by decide)) (g := (mkF m 58 #[.val (.ref a1), .val (.int (0 : Int32)), .val (.int (4 : Int32)), .val (.int (0 : Int32)), .val (.int nn), .val (.int (2 : Int32))] [(.int (1 : Int32)), (.ref a1)])) rfl (by rw [hml]; rfl) (argsL := [(.ref a1), (.int (1 : Int32))]) (rest := []) (lenOf pd4 rfl) rfl (by show 2 * 0 + _ ≤ _; exact Nat.le_of_eq rfl) (hb hby d30_58) (fun _ _ => ⟨rfl, e0, (by decide : 0 + 0 ≤ _), (by decide : 0 + 0 ≤ _)⟩)
 dsimp only [Pt.U, Pt.locs, Pt.cells, Pt.slots] at X102 l102 y102 z102 st102 hQ102
 subst l102 y102 z102
 obtain ⟨rfl, N102q, q102_hh⟩ := hQ102
 have N102 := Fr.app N0 N102q
 obtain ⟨_, _, ⟨T103, L103, k103, n103⟩, -, X103, ⟨Lc103, hQ103, l103, y103, z103⟩, st103⟩ := Jvm.LawKit.callS X102 hx (y := (⟨"java/lang/Character", "isHighSurrogate", "(C)Z"⟩ : MethodName)) hown (mvT hZ (own_w hw 138 rfl)) (mvT hZ (own_w hw 139 rfl)) (mvT hZ (own_w hw 140 rfl)) (mvT hZ (own_w hw 141 rfl)) (by decide) (backOf (W := 0) (rm31 l Z a0 hw [] c1 h0 n0 (Nat.le_trans Z0 (Keep.refl h0 []).1) ) hZ (own_w hw 141 rfl) (own_w hw 140 rfl) (by decide) (by decide)) (g := (mkF m 61 #[.val (.ref a1), .val (.int (0 : Int32)), .val (.int (4 : Int32)), .val (.int (0 : Int32)), .val (.int nn), .val (.int (2 : Int32))] [(.int c1)])) rfl (by rw [hml]; rfl) (argsL := [(.int c1)]) (rest := []) (lenOf pd21 rfl) rfl (by show 2 * 0 + _ ≤ _; exact Nat.le_of_eq rfl) (hb hby d30_61) (fun _ _ => ⟨rfl, q102_hh, (by decide : 0 + 0 ≤ _), (by decide : 0 + 0 ≤ _)⟩)
 dsimp only [Pt.U, Pt.locs, Pt.cells, Pt.slots] at X103 l103 y103 z103 st103 hQ103
 subst l103 y103 z103
 obtain ⟨rfl, N103q, q103_hh⟩ := hQ103
 have N103 := Fr.app N102 N103q
 by_cases c104 : (own_hi c1) = (0 : Int32)
 ·have p105 : Go p.tables e below _ (T103.setTop (mkF m 44 #[.val (.ref a1), .val (.int (0 : Int32)), .val (.int (4 : Int32)), .val (.int (0 : Int32)), .val (.int nn), .val (.int (2 : Int32))] [])) := fun t_ k_ => (gc (gc p101 st102) st103) t_ (by
   refine XS.ifYes X103.here hx rfl (pc0 := 64) (pc' := 44) rfl (hb hby d30_64) rfl ((if0 _ _).trans (teq c104).1) (by decide) (by decide) ?_
   exact k_)
  obtain ⟨T', L', j, X', e', N', g'⟩ := cp4_2 Z a0 hx hZ hw hby hml hown a1 k1 c0 c1 c2 c3 cs1 fm h0 n0 Z0 O1 G V1 a0_ b0_ a1_ b1_ a2_ b2_ a3_ b3_ nn T103 _ X103 q103_hh N103
  refine ⟨T', L', j, X', e', N', ?_⟩
  have eq : nn - own_pr c1 c2 - own_pr c2 c3 = nn - own_pr c2 c3 := by simp_all [own_pr, Int32.sub_eq_add_neg]
  rw [eq]; exact fun t_ k_ => p105 t_ (g' t_ k_)
 ·have p106 : Go p.tables e below _ (T103.setTop (mkF m 67 #[.val (.ref a1), .val (.int (0 : Int32)), .val (.int (4 : Int32)), .val (.int (0 : Int32)), .val (.int nn), .val (.int (2 : Int32))] [])) := fun t_ k_ => (gc (gc p101 st102) st103) t_ (by
   refine XS.ifNo X103.here hx rfl (hb hby d30_64) rfl ((if0 _ _).trans (feq c104).1) ?_
   exact k_)
  have p107 : Go p.tables e below _ (T103.setTop (mkF m 70 #[.val (.ref a1), .val (.int (0 : Int32)), .val (.int (4 : Int32)), .val (.int (0 : Int32)), .val (.int nn), .val (.int (2 : Int32))] [(.int (2 : Int32)), (.ref a1)])) := fun t_ k_ => p106 t_ (by
   refine XS.aloadN X103.here hx rfl (hb hby d30_67) rfl rfl ?_
   refine XS.iload X103.here hx rfl (hb hby d30_68) rfl ?_
   exact k_)
  obtain ⟨_, _, ⟨T108, L108, k108, n108⟩, -, X108, ⟨Lc108, hQ108, l108, y108, z108⟩, st108⟩ := Jvm.LawKit.callS X103 hx (y := (⟨"java/lang/StringUTF16", "getChar", "([BI)C"⟩ : MethodName)) hown (mvT hZ (own_w hw 119 rfl)) (mvT hZ (own_w hw 120 rfl)) (mvT hZ (own_w hw 22 rfl)) (mvT hZ (own_w hw 121 rfl)) (by decide) (backOf (W := 0) (rm25 l Z a0 hw [] a1 (2 : Int32) k1 (8 : Int32) [(.int (own_x0 c0)), (.int (own_x8 c0)), (.int (own_x0 c1)), (.int (own_x8 c1)), (.int (own_x0 c2)), (.int (own_x8 c2)), (.int (own_x0 c3)), (.int (own_x8 c3))] (own_x0 c2) (own_x8 c2) c2 cs1 fm h0 n0 (Nat.le_trans Z0 (Keep.refl h0 []).1) O1 G V1 (by decide) (by decide) rfl rfl (own_l16 c2 a2_ b2_)) hZ (own_w hw 121 rfl) (own_w hw 22 rfl) (by decide) (by decide)) (g := (mkF m 70 #[.val (.ref a1), .val (.int (0 : Int32)), .val (.int (4 : Int32)), .val (.int (0 : Int32)), .val (.int nn), .val (.int (2 : Int32))] [(.int (2 : Int32)), (.ref a1)])) rfl (by rw [hml]; rfl) (argsL := [(.ref a1), (.int (2 : Int32))]) (rest := []) (lenOf pd4 rfl) rfl (by show 2 * 0 + _ ≤ _; exact Nat.le_of_eq rfl) (hb hby d30_70) (fun _ _ => ⟨rfl, q103_hh, (by decide : 0 + 0 ≤ _), (by decide : 0 + 0 ≤ _)⟩)
  dsimp only [Pt.U, Pt.locs, Pt.cells, Pt.slots] at X108 l108 y108 z108 st108 hQ108
  subst l108 y108 z108
  obtain ⟨rfl, N108q, q108_hh⟩ := hQ108
  have N108 := Fr.app N103 N108q
  obtain ⟨_, _, ⟨T109, L109, k109, n109⟩, -, X109, ⟨Lc109, hQ109, l109, y109, z109⟩, st109⟩ := Jvm.LawKit.callS X108 hx (y := (⟨"java/lang/Character", "isLowSurrogate", "(C)Z"⟩ : MethodName)) hown (mvT hZ (own_w hw 144 rfl)) (mvT hZ (own_w hw 145 rfl)) (mvT hZ (own_w hw 140 rfl)) (mvT hZ (own_w hw 146 rfl)) (by decide) (backOf (W := 0) (rm32 l Z a0 hw [] c2 h0 n0 (Nat.le_trans Z0 (Keep.refl h0 []).1) ) hZ (own_w hw 146 rfl) (own_w hw 140 rfl) (by decide) (by decide)) (g := (mkF m 73 #[.val (.ref a1), .val (.int (0 : Int32)), .val (.int (4 : Int32)), .val (.int (0 : Int32)), .val (.int nn), .val (.int (2 : Int32))] [(.int c2)])) rfl (by rw [hml]; rfl) (argsL := [(.int c2)]) (rest := []) (lenOf pd21 rfl) rfl (by show 2 * 0 + _ ≤ _; exact Nat.le_of_eq rfl) (hb hby d30_73) (fun _ _ => ⟨rfl, q108_hh, (by decide : 0 + 0 ≤ _), (by decide : 0 + 0 ≤ _)⟩)
  dsimp only [Pt.U, Pt.locs, Pt.cells, Pt.slots] at X109 l109 y109 z109 st109 hQ109
  subst l109 y109 z109
  obtain ⟨rfl, N109q, q109_hh⟩ := hQ109
  have N109 := Fr.app N108 N109q
  by_cases c110 : (own_lo c2) = (0 : Int32)
  ·have p111 : Go p.tables e below _ (T109.setTop (mkF m 44 #[.val (.ref a1), .val (.int (0 : Int32)), .val (.int (4 : Int32)), .val (.int (0 : Int32)), .val (.int nn), .val (.int (2 : Int32))] [])) := fun t_ k_ => (gc (gc p107 st108) st109) t_ (by
    refine XS.ifYes X109.here hx rfl (pc0 := 76) (pc' := 44) rfl (hb hby d30_76) rfl ((if0 _ _).trans (teq c110).1) (by decide) (by decide) ?_
    exact k_)
   obtain ⟨T', L', j, X', e', N', g'⟩ := cp4_2 Z a0 hx hZ hw hby hml hown a1 k1 c0 c1 c2 c3 cs1 fm h0 n0 Z0 O1 G V1 a0_ b0_ a1_ b1_ a2_ b2_ a3_ b3_ nn T109 _ X109 q109_hh N109
   refine ⟨T', L', j, X', e', N', ?_⟩
   have eq : nn - own_pr c1 c2 - own_pr c2 c3 = nn - own_pr c2 c3 := by simp_all [own_pr, Int32.sub_eq_add_neg]
   rw [eq]; exact fun t_ k_ => p111 t_ (g' t_ k_)
  ·have p112 : Go p.tables e below _ (T109.setTop (mkF m 79 #[.val (.ref a1), .val (.int (0 : Int32)), .val (.int (4 : Int32)), .val (.int (0 : Int32)), .val (.int nn), .val (.int (2 : Int32))] [])) := fun t_ k_ => (gc (gc p107 st108) st109) t_ (by
    refine XS.ifNo X109.here hx rfl (hb hby d30_76) rfl ((if0 _ _).trans (feq c110).1) ?_
    exact k_)
   have p113 : Go p.tables e below _ (T109.setTop (mkF m 44 #[.val (.ref a1), .val (.int (0 : Int32)), .val (.int (4 : Int32)), .val (.int (0 : Int32)), .val (.int (nn + (-1 : Int32))), .val (.int (3 : Int32))] [])) := fun t_ k_ => p112 t_ (by
    refine XS.iinc X109.here hx rfl (hb hby d30_79) rfl (l' := #[.val (.ref a1), .val (.int (0 : Int32)), .val (.int (4 : Int32)), .val (.int (0 : Int32)), .val (.int (nn + (-1 : Int32))), .val (.int (2 : Int32))]) rfl ?_
    refine XS.iinc X109.here hx rfl (hb hby d30_82) rfl (l' := #[.val (.ref a1), .val (.int (0 : Int32)), .val (.int (4 : Int32)), .val (.int (0 : Int32)), .val (.int (nn + (-1 : Int32))), .val (.int (3 : Int32))]) rfl ?_
    refine XS.goto X109.here hx rfl (pc0 := 85) (pc' := 44) rfl (hb hby d30_85) (by decide) (by decide) ?_
    exact k_)
   obtain ⟨T', L', j, X', e', N', g'⟩ := cp4_3 Z a0 hx hZ hw hby hml hown a1 k1 c0 c1 c2 c3 cs1 fm h0 n0 Z0 O1 G V1 a0_ b0_ a1_ b1_ a2_ b2_ a3_ b3_ (nn + (-1 : Int32)) T109 _ X109 q109_hh N109
   refine ⟨T', L', j, X', e', N', ?_⟩
   have eq : nn - own_pr c1 c2 - own_pr c2 c3 = (nn + (-1 : Int32)) := by rcases own_excl c2 with x1 | x1 <;> simp_all [own_pr, Int32.sub_eq_add_neg]
   rw [eq]; exact fun t_ k_ => p113 t_ (g' t_ k_)
set_option maxRecDepth 65536 in
set_option maxHeartbeats 40000000 in
theorem cp4_0 {p : Program} {l : Launch} {e : Env} {s : State} {m : MethodId} {args : Array Value} {below : List Frame} {meth : Method} {c : Code} (Z : State) (a0 : Array Value) (hx : p.tables.exec = Jvm.exec) (hZ : Z.Warmed39 s.vm) (hw : ∀ d ∈ tables_1, d.before a0 Z = true) (hby : c.code = jdk_52_method_11_code) (hml : c.maxLocals = 6) (hown : s.vm.findClass "java/lang/StringUTF16" = some m.cls) (a1 : Addr) (k1 : ClassId) (c0 c1 c2 c3 : Int32) (cs1 : Int32) (fm : Value) (h0 : Heap) (n0 : Nat) (Z0 : n0 ≤ h0.size) (O1 : Old Z n0 h0) (G : own_G Z cs1 fm) (V1 : Arv Z h0 a1 k1 .byte (8 : Int32) [(.int (own_x0 c0)), (.int (own_x8 c0)), (.int (own_x0 c1)), (.int (own_x8 c1)), (.int (own_x0 c2)), (.int (own_x8 c2)), (.int (own_x0 c3)), (.int (own_x8 c3))] (.int (0 : Int32))) (a0_ : ¬ (c0 < (0 : Int32))) (b0_ : ¬ ((65535 : Int32) < c0)) (a1_ : ¬ (c1 < (0 : Int32))) (b1_ : ¬ ((65535 : Int32) < c1)) (a2_ : ¬ (c2 < (0 : Int32))) (b2_ : ¬ ((65535 : Int32) < c2)) (a3_ : ¬ (c3 < (0 : Int32))) (b3_ : ¬ ((65535 : Int32) < c3)) (nn : Int32) (T : State) (locs : List Loc) (X0 : Stand p l e ({ frames := 4, cells := 0, slots := 0, locals := 60 } : Room) s m args below meth c T locs 0 0) (e0 : T.heap = h0) (N0 : Fr n0 locs) : ∃ (T' : State) (L' : List Loc) (j : Int32), Stand p l e ({ frames := 4, cells := 0, slots := 0, locals := 60 } : Room) s m args below meth c T' L' 0 0 ∧ T'.heap = h0 ∧ Fr n0 L' ∧ Go p.tables e below (T.setTop (mkF m 44 #[.val (.ref a1), .val (.int (0 : Int32)), .val (.int (4 : Int32)), .val (.int (0 : Int32)), .val (.int nn), .val (.int (0 : Int32))] [])) (T'.setTop (mkF m 88 #[.val (.ref a1), .val (.int (0 : Int32)), .val (.int (4 : Int32)), .val (.int (0 : Int32)), .val (.int (nn - own_pr c0 c1 - own_pr c1 c2 - own_pr c2 c3)), .val (.int j)] [])) := by
 have p0 : Go p.tables e below (T.setTop (mkF m 44 #[.val (.ref a1), .val (.int (0 : Int32)), .val (.int (4 : Int32)), .val (.int (0 : Int32)), .val (.int nn), .val (.int (0 : Int32))] [])) (T.setTop (mkF m 44 #[.val (.ref a1), .val (.int (0 : Int32)), .val (.int (4 : Int32)), .val (.int (0 : Int32)), .val (.int nn), .val (.int (0 : Int32))] [])) := fun t_ k_ => k_
 have p101 : Go p.tables e below _ (T.setTop (mkF m 58 #[.val (.ref a1), .val (.int (0 : Int32)), .val (.int (4 : Int32)), .val (.int (0 : Int32)), .val (.int nn), .val (.int (1 : Int32))] [(.int (0 : Int32)), (.ref a1)])) := fun t_ k_ => p0 t_ (by
  refine XS.iload X0.here hx rfl (hb hby d30_44) rfl ?_
  refine XS.iloadN X0.here hx rfl (hb hby d30_46) rfl ?_
  refine XS.iconst X0.here hx rfl (hb hby d30_47) ?_
  refine XS.isub X0.here hx rfl (hb hby d30_48) rfl ?_
  refine XS.icmpNo X0.here hx rfl (hb hby d30_49) rfl (tlt (by decide : ((0 : Int32) < (3 : Int32)))).2.1 ?_
  refine XS.aloadN X0.here hx rfl (hb hby d30_52) rfl rfl ?_
  refine XS.iload X0.here hx rfl (hb hby d30_53) rfl ?_
  refine XS.iinc X0.here hx rfl (hb hby d30_55) rfl (l' := #[.val (.ref a1), .val (.int (0 : Int32)), .val (.int (4 : Int32)), .val (.int (0 : Int32)), .val (.int nn), .val (.int (1 : Int32))]) rfl ?_
  exact k_)
 obtain ⟨_, _, ⟨T102, L102, k102, n102⟩, -, X102, ⟨Lc102, hQ102, l102, y102, z102⟩, st102⟩ := Jvm.LawKit.callS X0 hx (y := (⟨"java/lang/StringUTF16", "getChar", "([BI)C"⟩ : MethodName)) hown (mvT hZ (own_w hw 119 rfl)) (mvT hZ (own_w hw 120 rfl)) (mvT hZ (own_w hw 22 rfl)) (mvT hZ (own_w hw 121 rfl)) (by decide) (backOf (W := 0) (rm25 l Z a0 hw [] a1 (0 : Int32) k1 (8 : Int32) [(.int (own_x0 c0)), (.int (own_x8 c0)), (.int (own_x0 c1)), (.int (own_x8 c1)), (.int (own_x0 c2)), (.int (own_x8 c2)), (.int (own_x0 c3)), (.int (own_x8 c3))] (own_x0 c0) (own_x8 c0) c0 cs1 fm h0 n0 (Nat.le_trans Z0 (Keep.refl h0 []).1) O1 G V1 (by decide) (by decide) rfl rfl (own_l16 c0 a0_ b0_)) hZ (own_w hw 121 rfl) (own_w hw 22 rfl) (by decide) (by decide)) (g := (mkF m 58 #[.val (.ref a1), .val (.int (0 : Int32)), .val (.int (4 : Int32)), .val (.int (0 : Int32)), .val (.int nn), .val (.int (1 : Int32))] [(.int (0 : Int32)), (.ref a1)])) rfl (by rw [hml]; rfl) (argsL := [(.ref a1), (.int (0 : Int32))]) (rest := []) (lenOf pd4 rfl) rfl (by show 2 * 0 + _ ≤ _; exact Nat.le_of_eq rfl) (hb hby d30_58) (fun _ _ => ⟨rfl, e0, (by decide : 0 + 0 ≤ _), (by decide : 0 + 0 ≤ _)⟩)
 dsimp only [Pt.U, Pt.locs, Pt.cells, Pt.slots] at X102 l102 y102 z102 st102 hQ102
 subst l102 y102 z102
 obtain ⟨rfl, N102q, q102_hh⟩ := hQ102
 have N102 := Fr.app N0 N102q
 obtain ⟨_, _, ⟨T103, L103, k103, n103⟩, -, X103, ⟨Lc103, hQ103, l103, y103, z103⟩, st103⟩ := Jvm.LawKit.callS X102 hx (y := (⟨"java/lang/Character", "isHighSurrogate", "(C)Z"⟩ : MethodName)) hown (mvT hZ (own_w hw 138 rfl)) (mvT hZ (own_w hw 139 rfl)) (mvT hZ (own_w hw 140 rfl)) (mvT hZ (own_w hw 141 rfl)) (by decide) (backOf (W := 0) (rm31 l Z a0 hw [] c0 h0 n0 (Nat.le_trans Z0 (Keep.refl h0 []).1) ) hZ (own_w hw 141 rfl) (own_w hw 140 rfl) (by decide) (by decide)) (g := (mkF m 61 #[.val (.ref a1), .val (.int (0 : Int32)), .val (.int (4 : Int32)), .val (.int (0 : Int32)), .val (.int nn), .val (.int (1 : Int32))] [(.int c0)])) rfl (by rw [hml]; rfl) (argsL := [(.int c0)]) (rest := []) (lenOf pd21 rfl) rfl (by show 2 * 0 + _ ≤ _; exact Nat.le_of_eq rfl) (hb hby d30_61) (fun _ _ => ⟨rfl, q102_hh, (by decide : 0 + 0 ≤ _), (by decide : 0 + 0 ≤ _)⟩)
 dsimp only [Pt.U, Pt.locs, Pt.cells, Pt.slots] at X103 l103 y103 z103 st103 hQ103
 subst l103 y103 z103
 obtain ⟨rfl, N103q, q103_hh⟩ := hQ103
 have N103 := Fr.app N102 N103q
 by_cases c104 : (own_hi c0) = (0 : Int32)
 ·have p105 : Go p.tables e below _ (T103.setTop (mkF m 44 #[.val (.ref a1), .val (.int (0 : Int32)), .val (.int (4 : Int32)), .val (.int (0 : Int32)), .val (.int nn), .val (.int (1 : Int32))] [])) := fun t_ k_ => (gc (gc p101 st102) st103) t_ (by
   refine XS.ifYes X103.here hx rfl (pc0 := 64) (pc' := 44) rfl (hb hby d30_64) rfl ((if0 _ _).trans (teq c104).1) (by decide) (by decide) ?_
   exact k_)
  obtain ⟨T', L', j, X', e', N', g'⟩ := cp4_1 Z a0 hx hZ hw hby hml hown a1 k1 c0 c1 c2 c3 cs1 fm h0 n0 Z0 O1 G V1 a0_ b0_ a1_ b1_ a2_ b2_ a3_ b3_ nn T103 _ X103 q103_hh N103
  refine ⟨T', L', j, X', e', N', ?_⟩
  have eq : nn - own_pr c0 c1 - own_pr c1 c2 - own_pr c2 c3 = nn - own_pr c1 c2 - own_pr c2 c3 := by simp_all [own_pr, Int32.sub_eq_add_neg]
  rw [eq]; exact fun t_ k_ => p105 t_ (g' t_ k_)
 ·have p106 : Go p.tables e below _ (T103.setTop (mkF m 67 #[.val (.ref a1), .val (.int (0 : Int32)), .val (.int (4 : Int32)), .val (.int (0 : Int32)), .val (.int nn), .val (.int (1 : Int32))] [])) := fun t_ k_ => (gc (gc p101 st102) st103) t_ (by
   refine XS.ifNo X103.here hx rfl (hb hby d30_64) rfl ((if0 _ _).trans (feq c104).1) ?_
   exact k_)
  have p107 : Go p.tables e below _ (T103.setTop (mkF m 70 #[.val (.ref a1), .val (.int (0 : Int32)), .val (.int (4 : Int32)), .val (.int (0 : Int32)), .val (.int nn), .val (.int (1 : Int32))] [(.int (1 : Int32)), (.ref a1)])) := fun t_ k_ => p106 t_ (by
   refine XS.aloadN X103.here hx rfl (hb hby d30_67) rfl rfl ?_
   refine XS.iload X103.here hx rfl (hb hby d30_68) rfl ?_
   exact k_)
  obtain ⟨_, _, ⟨T108, L108, k108, n108⟩, -, X108, ⟨Lc108, hQ108, l108, y108, z108⟩, st108⟩ := Jvm.LawKit.callS X103 hx (y := (⟨"java/lang/StringUTF16", "getChar", "([BI)C"⟩ : MethodName)) hown (mvT hZ (own_w hw 119 rfl)) (mvT hZ (own_w hw 120 rfl)) (mvT hZ (own_w hw 22 rfl)) (mvT hZ (own_w hw 121 rfl)) (by decide) (backOf (W := 0) (rm25 l Z a0 hw [] a1 (1 : Int32) k1 (8 : Int32) [(.int (own_x0 c0)), (.int (own_x8 c0)), (.int (own_x0 c1)), (.int (own_x8 c1)), (.int (own_x0 c2)), (.int (own_x8 c2)), (.int (own_x0 c3)), (.int (own_x8 c3))] (own_x0 c1) (own_x8 c1) c1 cs1 fm h0 n0 (Nat.le_trans Z0 (Keep.refl h0 []).1) O1 G V1 (by decide) (by decide) rfl rfl (own_l16 c1 a1_ b1_)) hZ (own_w hw 121 rfl) (own_w hw 22 rfl) (by decide) (by decide)) (g := (mkF m 70 #[.val (.ref a1), .val (.int (0 : Int32)), .val (.int (4 : Int32)), .val (.int (0 : Int32)), .val (.int nn), .val (.int (1 : Int32))] [(.int (1 : Int32)), (.ref a1)])) rfl (by rw [hml]; rfl) (argsL := [(.ref a1), (.int (1 : Int32))]) (rest := []) (lenOf pd4 rfl) rfl (by show 2 * 0 + _ ≤ _; exact Nat.le_of_eq rfl) (hb hby d30_70) (fun _ _ => ⟨rfl, q103_hh, (by decide : 0 + 0 ≤ _), (by decide : 0 + 0 ≤ _)⟩)
  dsimp only [Pt.U, Pt.locs, Pt.cells, Pt.slots] at X108 l108 y108 z108 st108 hQ108
  subst l108 y108 z108
  obtain ⟨rfl, N108q, q108_hh⟩ := hQ108
  have N108 := Fr.app N103 N108q
  obtain ⟨_, _, ⟨T109, L109, k109, n109⟩, -, X109, ⟨Lc109, hQ109, l109, y109, z109⟩, st109⟩ := Jvm.LawKit.callS X108 hx (y := (⟨"java/lang/Character", "isLowSurrogate", "(C)Z"⟩ : MethodName)) hown (mvT hZ (own_w hw 144 rfl)) (mvT hZ (own_w hw 145 rfl)) (mvT hZ (own_w hw 140 rfl)) (mvT hZ (own_w hw 146 rfl)) (by decide) (backOf (W := 0) (rm32 l Z a0 hw [] c1 h0 n0 (Nat.le_trans Z0 (Keep.refl h0 []).1) ) hZ (own_w hw 146 rfl) (own_w hw 140 rfl) (by decide) (by decide)) (g := (mkF m 73 #[.val (.ref a1), .val (.int (0 : Int32)), .val (.int (4 : Int32)), .val (.int (0 : Int32)), .val (.int nn), .val (.int (1 : Int32))] [(.int c1)])) rfl (by rw [hml]; rfl) (argsL := [(.int c1)]) (rest := []) (lenOf pd21 rfl) rfl (by show 2 * 0 + _ ≤ _; exact Nat.le_of_eq rfl) (hb hby d30_73) (fun _ _ => ⟨rfl, q108_hh, (by decide : 0 + 0 ≤ _), (by decide : 0 + 0 ≤ _)⟩)
  dsimp only [Pt.U, Pt.locs, Pt.cells, Pt.slots] at X109 l109 y109 z109 st109 hQ109
  subst l109 y109 z109
  obtain ⟨rfl, N109q, q109_hh⟩ := hQ109
  have N109 := Fr.app N108 N109q
  by_cases c110 : (own_lo c1) = (0 : Int32)
  ·have p111 : Go p.tables e below _ (T109.setTop (mkF m 44 #[.val (.ref a1), .val (.int (0 : Int32)), .val (.int (4 : Int32)), .val (.int (0 : Int32)), .val (.int nn), .val (.int (1 : Int32))] [])) := fun t_ k_ => (gc (gc p107 st108) st109) t_ (by
    refine XS.ifYes X109.here hx rfl (pc0 := 76) (pc' := 44) rfl (hb hby d30_76) rfl ((if0 _ _).trans (teq c110).1) (by decide) (by decide) ?_
    exact k_)
   obtain ⟨T', L', j, X', e', N', g'⟩ := cp4_1 Z a0 hx hZ hw hby hml hown a1 k1 c0 c1 c2 c3 cs1 fm h0 n0 Z0 O1 G V1 a0_ b0_ a1_ b1_ a2_ b2_ a3_ b3_ nn T109 _ X109 q109_hh N109
   refine ⟨T', L', j, X', e', N', ?_⟩
   have eq : nn - own_pr c0 c1 - own_pr c1 c2 - own_pr c2 c3 = nn - own_pr c1 c2 - own_pr c2 c3 := by simp_all [own_pr, Int32.sub_eq_add_neg]
   rw [eq]; exact fun t_ k_ => p111 t_ (g' t_ k_)
  ·have p112 : Go p.tables e below _ (T109.setTop (mkF m 79 #[.val (.ref a1), .val (.int (0 : Int32)), .val (.int (4 : Int32)), .val (.int (0 : Int32)), .val (.int nn), .val (.int (1 : Int32))] [])) := fun t_ k_ => (gc (gc p107 st108) st109) t_ (by
    refine XS.ifNo X109.here hx rfl (hb hby d30_76) rfl ((if0 _ _).trans (feq c110).1) ?_
    exact k_)
   have p113 : Go p.tables e below _ (T109.setTop (mkF m 44 #[.val (.ref a1), .val (.int (0 : Int32)), .val (.int (4 : Int32)), .val (.int (0 : Int32)), .val (.int (nn + (-1 : Int32))), .val (.int (2 : Int32))] [])) := fun t_ k_ => p112 t_ (by
    refine XS.iinc X109.here hx rfl (hb hby d30_79) rfl (l' := #[.val (.ref a1), .val (.int (0 : Int32)), .val (.int (4 : Int32)), .val (.int (0 : Int32)), .val (.int (nn + (-1 : Int32))), .val (.int (1 : Int32))]) rfl ?_
    refine XS.iinc X109.here hx rfl (hb hby d30_82) rfl (l' := #[.val (.ref a1), .val (.int (0 : Int32)), .val (.int (4 : Int32)), .val (.int (0 : Int32)), .val (.int (nn + (-1 : Int32))), .val (.int (2 : Int32))]) rfl ?_
    refine XS.goto X109.here hx rfl (pc0 := 85) (pc' := 44) rfl (hb hby d30_85) (by decide) (by decide) ?_
    exact k_)
   obtain ⟨T', L', j, X', e', N', g'⟩ := cp4_2 Z a0 hx hZ hw hby hml hown a1 k1 c0 c1 c2 c3 cs1 fm h0 n0 Z0 O1 G V1 a0_ b0_ a1_ b1_ a2_ b2_ a3_ b3_ (nn + (-1 : Int32)) T109 _ X109 q109_hh N109
   refine ⟨T', L', j, X', e', N', ?_⟩
   have eq : nn - own_pr c0 c1 - own_pr c1 c2 - own_pr c2 c3 = (nn + (-1 : Int32)) - own_pr c2 c3 := by rcases own_excl c1 with x1 | x1 <;> simp_all [own_pr, Int32.sub_eq_add_neg]
   rw [eq]; exact fun t_ k_ => p113 t_ (g' t_ k_)
theorem ef_rm30_4 (m : MethodId) (a1 : Addr) (k1 : ClassId) (c0 : Int32) (c1 : Int32) (c2 : Int32) (c3 : Int32) (cs1 : Int32) (fm : Value) : entryFrame m #[(.ref a1), (.int (0 : Int32)), (.int (4 : Int32)), (.int (0 : Int32))] 6 = mkF m 0 #[.val (.ref a1), .val (.int (0 : Int32)), .val (.int (4 : Int32)), .val (.int (0 : Int32)), .unset, .unset] [] := by first | (simp [entryFrame, mkF, argsToLocals, Value.category]; done) | rfl
def Q30_4 (Z : State) (a1 : Addr) (k1 : ClassId) (c0 : Int32) (c1 : Int32) (c2 : Int32) (c3 : Int32) (cs1 : Int32) (fm : Value) (h0 : Heap) (n0 : Nat) (v : Option Value) (h : Heap) (L : List Loc) : Prop := v = some (.int (own_cp4 c0 c1 c2 c3)) ∧ Fr n0 L ∧ (h = h0)
set_option maxRecDepth 65536 in
set_option maxHeartbeats 40000000 in
theorem rm30_4 (l : Launch) (Z : State) (a0 : Array Value) (hw : ∀ d ∈ tables_1, d.before a0 Z = true) (ws : List Jvm.Cond) (a1 : Addr) (k1 : ClassId) (c0 : Int32) (c1 : Int32) (c2 : Int32) (c3 : Int32) (cs1 : Int32) (fm : Value) (h0 : Heap) (n0 : Nat) (Z0 : n0 ≤ h0.size) (O1 : Old Z n0 h0) (G : own_G Z cs1 fm) (V1 : Arv Z h0 a1 k1 .byte (8 : Int32) [(.int (own_x0 c0)), (.int (own_x8 c0)), (.int (own_x0 c1)), (.int (own_x8 c1)), (.int (own_x0 c2)), (.int (own_x8 c2)), (.int (own_x0 c3)), (.int (own_x8 c3))] (.int (0 : Int32))) (a0_ : ¬ (c0 < (0 : Int32))) (b0_ : ¬ ((65535 : Int32) < c0)) (a1_ : ¬ (c1 < (0 : Int32))) (b1_ : ¬ ((65535 : Int32) < c1)) (a2_ : ¬ (c2 < (0 : Int32))) (b2_ : ¬ ((65535 : Int32) < c2)) (a3_ : ¬ (c3 < (0 : Int32))) (b3_ : ¬ ((65535 : Int32) < c3)) :
  MetFree l (⟨"java/lang/StringUTF16", "codePointCount", "([BIIZ)I"⟩ : MethodName) (head1 (Jvm.Cond.code (⟨"java/lang/StringUTF16", "codePointCount", "([BIIZ)I"⟩ : MethodName) jdk_52_method_11_code 6 (some .int) :: ws) ({ frames := 4, cells := 0, slots := 0, locals := 60 } : Room)) (fun a U => a = #[(.ref a1), (.int (0 : Int32)), (.int (4 : Int32)), (.int (0 : Int32))] ∧ Z.Warmed39 U.vm ∧ U.heap = h0) (fun _ _ _ _ _ => True) (fun _ U o U' => ∃ v L, o = .returned v ∧ Q30_4 Z a1 k1 c0 c1 c2 c3 cs1 fm h0 n0 v U'.heap L ∧ FrameEnd U o U' L ({ frames := 4, cells := 0, slots := 0, locals := 60 } : Room).cells ({ frames := 4, cells := 0, slots := 0, locals := 60 } : Room).slots) := by
 refine MetFree.of_bodySF pn30 hisR ?_
 intro p e s m args below meth c s₁ Bd hml0 hP hK
 obtain ⟨rfl, hZ, hh⟩ := hP
 have hx := Bd.exec
 have hby := Bd.bytes
 have hml : c.maxLocals = 6 := hml0
 have hown : s.vm.findClass "java/lang/StringUTF16" = some m.cls := findClass_of_methodNamed Bd.named
 have hnm := (name_of_methodNamed Bd.named Bd.method).1
 have X0 : Stand p l e ({ frames := 4, cells := 0, slots := 0, locals := 60 } : Room) s m #[(.ref a1), (.int (0 : Int32)), (.int (4 : Int32)), (.int (0 : Int32))] below meth c s₁ [] 0 0 := Stand.of_body Bd
 have e0 : s₁.heap = h0 := by rw [← hh, Bd.state]; rfl
 have N0 := Fr.nil n0
 have p0 : Go p.tables e below (s₁.setTop (entryFrame m #[(.ref a1), (.int (0 : Int32)), (.int (4 : Int32)), (.int (0 : Int32))] 6)) (s₁.setTop (mkF m 0 #[.val (.ref a1), .val (.int (0 : Int32)), .val (.int (4 : Int32)), .val (.int (0 : Int32)), .unset, .unset] [])) := fun t_ k_ => castTop (ef_rm30_4 m a1 k1 c0 c1 c2 c3 cs1 fm) k_
 obtain ⟨T101, X101, e101, st101⟩ := getS2 X0 hx hZ hown (host := "") (Or.inl (own_w hw 116 rfl)) Via.refl e0 (G.2.2.2.2.1.ext O1.2) (g := (mkF m 0 #[.val (.ref a1), .val (.int (0 : Int32)), .val (.int (4 : Int32)), .val (.int (0 : Int32)), .unset, .unset] [])) rfl (hb hby d30_0)
 have p102 : Go p.tables e below _ (T101.setTop (mkF m 44 #[.val (.ref a1), .val (.int (0 : Int32)), .val (.int (4 : Int32)), .val (.int (0 : Int32)), .val (.int (4 : Int32)), .val (.int (0 : Int32))] [])) := fun t_ k_ => (gc p0 st101) t_ (by
  refine XS.ifYes X101.here hx rfl (pc0 := 3) (pc' := 19) rfl (hb hby d30_3) rfl ((if0 _ _).trans (feq (by decide : ¬ ((1 : Int32) = (0 : Int32)))).2) (by decide) (by decide) ?_
  refine XS.iloadN X101.here hx rfl (hb hby d30_19) rfl ?_
  refine XS.iloadN X101.here hx rfl (hb hby d30_20) rfl ?_
  refine XS.isub X101.here hx rfl (hb hby d30_21) rfl ?_
  refine XS.istore X101.here hx rfl (hb hby d30_22) rfl (l' := #[.val (.ref a1), .val (.int (0 : Int32)), .val (.int (4 : Int32)), .val (.int (0 : Int32)), .val (.int (4 : Int32)), .unset]) rfl ?_
  refine XS.iloadN X101.here hx rfl (hb hby d30_24) rfl ?_
  refine XS.istore X101.here hx rfl (hb hby d30_25) rfl (l' := #[.val (.ref a1), .val (.int (0 : Int32)), .val (.int (4 : Int32)), .val (.int (0 : Int32)), .val (.int (4 : Int32)), .val (.int (0 : Int32))]) rfl ?_
  refine XS.iloadN X101.here hx rfl (hb hby d30_27) rfl ?_
  refine XS.ifYes X101.here hx rfl (pc0 := 28) (pc' := 44) rfl (hb hby d30_28) rfl ((if0 _ _).trans (teq (by decide : ((0 : Int32) = (0 : Int32)))).1) (by decide) (by decide) ?_
  exact k_)
 obtain ⟨T103, L103, j103, X103, e103, N103, g103⟩ := cp4_0 Z a0 hx hZ hw hby hml hown a1 k1 c0 c1 c2 c3 cs1 fm h0 n0 (Nat.le_trans Z0 (Keep.refl h0 []).1) O1 G V1 a0_ b0_ a1_ b1_ a2_ b2_ a3_ b3_ (4 : Int32) T101 _ X101 e101 N0
 have p104 : Go p.tables e below _ (T103.setTop (mkF m 88 #[.val (.ref a1), .val (.int (0 : Int32)), .val (.int (4 : Int32)), .val (.int (0 : Int32)), .val (.int ((4 : Int32) - own_pr c0 c1 - own_pr c1 c2 - own_pr c2 c3)), .val (.int j103)] [])) := fun t_ k_ => p102 t_ (g103 t_ k_)
 have p105 : Go p.tables e below _ (T103.setTop (mkF m 90 #[.val (.ref a1), .val (.int (0 : Int32)), .val (.int (4 : Int32)), .val (.int (0 : Int32)), .val (.int ((4 : Int32) - own_pr c0 c1 - own_pr c1 c2 - own_pr c2 c3)), .val (.int j103)] [(.int ((4 : Int32) - own_pr c0 c1 - own_pr c1 c2 - own_pr c2 c3))])) := fun t_ k_ => p104 t_ (by
  refine XS.iload X103.here hx rfl (hb hby d30_88) rfl ?_
  exact k_)
 obtain ⟨fs, hr, hrun, hended, hW, hsame⟩ := X103.leave (v := some (.int ((4 : Int32) - own_pr c0 c1 - own_pr c1 c2 - own_pr c2 c3))) (fun h => by rw [Bd.returns] at h; cases h)
 refine ⟨_, _, p105 _ (retI X103 hx Bd.returns (hb hby d30_90) hr), hrun, hended, _, _, rfl, ?_, ⟨_, rfl⟩, hW, hsame.mono (by decide) (by decide)⟩
 show Q30_4 Z a1 k1 c0 c1 c2 c3 cs1 fm h0 n0 _ T103.heap _
 rw [e103]
 exact ⟨rfl, N103, rfl⟩
theorem ef_rm29_4 (m : MethodId) (a1 : Addr) (k1 : ClassId) (c0 : Int32) (c1 : Int32) (c2 : Int32) (c3 : Int32) (cs1 : Int32) (fm : Value) : entryFrame m #[(.ref a1), (.int (0 : Int32)), (.int (4 : Int32))] 3 = mkF m 0 #[.val (.ref a1), .val (.int (0 : Int32)), .val (.int (4 : Int32))] [] := by first | (simp [entryFrame, mkF, argsToLocals, Value.category]; done) | rfl
def Q29_4 (Z : State) (a1 : Addr) (k1 : ClassId) (c0 : Int32) (c1 : Int32) (c2 : Int32) (c3 : Int32) (cs1 : Int32) (fm : Value) (h0 : Heap) (n0 : Nat) (v : Option Value) (h : Heap) (L : List Loc) : Prop := v = some (.int (own_cp4 c0 c1 c2 c3)) ∧ Fr n0 L ∧ (h = h0)
set_option maxRecDepth 65536 in
set_option maxHeartbeats 40000000 in
theorem rm29_4 (l : Launch) (Z : State) (a0 : Array Value) (hw : ∀ d ∈ tables_1, d.before a0 Z = true) (ws : List Jvm.Cond) (a1 : Addr) (k1 : ClassId) (c0 : Int32) (c1 : Int32) (c2 : Int32) (c3 : Int32) (cs1 : Int32) (fm : Value) (h0 : Heap) (n0 : Nat) (Z0 : n0 ≤ h0.size) (O1 : Old Z n0 h0) (G : own_G Z cs1 fm) (V1 : Arv Z h0 a1 k1 .byte (8 : Int32) [(.int (own_x0 c0)), (.int (own_x8 c0)), (.int (own_x0 c1)), (.int (own_x8 c1)), (.int (own_x0 c2)), (.int (own_x8 c2)), (.int (own_x0 c3)), (.int (own_x8 c3))] (.int (0 : Int32))) (a0_ : ¬ (c0 < (0 : Int32))) (b0_ : ¬ ((65535 : Int32) < c0)) (a1_ : ¬ (c1 < (0 : Int32))) (b1_ : ¬ ((65535 : Int32) < c1)) (a2_ : ¬ (c2 < (0 : Int32))) (b2_ : ¬ ((65535 : Int32) < c2)) (a3_ : ¬ (c3 < (0 : Int32))) (b3_ : ¬ ((65535 : Int32) < c3)) :
  MetFree l (⟨"java/lang/StringUTF16", "codePointCount", "([BII)I"⟩ : MethodName) (head1 (Jvm.Cond.code (⟨"java/lang/StringUTF16", "codePointCount", "([BII)I"⟩ : MethodName) jdk_52_method_12_code 3 (some .int) :: ws) ({ frames := 5, cells := 0, slots := 0, locals := 77 } : Room)) (fun a U => a = #[(.ref a1), (.int (0 : Int32)), (.int (4 : Int32))] ∧ Z.Warmed39 U.vm ∧ U.heap = h0) (fun _ _ _ _ _ => True) (fun _ U o U' => ∃ v L, o = .returned v ∧ Q29_4 Z a1 k1 c0 c1 c2 c3 cs1 fm h0 n0 v U'.heap L ∧ FrameEnd U o U' L ({ frames := 5, cells := 0, slots := 0, locals := 77 } : Room).cells ({ frames := 5, cells := 0, slots := 0, locals := 77 } : Room).slots) := by
 refine MetFree.of_bodySF pn29 hisR ?_
 intro p e s m args below meth c s₁ Bd hml0 hP hK
 obtain ⟨rfl, hZ, hh⟩ := hP
 have hx := Bd.exec
 have hby := Bd.bytes
 have hml : c.maxLocals = 3 := hml0
 have hown : s.vm.findClass "java/lang/StringUTF16" = some m.cls := findClass_of_methodNamed Bd.named
 have hnm := (name_of_methodNamed Bd.named Bd.method).1
 have X0 : Stand p l e ({ frames := 5, cells := 0, slots := 0, locals := 77 } : Room) s m #[(.ref a1), (.int (0 : Int32)), (.int (4 : Int32))] below meth c s₁ [] 0 0 := Stand.of_body Bd
 have e0 : s₁.heap = h0 := by rw [← hh, Bd.state]; rfl
 have N0 := Fr.nil n0
 have p0 : Go p.tables e below (s₁.setTop (entryFrame m #[(.ref a1), (.int (0 : Int32)), (.int (4 : Int32))] 3)) (s₁.setTop (mkF m 0 #[.val (.ref a1), .val (.int (0 : Int32)), .val (.int (4 : Int32))] [])) := fun t_ k_ => castTop (ef_rm29_4 m a1 k1 c0 c1 c2 c3 cs1 fm) k_
 have p101 : Go p.tables e below _ (s₁.setTop (mkF m 4 #[.val (.ref a1), .val (.int (0 : Int32)), .val (.int (4 : Int32))] [(.int (0 : Int32)), (.int (4 : Int32)), (.int (0 : Int32)), (.ref a1)])) := fun t_ k_ => p0 t_ (by
  refine XS.aloadN X0.here hx rfl (hb hby d29_0) rfl rfl ?_
  refine XS.iloadN X0.here hx rfl (hb hby d29_1) rfl ?_
  refine XS.iloadN X0.here hx rfl (hb hby d29_2) rfl ?_
  refine XS.iconst X0.here hx rfl (hb hby d29_3) ?_
  exact k_)
 obtain ⟨_, _, ⟨T102, L102, k102, n102⟩, -, X102, ⟨Lc102, hQ102, l102, y102, z102⟩, st102⟩ := Jvm.LawKit.callS X0 hx (y := (⟨"java/lang/StringUTF16", "codePointCount", "([BIIZ)I"⟩ : MethodName)) hown (mvT hZ (own_w hw 135 rfl)) (mvT hZ (own_w hw 136 rfl)) (mvT hZ (own_w hw 22 rfl)) (mvT hZ (own_w hw 137 rfl)) (by decide) (backOf (W := 0) (rm30_4 l Z a0 hw [] a1 k1 c0 c1 c2 c3 cs1 fm h0 n0 (Nat.le_trans Z0 (Keep.refl h0 []).1) O1 G V1 a0_ b0_ a1_ b1_ a2_ b2_ a3_ b3_) hZ (own_w hw 137 rfl) (own_w hw 22 rfl) (by decide) (by decide)) (g := (mkF m 4 #[.val (.ref a1), .val (.int (0 : Int32)), .val (.int (4 : Int32))] [(.int (0 : Int32)), (.int (4 : Int32)), (.int (0 : Int32)), (.ref a1)])) rfl (by rw [hml]; rfl) (argsL := [(.ref a1), (.int (0 : Int32)), (.int (4 : Int32)), (.int (0 : Int32))]) (rest := []) (lenOf pd17 rfl) rfl (by show 2 * 0 + _ ≤ _; exact Nat.le_of_eq rfl) (hb hby d29_4) (fun _ _ => ⟨rfl, e0, (by decide : 0 + 0 ≤ _), (by decide : 0 + 0 ≤ _)⟩)
 dsimp only [Pt.U, Pt.locs, Pt.cells, Pt.slots] at X102 l102 y102 z102 st102 hQ102
 subst l102 y102 z102
 obtain ⟨rfl, N102q, q102_hh⟩ := hQ102
 have N102 := Fr.app N0 N102q
 obtain ⟨fs, hr, hrun, hended, hW, hsame⟩ := X102.leave (v := some (.int (own_cp4 c0 c1 c2 c3))) (fun h => by rw [Bd.returns] at h; cases h)
 refine ⟨_, _, (gc p101 st102) _ (retI X102 hx Bd.returns (hb hby d29_7) hr), hrun, hended, _, _, rfl, ?_, ⟨_, rfl⟩, hW, hsame.mono (by decide) (by decide)⟩
 show Q29_4 Z a1 k1 c0 c1 c2 c3 cs1 fm h0 n0 _ T102.heap _
 rw [q102_hh]
 exact ⟨rfl, N102, rfl⟩
theorem ef_rm17_0_4 (m : MethodId) (a1 : Addr) (bv : Addr) (k1 : ClassId) (c0 : Int32) (c1 : Int32) (c2 : Int32) (c3 : Int32) (cs1 : Int32) (fm : Value) : entryFrame m #[(.ref a1), (.int (0 : Int32)), (.int (4 : Int32))] 3 = mkF m 0 #[.val (.ref a1), .val (.int (0 : Int32)), .val (.int (4 : Int32))] [] := by first | (simp [entryFrame, mkF, argsToLocals, Value.category]; done) | rfl
def Q17_0_4 (Z : State) (a1 : Addr) (bv : Addr) (k1 : ClassId) (c0 : Int32) (c1 : Int32) (c2 : Int32) (c3 : Int32) (cs1 : Int32) (fm : Value) (h0 : Heap) (n0 : Nat) (v : Option Value) (h : Heap) (L : List Loc) : Prop := v = some (.int (4 : Int32)) ∧ Fr n0 L ∧ (h = h0)
set_option maxRecDepth 65536 in
set_option maxHeartbeats 40000000 in
theorem rm17_0_4 (l : Launch) (Z : State) (a0 : Array Value) (hw : ∀ d ∈ tables_1, d.before a0 Z = true) (ws : List Jvm.Cond) (a1 : Addr) (bv : Addr) (k1 : ClassId) (c0 : Int32) (c1 : Int32) (c2 : Int32) (c3 : Int32) (cs1 : Int32) (fm : Value) (h0 : Heap) (n0 : Nat) (Z0 : n0 ≤ h0.size) (O1 : Old Z n0 h0) (G : own_G Z cs1 fm) (E1 : Exa Z h0 a1 "java/lang/String") (F1 : Fld Z h0 a1 "java/lang/String" "coder" "B" (.int (0 : Int32))) (F2 : Fld Z h0 a1 "java/lang/String" "value" "[B" (.ref bv)) (V1 : Arv Z h0 bv k1 .byte (4 : Int32) [(.int (own_xl c0)), (.int (own_xl c1)), (.int (own_xl c2)), (.int (own_xl c3))] (.int (0 : Int32))) :
  MetFree l (⟨"java/lang/String", "codePointCount", "(II)I"⟩ : MethodName) (head1 (Jvm.Cond.code (⟨"java/lang/String", "codePointCount", "(II)I"⟩ : MethodName) jdk_42_method_59_code 3 (some .int) :: ws) ({ frames := 2, cells := 0, slots := 0, locals := 29 } : Room)) (fun a U => a = #[(.ref a1), (.int (0 : Int32)), (.int (4 : Int32))] ∧ Z.Warmed39 U.vm ∧ U.heap = h0) (fun _ _ _ _ _ => True) (fun _ U o U' => ∃ v L, o = .returned v ∧ Q17_0_4 Z a1 bv k1 c0 c1 c2 c3 cs1 fm h0 n0 v U'.heap L ∧ FrameEnd U o U' L ({ frames := 2, cells := 0, slots := 0, locals := 29 } : Room).cells ({ frames := 2, cells := 0, slots := 0, locals := 29 } : Room).slots) := by
 refine MetFree.of_bodySF pn17 hisR ?_
 intro p e s m args below meth c s₁ Bd hml0 hP hK
 obtain ⟨rfl, hZ, hh⟩ := hP
 have hx := Bd.exec
 have hby := Bd.bytes
 have hml : c.maxLocals = 3 := hml0
 have hown : s.vm.findClass "java/lang/String" = some m.cls := findClass_of_methodNamed Bd.named
 have hnm := (name_of_methodNamed Bd.named Bd.method).1
 have X0 : Stand p l e ({ frames := 2, cells := 0, slots := 0, locals := 29 } : Room) s m #[(.ref a1), (.int (0 : Int32)), (.int (4 : Int32))] below meth c s₁ [] 0 0 := Stand.of_body Bd
 have e0 : s₁.heap = h0 := by rw [← hh, Bd.state]; rfl
 have N0 := Fr.nil n0
 have p0 : Go p.tables e below (s₁.setTop (entryFrame m #[(.ref a1), (.int (0 : Int32)), (.int (4 : Int32))] 3)) (s₁.setTop (mkF m 0 #[.val (.ref a1), .val (.int (0 : Int32)), .val (.int (4 : Int32))] [])) := fun t_ k_ => castTop (ef_rm17_0_4 m a1 bv k1 c0 c1 c2 c3 cs1 fm) k_
 have p101 : Go p.tables e below _ (s₁.setTop (mkF m 3 #[.val (.ref a1), .val (.int (0 : Int32)), .val (.int (4 : Int32))] [(.ref a1), (.int (4 : Int32)), (.int (0 : Int32))])) := fun t_ k_ => p0 t_ (by
  refine XS.iloadN X0.here hx rfl (hb hby d17_0) rfl ?_
  refine XS.iloadN X0.here hx rfl (hb hby d17_1) rfl ?_
  refine XS.aloadN X0.here hx rfl (hb hby d17_2) rfl rfl ?_
  exact k_)
 obtain ⟨cq102, kq102, q102a, q102b, q102c⟩ := isOf hZ e0 E1
 obtain ⟨_, _, ⟨T102, L102, k102, n102⟩, -, X102, ⟨Lc102, hQ102, l102, y102, z102⟩, st102⟩ := X0.virtualBack hx (y := (⟨"java/lang/String", "length", "()I"⟩ : MethodName)) (z := (⟨"java/lang/String", "length", "()I"⟩ : MethodName)) hown (mvT hZ (own_w hw 90 rfl)) (mvT hZ (own_w hw 46 rfl)) (notFace_of_selects (args := #[]) (mvT hZ (own_w hw 48 rfl))) (mvT hZ (own_w hw 48 rfl)) (mvT hZ (own_w hw 47 rfl)) (by decide) (backOf (W := 2) (rm9_0 l Z a0 hw [] a1 (4 : Int32) bv k1 (4 : Int32) [(.int (own_xl c0)), (.int (own_xl c1)), (.int (own_xl c2)), (.int (own_xl c3))] cs1 fm h0 n0 (Nat.le_trans Z0 (Keep.refl h0 []).1) O1 G E1 F1 F2 V1 (by decide)) hZ (own_w hw 49 rfl) (own_w hw 8 rfl) (by decide) (by decide)) q102a q102c (g := (mkF m 3 #[.val (.ref a1), .val (.int (0 : Int32)), .val (.int (4 : Int32))] [(.ref a1), (.int (4 : Int32)), (.int (0 : Int32))])) rfl (by rw [hml]; rfl) (Steps.refl _) (argsL := []) (rest := [(.int (4 : Int32)), (.int (0 : Int32))]) (lenOf pd14 rfl) rfl (by show 2 * 0 + _ ≤ _; exact Nat.le_of_eq rfl) (hb hby d17_3) (fun _ _ => ⟨rfl, e0, (by decide : 0 + 0 ≤ _), (by decide : 0 + 0 ≤ _)⟩)
 dsimp only [Pt.U, Pt.locs, Pt.cells, Pt.slots] at X102 l102 y102 z102 st102 hQ102
 subst l102 y102 z102
 obtain ⟨rfl, N102q, q102_hh⟩ := hQ102
 have N102 := Fr.app N0 N102q
 obtain ⟨_, _, ⟨T103, L103, k103, n103⟩, -, X103, ⟨Lc103, hQ103, l103, y103, z103⟩, st103⟩ := Jvm.LawKit.callS X102 hx (y := (⟨"java/util/Objects", "checkFromToIndex", "(III)I"⟩ : MethodName)) hown (mvT hZ (own_w hw 91 rfl)) (mvT hZ (own_w hw 92 rfl)) (mvT hZ (own_w hw 93 rfl)) (mvT hZ (own_w hw 94 rfl)) (by decide) (backOf (W := 0) (rm18_4 l Z a0 hw []  h0 n0 (Nat.le_trans Z0 (Keep.refl h0 []).1) ) hZ (own_w hw 94 rfl) (own_w hw 93 rfl) (by decide) (by decide)) (g := (mkF m 6 #[.val (.ref a1), .val (.int (0 : Int32)), .val (.int (4 : Int32))] [(.int (4 : Int32)), (.int (4 : Int32)), (.int (0 : Int32))])) rfl (by rw [hml]; rfl) (argsL := [(.int (0 : Int32)), (.int (4 : Int32)), (.int (4 : Int32))]) (rest := []) (lenOf pd18 rfl) rfl (by show 2 * 0 + _ ≤ _; exact Nat.le_of_eq rfl) (hb hby d17_6) (fun _ _ => ⟨rfl, q102_hh, (by decide : 0 + 0 ≤ _), (by decide : 0 + 0 ≤ _)⟩)
 dsimp only [Pt.U, Pt.locs, Pt.cells, Pt.slots] at X103 l103 y103 z103 st103 hQ103
 subst l103 y103 z103
 obtain ⟨rfl, N103q, q103_hh⟩ := hQ103
 have N103 := Fr.app N102 N103q
 have p104 : Go p.tables e below _ (T103.setTop (mkF m 11 #[.val (.ref a1), .val (.int (0 : Int32)), .val (.int (4 : Int32))] [(.ref a1)])) := fun t_ k_ => (gc (gcT p101 st102) st103) t_ (by
  refine XS.pop X103.here hx rfl (hb hby d17_9) rfl rfl ?_
  refine XS.aloadN X103.here hx rfl (hb hby d17_10) rfl rfl ?_
  exact k_)
 obtain ⟨cq105, kq105, q105a, q105b, q105c⟩ := isOf hZ q103_hh E1
 obtain ⟨_, _, ⟨T105, L105, k105, n105⟩, -, X105, ⟨Lc105, hQ105, l105, y105, z105⟩, st105⟩ := X103.virtualBack hx (y := (⟨"java/lang/String", "isLatin1", "()Z"⟩ : MethodName)) (z := (⟨"java/lang/String", "isLatin1", "()Z"⟩ : MethodName)) hown (mvT hZ (own_w hw 60 rfl)) (mvT hZ (own_w hw 61 rfl)) (notFace_of_selects (args := #[]) (mvT hZ (own_w hw 63 rfl))) (mvT hZ (own_w hw 63 rfl)) (mvT hZ (own_w hw 62 rfl)) (by decide) (backOf (W := 0) (rm12_0 l Z a0 hw [] a1 cs1 fm h0 n0 (Nat.le_trans Z0 (Keep.refl h0 []).1) O1 G F1) hZ (own_w hw 64 rfl) (own_w hw 8 rfl) (by decide) (by decide)) q105a q105c (g := (mkF m 11 #[.val (.ref a1), .val (.int (0 : Int32)), .val (.int (4 : Int32))] [(.ref a1)])) rfl (by rw [hml]; rfl) (Steps.refl _) (argsL := []) (rest := []) (lenOf pd3 rfl) rfl (by show 2 * 0 + _ ≤ _; exact Nat.le_of_eq rfl) (hb hby d17_11) (fun _ _ => ⟨rfl, q103_hh, (by decide : 0 + 0 ≤ _), (by decide : 0 + 0 ≤ _)⟩)
 dsimp only [Pt.U, Pt.locs, Pt.cells, Pt.slots] at X105 l105 y105 z105 st105 hQ105
 subst l105 y105 z105
 obtain ⟨rfl, N105q, q105_hh⟩ := hQ105
 have N105 := Fr.app N103 N105q
 have p106 : Go p.tables e below _ (T105.setTop (mkF m 20 #[.val (.ref a1), .val (.int (0 : Int32)), .val (.int (4 : Int32))] [(.int (4 : Int32))])) := fun t_ k_ => (gcT p104 st105) t_ (by
  refine XS.ifNo X105.here hx rfl (hb hby d17_14) rfl ((if0 _ _).trans (feq (by decide : ¬ ((1 : Int32) = (0 : Int32)))).1) ?_
  refine XS.iloadN X105.here hx rfl (hb hby d17_17) rfl ?_
  refine XS.iloadN X105.here hx rfl (hb hby d17_18) rfl ?_
  refine XS.isub X105.here hx rfl (hb hby d17_19) rfl ?_
  exact k_)
 obtain ⟨fs, hr, hrun, hended, hW, hsame⟩ := X105.leave (v := some (.int (4 : Int32))) (fun h => by rw [Bd.returns] at h; cases h)
 refine ⟨_, _, p106 _ (retI X105 hx Bd.returns (hb hby d17_20) hr), hrun, hended, _, _, rfl, ?_, ⟨_, rfl⟩, hW, hsame.mono (by decide) (by decide)⟩
 show Q17_0_4 Z a1 bv k1 c0 c1 c2 c3 cs1 fm h0 n0 _ T105.heap _
 rw [q105_hh]
 exact ⟨rfl, N105, rfl⟩
theorem ef_rm16_0_4 (m : MethodId) (a1 : Addr) (a2 : Addr) (bv : Addr) (k1 : ClassId) (c0 : Int32) (c1 : Int32) (c2 : Int32) (c3 : Int32) (cs1 : Int32) (fm : Value) : entryFrame m #[(.ref a1), (.int (4 : Int32))] 2 = mkF m 0 #[.val (.ref a1), .val (.int (4 : Int32))] [] := by first | (simp [entryFrame, mkF, argsToLocals, Value.category]; done) | rfl
def Q16_0_4 (Z : State) (a1 : Addr) (a2 : Addr) (bv : Addr) (k1 : ClassId) (c0 : Int32) (c1 : Int32) (c2 : Int32) (c3 : Int32) (cs1 : Int32) (fm : Value) (h0 : Heap) (n0 : Nat) (v : Option Value) (h : Heap) (L : List Loc) : Prop := v = some (.int (5 : Int32)) ∧ Fr n0 L ∧ (h = h0)
set_option maxRecDepth 65536 in
set_option maxHeartbeats 40000000 in
theorem rm16_0_4 (l : Launch) (Z : State) (a0 : Array Value) (hw : ∀ d ∈ tables_1, d.before a0 Z = true) (ws : List Jvm.Cond) (a1 : Addr) (a2 : Addr) (bv : Addr) (k1 : ClassId) (c0 : Int32) (c1 : Int32) (c2 : Int32) (c3 : Int32) (cs1 : Int32) (fm : Value) (h0 : Heap) (n0 : Nat) (Z0 : n0 ≤ h0.size) (O1 : Old Z n0 h0) (G : own_G Z cs1 fm) (T1 : Fld Z h0 a1 "com/example/subsume/subsume/model/Lines" "text" "Ljava/lang/String;" (.ref a2)) (E1 : Exa Z h0 a2 "java/lang/String") (F1 : Fld Z h0 a2 "java/lang/String" "coder" "B" (.int (0 : Int32))) (F2 : Fld Z h0 a2 "java/lang/String" "value" "[B" (.ref bv)) (V1 : Arv Z h0 bv k1 .byte (4 : Int32) [(.int (own_xl c0)), (.int (own_xl c1)), (.int (own_xl c2)), (.int (own_xl c3))] (.int (0 : Int32))) :
  MetFree l (⟨"com/example/subsume/subsume/model/Lines", "character", "(I)I"⟩ : MethodName) (head1 (Jvm.Cond.code (⟨"com/example/subsume/subsume/model/Lines", "character", "(I)I"⟩ : MethodName) prog_16_method_2_code 2 (some .int) :: ws) ({ frames := 3, cells := 0, slots := 0, locals := 43 } : Room)) (fun a U => a = #[(.ref a1), (.int (4 : Int32))] ∧ Z.Warmed39 U.vm ∧ U.heap = h0) (fun _ _ _ _ _ => True) (fun _ U o U' => ∃ v L, o = .returned v ∧ Q16_0_4 Z a1 a2 bv k1 c0 c1 c2 c3 cs1 fm h0 n0 v U'.heap L ∧ FrameEnd U o U' L ({ frames := 3, cells := 0, slots := 0, locals := 43 } : Room).cells ({ frames := 3, cells := 0, slots := 0, locals := 43 } : Room).slots) := by
 refine MetFree.of_bodySF pn16 hisR ?_
 intro p e s m args below meth c s₁ Bd hml0 hP hK
 obtain ⟨rfl, hZ, hh⟩ := hP
 have hx := Bd.exec
 have hby := Bd.bytes
 have hml : c.maxLocals = 2 := hml0
 have hown : s.vm.findClass "com/example/subsume/subsume/model/Lines" = some m.cls := findClass_of_methodNamed Bd.named
 have hnm := (name_of_methodNamed Bd.named Bd.method).1
 have X0 : Stand p l e ({ frames := 3, cells := 0, slots := 0, locals := 43 } : Room) s m #[(.ref a1), (.int (4 : Int32))] below meth c s₁ [] 0 0 := Stand.of_body Bd
 have e0 : s₁.heap = h0 := by rw [← hh, Bd.state]; rfl
 have N0 := Fr.nil n0
 have p0 : Go p.tables e below (s₁.setTop (entryFrame m #[(.ref a1), (.int (4 : Int32))] 2)) (s₁.setTop (mkF m 0 #[.val (.ref a1), .val (.int (4 : Int32))] [])) := fun t_ k_ => castTop (ef_rm16_0_4 m a1 a2 bv k1 c0 c1 c2 c3 cs1 fm) k_
 have p101 : Go p.tables e below _ (s₁.setTop (mkF m 1 #[.val (.ref a1), .val (.int (4 : Int32))] [(.ref a1)])) := fun t_ k_ => p0 t_ (by
  refine XS.aloadN X0.here hx rfl (hb hby d16_0) rfl rfl ?_
  exact k_)
 obtain ⟨T102, X102, e102, st102⟩ := getF X0 hx hZ hown (host := "") (Or.inl (own_w hw 43 rfl)) Via.refl e0 T1 (g := (mkF m 1 #[.val (.ref a1), .val (.int (4 : Int32))] [(.ref a1)])) rfl rfl (hb hby d16_1)
 have p103 : Go p.tables e below _ (T102.setTop (mkF m 6 #[.val (.ref a1), .val (.int (4 : Int32))] [(.int (4 : Int32)), (.int (0 : Int32)), (.ref a2)])) := fun t_ k_ => (gc p101 st102) t_ (by
  refine XS.iconst X102.here hx rfl (hb hby d16_4) ?_
  refine XS.iloadN X102.here hx rfl (hb hby d16_5) rfl ?_
  exact k_)
 obtain ⟨cq104, kq104, q104a, q104b, q104c⟩ := isOf hZ e102 E1
 obtain ⟨_, _, ⟨T104, L104, k104, n104⟩, -, X104, ⟨Lc104, hQ104, l104, y104, z104⟩, st104⟩ := X102.virtualBack hx (y := (⟨"java/lang/String", "codePointCount", "(II)I"⟩ : MethodName)) (z := (⟨"java/lang/String", "codePointCount", "(II)I"⟩ : MethodName)) hown (mvT hZ (own_w hw 85 rfl)) (mvT hZ (own_w hw 86 rfl)) (notFace_of_selects (args := #[]) (mvT hZ (own_w hw 88 rfl))) (mvT hZ (own_w hw 88 rfl)) (mvT hZ (own_w hw 87 rfl)) (by decide) (backOf (W := 0) (rm17_0_4 l Z a0 hw [] a2 bv k1 c0 c1 c2 c3 cs1 fm h0 n0 (Nat.le_trans Z0 (Keep.refl h0 []).1) O1 G E1 F1 F2 V1) hZ (own_w hw 89 rfl) (own_w hw 8 rfl) (by decide) (by decide)) q104a q104c (g := (mkF m 6 #[.val (.ref a1), .val (.int (4 : Int32))] [(.int (4 : Int32)), (.int (0 : Int32)), (.ref a2)])) rfl (by rw [hml]; rfl) (Steps.refl _) (argsL := [(.int (0 : Int32)), (.int (4 : Int32))]) (rest := []) (lenOf pd19 rfl) rfl (by show 2 * 0 + _ ≤ _; exact Nat.le_of_eq rfl) (hb hby d16_6) (fun _ _ => ⟨rfl, e102, (by decide : 0 + 0 ≤ _), (by decide : 0 + 0 ≤ _)⟩)
 dsimp only [Pt.U, Pt.locs, Pt.cells, Pt.slots] at X104 l104 y104 z104 st104 hQ104
 subst l104 y104 z104
 obtain ⟨rfl, N104q, q104_hh⟩ := hQ104
 have N104 := Fr.app N0 N104q
 have p105 : Go p.tables e below _ (T104.setTop (mkF m 11 #[.val (.ref a1), .val (.int (4 : Int32))] [(.int (5 : Int32))])) := fun t_ k_ => (gcT p103 st104) t_ (by
  refine XS.iconst X104.here hx rfl (hb hby d16_9) ?_
  refine XS.iadd X104.here hx rfl (hb hby d16_10) rfl ?_
  exact k_)
 obtain ⟨fs, hr, hrun, hended, hW, hsame⟩ := X104.leave (v := some (.int (5 : Int32))) (fun h => by rw [Bd.returns] at h; cases h)
 refine ⟨_, _, p105 _ (retI X104 hx Bd.returns (hb hby d16_11) hr), hrun, hended, _, _, rfl, ?_, ⟨_, rfl⟩, hW, hsame.mono (by decide) (by decide)⟩
 show Q16_0_4 Z a1 a2 bv k1 c0 c1 c2 c3 cs1 fm h0 n0 _ T104.heap _
 rw [q104_hh]
 exact ⟨rfl, N104, rfl⟩
theorem ef_rm17_1_4 (m : MethodId) (a1 : Addr) (bv : Addr) (k1 : ClassId) (c0 : Int32) (c1 : Int32) (c2 : Int32) (c3 : Int32) (cs1 : Int32) (fm : Value) : entryFrame m #[(.ref a1), (.int (0 : Int32)), (.int (4 : Int32))] 3 = mkF m 0 #[.val (.ref a1), .val (.int (0 : Int32)), .val (.int (4 : Int32))] [] := by first | (simp [entryFrame, mkF, argsToLocals, Value.category]; done) | rfl
def Q17_1_4 (Z : State) (a1 : Addr) (bv : Addr) (k1 : ClassId) (c0 : Int32) (c1 : Int32) (c2 : Int32) (c3 : Int32) (cs1 : Int32) (fm : Value) (h0 : Heap) (n0 : Nat) (v : Option Value) (h : Heap) (L : List Loc) : Prop := v = some (.int (own_cp4 c0 c1 c2 c3)) ∧ Fr n0 L ∧ (h = h0)
set_option maxRecDepth 65536 in
set_option maxHeartbeats 40000000 in
theorem rm17_1_4 (l : Launch) (Z : State) (a0 : Array Value) (hw : ∀ d ∈ tables_1, d.before a0 Z = true) (ws : List Jvm.Cond) (a1 : Addr) (bv : Addr) (k1 : ClassId) (c0 : Int32) (c1 : Int32) (c2 : Int32) (c3 : Int32) (cs1 : Int32) (fm : Value) (h0 : Heap) (n0 : Nat) (Z0 : n0 ≤ h0.size) (O1 : Old Z n0 h0) (G : own_G Z cs1 fm) (a0_ : ¬ (c0 < (0 : Int32))) (b0_ : ¬ ((65535 : Int32) < c0)) (a1_ : ¬ (c1 < (0 : Int32))) (b1_ : ¬ ((65535 : Int32) < c1)) (a2_ : ¬ (c2 < (0 : Int32))) (b2_ : ¬ ((65535 : Int32) < c2)) (a3_ : ¬ (c3 < (0 : Int32))) (b3_ : ¬ ((65535 : Int32) < c3)) (E1 : Exa Z h0 a1 "java/lang/String") (F1 : Fld Z h0 a1 "java/lang/String" "coder" "B" (.int (1 : Int32))) (F2 : Fld Z h0 a1 "java/lang/String" "value" "[B" (.ref bv)) (V1 : Arv Z h0 bv k1 .byte (8 : Int32) [(.int (own_x0 c0)), (.int (own_x8 c0)), (.int (own_x0 c1)), (.int (own_x8 c1)), (.int (own_x0 c2)), (.int (own_x8 c2)), (.int (own_x0 c3)), (.int (own_x8 c3))] (.int (0 : Int32))) :
  MetFree l (⟨"java/lang/String", "codePointCount", "(II)I"⟩ : MethodName) (head1 (Jvm.Cond.code (⟨"java/lang/String", "codePointCount", "(II)I"⟩ : MethodName) jdk_42_method_59_code 3 (some .int) :: ws) ({ frames := 6, cells := 0, slots := 0, locals := 91 } : Room)) (fun a U => a = #[(.ref a1), (.int (0 : Int32)), (.int (4 : Int32))] ∧ Z.Warmed39 U.vm ∧ U.heap = h0) (fun _ _ _ _ _ => True) (fun _ U o U' => ∃ v L, o = .returned v ∧ Q17_1_4 Z a1 bv k1 c0 c1 c2 c3 cs1 fm h0 n0 v U'.heap L ∧ FrameEnd U o U' L ({ frames := 6, cells := 0, slots := 0, locals := 91 } : Room).cells ({ frames := 6, cells := 0, slots := 0, locals := 91 } : Room).slots) := by
 refine MetFree.of_bodySF pn17 hisR ?_
 intro p e s m args below meth c s₁ Bd hml0 hP hK
 obtain ⟨rfl, hZ, hh⟩ := hP
 have hx := Bd.exec
 have hby := Bd.bytes
 have hml : c.maxLocals = 3 := hml0
 have hown : s.vm.findClass "java/lang/String" = some m.cls := findClass_of_methodNamed Bd.named
 have hnm := (name_of_methodNamed Bd.named Bd.method).1
 have X0 : Stand p l e ({ frames := 6, cells := 0, slots := 0, locals := 91 } : Room) s m #[(.ref a1), (.int (0 : Int32)), (.int (4 : Int32))] below meth c s₁ [] 0 0 := Stand.of_body Bd
 have e0 : s₁.heap = h0 := by rw [← hh, Bd.state]; rfl
 have N0 := Fr.nil n0
 have p0 : Go p.tables e below (s₁.setTop (entryFrame m #[(.ref a1), (.int (0 : Int32)), (.int (4 : Int32))] 3)) (s₁.setTop (mkF m 0 #[.val (.ref a1), .val (.int (0 : Int32)), .val (.int (4 : Int32))] [])) := fun t_ k_ => castTop (ef_rm17_1_4 m a1 bv k1 c0 c1 c2 c3 cs1 fm) k_
 have p101 : Go p.tables e below _ (s₁.setTop (mkF m 3 #[.val (.ref a1), .val (.int (0 : Int32)), .val (.int (4 : Int32))] [(.ref a1), (.int (4 : Int32)), (.int (0 : Int32))])) := fun t_ k_ => p0 t_ (by
  refine XS.iloadN X0.here hx rfl (hb hby d17_0) rfl ?_
  refine XS.iloadN X0.here hx rfl (hb hby d17_1) rfl ?_
  refine XS.aloadN X0.here hx rfl (hb hby d17_2) rfl rfl ?_
  exact k_)
 obtain ⟨cq102, kq102, q102a, q102b, q102c⟩ := isOf hZ e0 E1
 obtain ⟨_, _, ⟨T102, L102, k102, n102⟩, -, X102, ⟨Lc102, hQ102, l102, y102, z102⟩, st102⟩ := X0.virtualBack hx (y := (⟨"java/lang/String", "length", "()I"⟩ : MethodName)) (z := (⟨"java/lang/String", "length", "()I"⟩ : MethodName)) hown (mvT hZ (own_w hw 90 rfl)) (mvT hZ (own_w hw 46 rfl)) (notFace_of_selects (args := #[]) (mvT hZ (own_w hw 48 rfl))) (mvT hZ (own_w hw 48 rfl)) (mvT hZ (own_w hw 47 rfl)) (by decide) (backOf (W := 2) (rm9_1 l Z a0 hw [] a1 (4 : Int32) bv k1 (8 : Int32) [(.int (own_x0 c0)), (.int (own_x8 c0)), (.int (own_x0 c1)), (.int (own_x8 c1)), (.int (own_x0 c2)), (.int (own_x8 c2)), (.int (own_x0 c3)), (.int (own_x8 c3))] cs1 fm h0 n0 (Nat.le_trans Z0 (Keep.refl h0 []).1) O1 G E1 F1 F2 V1 (by decide)) hZ (own_w hw 49 rfl) (own_w hw 8 rfl) (by decide) (by decide)) q102a q102c (g := (mkF m 3 #[.val (.ref a1), .val (.int (0 : Int32)), .val (.int (4 : Int32))] [(.ref a1), (.int (4 : Int32)), (.int (0 : Int32))])) rfl (by rw [hml]; rfl) (Steps.refl _) (argsL := []) (rest := [(.int (4 : Int32)), (.int (0 : Int32))]) (lenOf pd14 rfl) rfl (by show 2 * 0 + _ ≤ _; exact Nat.le_of_eq rfl) (hb hby d17_3) (fun _ _ => ⟨rfl, e0, (by decide : 0 + 0 ≤ _), (by decide : 0 + 0 ≤ _)⟩)
 dsimp only [Pt.U, Pt.locs, Pt.cells, Pt.slots] at X102 l102 y102 z102 st102 hQ102
 subst l102 y102 z102
 obtain ⟨rfl, N102q, q102_hh⟩ := hQ102
 have N102 := Fr.app N0 N102q
 obtain ⟨_, _, ⟨T103, L103, k103, n103⟩, -, X103, ⟨Lc103, hQ103, l103, y103, z103⟩, st103⟩ := Jvm.LawKit.callS X102 hx (y := (⟨"java/util/Objects", "checkFromToIndex", "(III)I"⟩ : MethodName)) hown (mvT hZ (own_w hw 91 rfl)) (mvT hZ (own_w hw 92 rfl)) (mvT hZ (own_w hw 93 rfl)) (mvT hZ (own_w hw 94 rfl)) (by decide) (backOf (W := 0) (rm18_4 l Z a0 hw []  h0 n0 (Nat.le_trans Z0 (Keep.refl h0 []).1) ) hZ (own_w hw 94 rfl) (own_w hw 93 rfl) (by decide) (by decide)) (g := (mkF m 6 #[.val (.ref a1), .val (.int (0 : Int32)), .val (.int (4 : Int32))] [(.int (4 : Int32)), (.int (4 : Int32)), (.int (0 : Int32))])) rfl (by rw [hml]; rfl) (argsL := [(.int (0 : Int32)), (.int (4 : Int32)), (.int (4 : Int32))]) (rest := []) (lenOf pd18 rfl) rfl (by show 2 * 0 + _ ≤ _; exact Nat.le_of_eq rfl) (hb hby d17_6) (fun _ _ => ⟨rfl, q102_hh, (by decide : 0 + 0 ≤ _), (by decide : 0 + 0 ≤ _)⟩)
 dsimp only [Pt.U, Pt.locs, Pt.cells, Pt.slots] at X103 l103 y103 z103 st103 hQ103
 subst l103 y103 z103
 obtain ⟨rfl, N103q, q103_hh⟩ := hQ103
 have N103 := Fr.app N102 N103q
 have p104 : Go p.tables e below _ (T103.setTop (mkF m 11 #[.val (.ref a1), .val (.int (0 : Int32)), .val (.int (4 : Int32))] [(.ref a1)])) := fun t_ k_ => (gc (gcT p101 st102) st103) t_ (by
  refine XS.pop X103.here hx rfl (hb hby d17_9) rfl rfl ?_
  refine XS.aloadN X103.here hx rfl (hb hby d17_10) rfl rfl ?_
  exact k_)
 obtain ⟨cq105, kq105, q105a, q105b, q105c⟩ := isOf hZ q103_hh E1
 obtain ⟨_, _, ⟨T105, L105, k105, n105⟩, -, X105, ⟨Lc105, hQ105, l105, y105, z105⟩, st105⟩ := X103.virtualBack hx (y := (⟨"java/lang/String", "isLatin1", "()Z"⟩ : MethodName)) (z := (⟨"java/lang/String", "isLatin1", "()Z"⟩ : MethodName)) hown (mvT hZ (own_w hw 60 rfl)) (mvT hZ (own_w hw 61 rfl)) (notFace_of_selects (args := #[]) (mvT hZ (own_w hw 63 rfl))) (mvT hZ (own_w hw 63 rfl)) (mvT hZ (own_w hw 62 rfl)) (by decide) (backOf (W := 0) (rm12_1 l Z a0 hw [] a1 cs1 fm h0 n0 (Nat.le_trans Z0 (Keep.refl h0 []).1) O1 G F1) hZ (own_w hw 64 rfl) (own_w hw 8 rfl) (by decide) (by decide)) q105a q105c (g := (mkF m 11 #[.val (.ref a1), .val (.int (0 : Int32)), .val (.int (4 : Int32))] [(.ref a1)])) rfl (by rw [hml]; rfl) (Steps.refl _) (argsL := []) (rest := []) (lenOf pd3 rfl) rfl (by show 2 * 0 + _ ≤ _; exact Nat.le_of_eq rfl) (hb hby d17_11) (fun _ _ => ⟨rfl, q103_hh, (by decide : 0 + 0 ≤ _), (by decide : 0 + 0 ≤ _)⟩)
 dsimp only [Pt.U, Pt.locs, Pt.cells, Pt.slots] at X105 l105 y105 z105 st105 hQ105
 subst l105 y105 z105
 obtain ⟨rfl, N105q, q105_hh⟩ := hQ105
 have N105 := Fr.app N103 N105q
 have p106 : Go p.tables e below _ (T105.setTop (mkF m 22 #[.val (.ref a1), .val (.int (0 : Int32)), .val (.int (4 : Int32))] [(.ref a1)])) := fun t_ k_ => (gcT p104 st105) t_ (by
  refine XS.ifYes X105.here hx rfl (pc0 := 14) (pc' := 21) rfl (hb hby d17_14) rfl ((if0 _ _).trans (teq (by decide : ((0 : Int32) = (0 : Int32)))).1) (by decide) (by decide) ?_
  refine XS.aloadN X105.here hx rfl (hb hby d17_21) rfl rfl ?_
  exact k_)
 obtain ⟨T107, X107, e107, st107⟩ := getF X105 hx hZ hown (host := "") (Or.inl (own_w hw 33 rfl)) Via.refl q105_hh F2 (g := (mkF m 22 #[.val (.ref a1), .val (.int (0 : Int32)), .val (.int (4 : Int32))] [(.ref a1)])) rfl rfl (hb hby d17_22)
 have p108 : Go p.tables e below _ (T107.setTop (mkF m 27 #[.val (.ref a1), .val (.int (0 : Int32)), .val (.int (4 : Int32))] [(.int (4 : Int32)), (.int (0 : Int32)), (.ref bv)])) := fun t_ k_ => (gc p106 st107) t_ (by
  refine XS.iloadN X107.here hx rfl (hb hby d17_25) rfl ?_
  refine XS.iloadN X107.here hx rfl (hb hby d17_26) rfl ?_
  exact k_)
 obtain ⟨_, _, ⟨T109, L109, k109, n109⟩, -, X109, ⟨Lc109, hQ109, l109, y109, z109⟩, st109⟩ := Jvm.LawKit.callS X107 hx (y := (⟨"java/lang/StringUTF16", "codePointCount", "([BII)I"⟩ : MethodName)) hown (mvT hZ (own_w hw 132 rfl)) (mvT hZ (own_w hw 133 rfl)) (mvT hZ (own_w hw 22 rfl)) (mvT hZ (own_w hw 134 rfl)) (by decide) (backOf (W := 0) (rm29_4 l Z a0 hw [] bv k1 c0 c1 c2 c3 cs1 fm h0 n0 (Nat.le_trans Z0 (Keep.refl h0 []).1) O1 G V1 a0_ b0_ a1_ b1_ a2_ b2_ a3_ b3_) hZ (own_w hw 134 rfl) (own_w hw 22 rfl) (by decide) (by decide)) (g := (mkF m 27 #[.val (.ref a1), .val (.int (0 : Int32)), .val (.int (4 : Int32))] [(.int (4 : Int32)), (.int (0 : Int32)), (.ref bv)])) rfl (by rw [hml]; rfl) (argsL := [(.ref bv), (.int (0 : Int32)), (.int (4 : Int32))]) (rest := []) (lenOf pd20 rfl) rfl (by show 2 * 0 + _ ≤ _; exact Nat.le_of_eq rfl) (hb hby d17_27) (fun _ _ => ⟨rfl, e107, (by decide : 0 + 0 ≤ _), (by decide : 0 + 0 ≤ _)⟩)
 dsimp only [Pt.U, Pt.locs, Pt.cells, Pt.slots] at X109 l109 y109 z109 st109 hQ109
 subst l109 y109 z109
 obtain ⟨rfl, N109q, q109_hh⟩ := hQ109
 have N109 := Fr.app N105 N109q
 obtain ⟨fs, hr, hrun, hended, hW, hsame⟩ := X109.leave (v := some (.int (own_cp4 c0 c1 c2 c3))) (fun h => by rw [Bd.returns] at h; cases h)
 refine ⟨_, _, (gc p108 st109) _ (retI X109 hx Bd.returns (hb hby d17_30) hr), hrun, hended, _, _, rfl, ?_, ⟨_, rfl⟩, hW, hsame.mono (by decide) (by decide)⟩
 show Q17_1_4 Z a1 bv k1 c0 c1 c2 c3 cs1 fm h0 n0 _ T109.heap _
 rw [q109_hh]
 exact ⟨rfl, N109, rfl⟩
theorem ef_rm16_1_4 (m : MethodId) (a1 : Addr) (a2 : Addr) (bv : Addr) (k1 : ClassId) (c0 : Int32) (c1 : Int32) (c2 : Int32) (c3 : Int32) (cs1 : Int32) (fm : Value) : entryFrame m #[(.ref a1), (.int (4 : Int32))] 2 = mkF m 0 #[.val (.ref a1), .val (.int (4 : Int32))] [] := by first | (simp [entryFrame, mkF, argsToLocals, Value.category]; done) | rfl
def Q16_1_4 (Z : State) (a1 : Addr) (a2 : Addr) (bv : Addr) (k1 : ClassId) (c0 : Int32) (c1 : Int32) (c2 : Int32) (c3 : Int32) (cs1 : Int32) (fm : Value) (h0 : Heap) (n0 : Nat) (v : Option Value) (h : Heap) (L : List Loc) : Prop := v = some (.int ((own_cp4 c0 c1 c2 c3) + (1 : Int32))) ∧ Fr n0 L ∧ (h = h0)
set_option maxRecDepth 65536 in
set_option maxHeartbeats 40000000 in
theorem rm16_1_4 (l : Launch) (Z : State) (a0 : Array Value) (hw : ∀ d ∈ tables_1, d.before a0 Z = true) (ws : List Jvm.Cond) (a1 : Addr) (a2 : Addr) (bv : Addr) (k1 : ClassId) (c0 : Int32) (c1 : Int32) (c2 : Int32) (c3 : Int32) (cs1 : Int32) (fm : Value) (h0 : Heap) (n0 : Nat) (Z0 : n0 ≤ h0.size) (O1 : Old Z n0 h0) (G : own_G Z cs1 fm) (a0_ : ¬ (c0 < (0 : Int32))) (b0_ : ¬ ((65535 : Int32) < c0)) (a1_ : ¬ (c1 < (0 : Int32))) (b1_ : ¬ ((65535 : Int32) < c1)) (a2_ : ¬ (c2 < (0 : Int32))) (b2_ : ¬ ((65535 : Int32) < c2)) (a3_ : ¬ (c3 < (0 : Int32))) (b3_ : ¬ ((65535 : Int32) < c3)) (T1 : Fld Z h0 a1 "com/example/subsume/subsume/model/Lines" "text" "Ljava/lang/String;" (.ref a2)) (E1 : Exa Z h0 a2 "java/lang/String") (F1 : Fld Z h0 a2 "java/lang/String" "coder" "B" (.int (1 : Int32))) (F2 : Fld Z h0 a2 "java/lang/String" "value" "[B" (.ref bv)) (V1 : Arv Z h0 bv k1 .byte (8 : Int32) [(.int (own_x0 c0)), (.int (own_x8 c0)), (.int (own_x0 c1)), (.int (own_x8 c1)), (.int (own_x0 c2)), (.int (own_x8 c2)), (.int (own_x0 c3)), (.int (own_x8 c3))] (.int (0 : Int32))) :
  MetFree l (⟨"com/example/subsume/subsume/model/Lines", "character", "(I)I"⟩ : MethodName) (head1 (Jvm.Cond.code (⟨"com/example/subsume/subsume/model/Lines", "character", "(I)I"⟩ : MethodName) prog_16_method_2_code 2 (some .int) :: ws) ({ frames := 7, cells := 0, slots := 0, locals := 105 } : Room)) (fun a U => a = #[(.ref a1), (.int (4 : Int32))] ∧ Z.Warmed39 U.vm ∧ U.heap = h0) (fun _ _ _ _ _ => True) (fun _ U o U' => ∃ v L, o = .returned v ∧ Q16_1_4 Z a1 a2 bv k1 c0 c1 c2 c3 cs1 fm h0 n0 v U'.heap L ∧ FrameEnd U o U' L ({ frames := 7, cells := 0, slots := 0, locals := 105 } : Room).cells ({ frames := 7, cells := 0, slots := 0, locals := 105 } : Room).slots) := by
 refine MetFree.of_bodySF pn16 hisR ?_
 intro p e s m args below meth c s₁ Bd hml0 hP hK
 obtain ⟨rfl, hZ, hh⟩ := hP
 have hx := Bd.exec
 have hby := Bd.bytes
 have hml : c.maxLocals = 2 := hml0
 have hown : s.vm.findClass "com/example/subsume/subsume/model/Lines" = some m.cls := findClass_of_methodNamed Bd.named
 have hnm := (name_of_methodNamed Bd.named Bd.method).1
 have X0 : Stand p l e ({ frames := 7, cells := 0, slots := 0, locals := 105 } : Room) s m #[(.ref a1), (.int (4 : Int32))] below meth c s₁ [] 0 0 := Stand.of_body Bd
 have e0 : s₁.heap = h0 := by rw [← hh, Bd.state]; rfl
 have N0 := Fr.nil n0
 have p0 : Go p.tables e below (s₁.setTop (entryFrame m #[(.ref a1), (.int (4 : Int32))] 2)) (s₁.setTop (mkF m 0 #[.val (.ref a1), .val (.int (4 : Int32))] [])) := fun t_ k_ => castTop (ef_rm16_1_4 m a1 a2 bv k1 c0 c1 c2 c3 cs1 fm) k_
 have p101 : Go p.tables e below _ (s₁.setTop (mkF m 1 #[.val (.ref a1), .val (.int (4 : Int32))] [(.ref a1)])) := fun t_ k_ => p0 t_ (by
  refine XS.aloadN X0.here hx rfl (hb hby d16_0) rfl rfl ?_
  exact k_)
 obtain ⟨T102, X102, e102, st102⟩ := getF X0 hx hZ hown (host := "") (Or.inl (own_w hw 43 rfl)) Via.refl e0 T1 (g := (mkF m 1 #[.val (.ref a1), .val (.int (4 : Int32))] [(.ref a1)])) rfl rfl (hb hby d16_1)
 have p103 : Go p.tables e below _ (T102.setTop (mkF m 6 #[.val (.ref a1), .val (.int (4 : Int32))] [(.int (4 : Int32)), (.int (0 : Int32)), (.ref a2)])) := fun t_ k_ => (gc p101 st102) t_ (by
  refine XS.iconst X102.here hx rfl (hb hby d16_4) ?_
  refine XS.iloadN X102.here hx rfl (hb hby d16_5) rfl ?_
  exact k_)
 obtain ⟨cq104, kq104, q104a, q104b, q104c⟩ := isOf hZ e102 E1
 obtain ⟨_, _, ⟨T104, L104, k104, n104⟩, -, X104, ⟨Lc104, hQ104, l104, y104, z104⟩, st104⟩ := X102.virtualBack hx (y := (⟨"java/lang/String", "codePointCount", "(II)I"⟩ : MethodName)) (z := (⟨"java/lang/String", "codePointCount", "(II)I"⟩ : MethodName)) hown (mvT hZ (own_w hw 85 rfl)) (mvT hZ (own_w hw 86 rfl)) (notFace_of_selects (args := #[]) (mvT hZ (own_w hw 88 rfl))) (mvT hZ (own_w hw 88 rfl)) (mvT hZ (own_w hw 87 rfl)) (by decide) (backOf (W := 0) (rm17_1_4 l Z a0 hw [] a2 bv k1 c0 c1 c2 c3 cs1 fm h0 n0 (Nat.le_trans Z0 (Keep.refl h0 []).1) O1 G a0_ b0_ a1_ b1_ a2_ b2_ a3_ b3_ E1 F1 F2 V1) hZ (own_w hw 89 rfl) (own_w hw 8 rfl) (by decide) (by decide)) q104a q104c (g := (mkF m 6 #[.val (.ref a1), .val (.int (4 : Int32))] [(.int (4 : Int32)), (.int (0 : Int32)), (.ref a2)])) rfl (by rw [hml]; rfl) (Steps.refl _) (argsL := [(.int (0 : Int32)), (.int (4 : Int32))]) (rest := []) (lenOf pd19 rfl) rfl (by show 2 * 0 + _ ≤ _; exact Nat.le_of_eq rfl) (hb hby d16_6) (fun _ _ => ⟨rfl, e102, (by decide : 0 + 0 ≤ _), (by decide : 0 + 0 ≤ _)⟩)
 dsimp only [Pt.U, Pt.locs, Pt.cells, Pt.slots] at X104 l104 y104 z104 st104 hQ104
 subst l104 y104 z104
 obtain ⟨rfl, N104q, q104_hh⟩ := hQ104
 have N104 := Fr.app N0 N104q
 have p105 : Go p.tables e below _ (T104.setTop (mkF m 11 #[.val (.ref a1), .val (.int (4 : Int32))] [(.int ((own_cp4 c0 c1 c2 c3) + (1 : Int32)))])) := fun t_ k_ => (gcT p103 st104) t_ (by
  refine XS.iconst X104.here hx rfl (hb hby d16_9) ?_
  refine XS.iadd X104.here hx rfl (hb hby d16_10) rfl ?_
  exact k_)
 obtain ⟨fs, hr, hrun, hended, hW, hsame⟩ := X104.leave (v := some (.int ((own_cp4 c0 c1 c2 c3) + (1 : Int32)))) (fun h => by rw [Bd.returns] at h; cases h)
 refine ⟨_, _, p105 _ (retI X104 hx Bd.returns (hb hby d16_11) hr), hrun, hended, _, _, rfl, ?_, ⟨_, rfl⟩, hW, hsame.mono (by decide) (by decide)⟩
 show Q16_1_4 Z a1 a2 bv k1 c0 c1 c2 c3 cs1 fm h0 n0 _ T104.heap _
 rw [q104_hh]
 exact ⟨rfl, N104, rfl⟩
theorem pd22 : parseMethodDescriptor "([C)V" = some ⟨[(.array .char)], none⟩ := by decide +kernel
theorem pd23 : parseMethodDescriptor "(Ljava/lang/String;)V" = some ⟨[(.object "java/lang/String")], none⟩ := by decide +kernel
theorem pn0 : plainFor (⟨"com/example/subsume/subsume/model/LinesCharacterPinLaw", "law", "(IIIII)Z"⟩ : MethodName) = true := plainFor_of_name (by first | (simp [plainName, overriddenIn]; done) | decide +kernel)
theorem ef_rm0 (m : MethodId) (p1 : Int32) (p2 : Int32) (p3 : Int32) (p4 : Int32) (p5 : Int32) (cs1 : Int32) (fm : Value) : entryFrame m #[(.int p1), (.int p2), (.int p3), (.int p4), (.int p5)] maxLocals = mkF m 0 #[.val (.int p1), .val (.int p2), .val (.int p3), .val (.int p4), .val (.int p5), .unset, .unset, .unset, .unset, .unset, .unset, .unset, .unset, .unset, .unset, .unset] [] := by first | (simp [entryFrame, mkF, argsToLocals, Value.category, maxLocals]; done) | rfl
def Q0 (Z : State) (p1 : Int32) (p2 : Int32) (p3 : Int32) (p4 : Int32) (p5 : Int32) (cs1 : Int32) (fm : Value) (h0 : Heap) (n0 : Nat) (v : Option Value) (h : Heap) (L : List Loc) : Prop := v = some (.int (1 : Int32)) ∧ Fr n0 L
set_option maxRecDepth 65536 in
set_option maxHeartbeats 40000000 in
theorem rm0 (l : Launch) (Z : State) (a0 : Array Value) (hw : ∀ d ∈ tables_1, d.before a0 Z = true) (ws : List Jvm.Cond) (p1 : Int32) (p2 : Int32) (p3 : Int32) (p4 : Int32) (p5 : Int32) (cs1 : Int32) (fm : Value) (h0 : Heap) (n0 : Nat) (Z0 : n0 ≤ h0.size) (O1 : Old Z n0 h0) (G : own_G Z cs1 fm) :
  MetFree l x (head1 (Jvm.Cond.code x code maxLocals ret :: ws) room_1) (fun a U => a = #[(.int p1), (.int p2), (.int p3), (.int p4), (.int p5)] ∧ Z.Warmed39 U.vm ∧ U.heap = h0) (fun _ _ _ _ _ => True) (fun _ U o U' => ∃ v L, o = .returned v ∧ Q0 Z p1 p2 p3 p4 p5 cs1 fm h0 n0 v U'.heap L ∧ FrameEnd U o U' L room_1.cells room_1.slots) := by
 refine MetFree.of_bodySF pn0 hisR ?_
 intro p e s m args below meth c s₁ Bd hml0 hP hK
 obtain ⟨rfl, hZ, hh⟩ := hP
 have hx := Bd.exec
 have hby := Bd.bytes
 have hml : c.maxLocals = 16 := hml0
 have hown : s.vm.findClass "com/example/subsume/subsume/model/LinesCharacterPinLaw" = some m.cls := findClass_of_methodNamed Bd.named
 have hnm := (name_of_methodNamed Bd.named Bd.method).1
 have X0 : Stand p l e room_1 s m #[(.int p1), (.int p2), (.int p3), (.int p4), (.int p5)] below meth c s₁ [] 0 0 := Stand.of_body Bd
 have e0 : s₁.heap = h0 := by rw [← hh, Bd.state]; rfl
 have N0 := Fr.nil n0
 have p0 : Go p.tables e below (s₁.setTop (entryFrame m #[(.int p1), (.int p2), (.int p3), (.int p4), (.int p5)] maxLocals)) (s₁.setTop (mkF m 0 #[.val (.int p1), .val (.int p2), .val (.int p3), .val (.int p4), .val (.int p5), .unset, .unset, .unset, .unset, .unset, .unset, .unset, .unset, .unset, .unset, .unset] [])) := fun t_ k_ => castTop (ef_rm0 m p1 p2 p3 p4 p5 cs1 fm) k_
 have p101 : Go p.tables e below _ (s₁.setTop (mkF m 1 #[.val (.int p1), .val (.int p2), .val (.int p3), .val (.int p4), .val (.int p5), .unset, .unset, .unset, .unset, .unset, .unset, .unset, .unset, .unset, .unset, .unset] [(.int p1)])) := fun t_ k_ => p0 t_ (by
  refine XS.iloadN X0.here hx rfl (hb hby at_0) rfl ?_
  exact k_)
 obtain ⟨_, _, ⟨T102, L102, k102, n102⟩, -, X102, ⟨Lc102, hQ102, l102, y102, z102⟩, st102⟩ := Jvm.LawKit.callS X0 hx (y := (⟨"com/example/subsume/subsume/model/LinesCharacterPinLaw", "draw", "(I)C"⟩ : MethodName)) hown (mvT hZ (own_w hw 0 rfl)) (mvT hZ (own_w hw 1 rfl)) (mvT hZ (own_w hw 2 rfl)) (mvT hZ (own_w hw 3 rfl)) (by decide) (backOf (W := 0) (rm1 l Z a0 hw [] p1 h0 n0 (Nat.le_trans Z0 (Keep.refl h0 []).1) ) hZ (own_w hw 3 rfl) (own_w hw 2 rfl) (by decide) (by decide)) (g := (mkF m 1 #[.val (.int p1), .val (.int p2), .val (.int p3), .val (.int p4), .val (.int p5), .unset, .unset, .unset, .unset, .unset, .unset, .unset, .unset, .unset, .unset, .unset] [(.int p1)])) rfl (by rw [hml]; rfl) (argsL := [(.int p1)]) (rest := []) (lenOf pd15 rfl) rfl (by show 2 * 0 + _ ≤ _; exact Nat.le_of_eq rfl) (hb hby at_1) (fun _ _ => ⟨rfl, e0, (by decide : 0 + 0 ≤ _), (by decide : 0 + 0 ≤ _)⟩)
 dsimp only [Pt.U, Pt.locs, Pt.cells, Pt.slots] at X102 l102 y102 z102 st102 hQ102
 subst l102 y102 z102
 obtain ⟨x103, rfl, N102q, q102_hh, q102_ra, q102_rb⟩ := hQ102
 have N102 := Fr.app N0 N102q
 have p104 : Go p.tables e below _ (T102.setTop (mkF m 6 #[.val (.int p1), .val (.int p2), .val (.int p3), .val (.int p4), .val (.int p5), .val (.int x103), .unset, .unset, .unset, .unset, .unset, .unset, .unset, .unset, .unset, .unset] [])) := fun t_ k_ => (gc p101 st102) t_ (by
  refine XS.istore X102.here hx rfl (hb hby at_4) rfl (l' := #[.val (.int p1), .val (.int p2), .val (.int p3), .val (.int p4), .val (.int p5), .val (.int x103), .unset, .unset, .unset, .unset, .unset, .unset, .unset, .unset, .unset, .unset]) rfl ?_
  exact k_)
 have ra0 := q102_ra
 have rb0 := q102_rb
 have p105 : Go p.tables e below _ (T102.setTop (mkF m 7 #[.val (.int p1), .val (.int p2), .val (.int p3), .val (.int p4), .val (.int p5), .val (.int x103), .unset, .unset, .unset, .unset, .unset, .unset, .unset, .unset, .unset, .unset] [(.int p2)])) := fun t_ k_ => p104 t_ (by
  refine XS.iloadN X102.here hx rfl (hb hby at_6) rfl ?_
  exact k_)
 obtain ⟨_, _, ⟨T106, L106, k106, n106⟩, -, X106, ⟨Lc106, hQ106, l106, y106, z106⟩, st106⟩ := Jvm.LawKit.callS X102 hx (y := (⟨"com/example/subsume/subsume/model/LinesCharacterPinLaw", "draw", "(I)C"⟩ : MethodName)) hown (mvT hZ (own_w hw 0 rfl)) (mvT hZ (own_w hw 1 rfl)) (mvT hZ (own_w hw 2 rfl)) (mvT hZ (own_w hw 3 rfl)) (by decide) (backOf (W := 0) (rm1 l Z a0 hw [] p2 h0 n0 (Nat.le_trans Z0 (Keep.refl h0 []).1) ) hZ (own_w hw 3 rfl) (own_w hw 2 rfl) (by decide) (by decide)) (g := (mkF m 7 #[.val (.int p1), .val (.int p2), .val (.int p3), .val (.int p4), .val (.int p5), .val (.int x103), .unset, .unset, .unset, .unset, .unset, .unset, .unset, .unset, .unset, .unset] [(.int p2)])) rfl (by rw [hml]; rfl) (argsL := [(.int p2)]) (rest := []) (lenOf pd15 rfl) rfl (by show 2 * 0 + _ ≤ _; exact Nat.le_of_eq rfl) (hb hby at_7) (fun _ _ => ⟨rfl, q102_hh, (by decide : 0 + 0 ≤ _), (by decide : 0 + 0 ≤ _)⟩)
 dsimp only [Pt.U, Pt.locs, Pt.cells, Pt.slots] at X106 l106 y106 z106 st106 hQ106
 subst l106 y106 z106
 obtain ⟨x107, rfl, N106q, q106_hh, q106_ra, q106_rb⟩ := hQ106
 have N106 := Fr.app N102 N106q
 have p108 : Go p.tables e below _ (T106.setTop (mkF m 12 #[.val (.int p1), .val (.int p2), .val (.int p3), .val (.int p4), .val (.int p5), .val (.int x103), .val (.int x107), .unset, .unset, .unset, .unset, .unset, .unset, .unset, .unset, .unset] [])) := fun t_ k_ => (gc p105 st106) t_ (by
  refine XS.istore X106.here hx rfl (hb hby at_10) rfl (l' := #[.val (.int p1), .val (.int p2), .val (.int p3), .val (.int p4), .val (.int p5), .val (.int x103), .val (.int x107), .unset, .unset, .unset, .unset, .unset, .unset, .unset, .unset, .unset]) rfl ?_
  exact k_)
 have ra1 := q106_ra
 have rb1 := q106_rb
 have p109 : Go p.tables e below _ (T106.setTop (mkF m 13 #[.val (.int p1), .val (.int p2), .val (.int p3), .val (.int p4), .val (.int p5), .val (.int x103), .val (.int x107), .unset, .unset, .unset, .unset, .unset, .unset, .unset, .unset, .unset] [(.int p3)])) := fun t_ k_ => p108 t_ (by
  refine XS.iloadN X106.here hx rfl (hb hby at_12) rfl ?_
  exact k_)
 obtain ⟨_, _, ⟨T110, L110, k110, n110⟩, -, X110, ⟨Lc110, hQ110, l110, y110, z110⟩, st110⟩ := Jvm.LawKit.callS X106 hx (y := (⟨"com/example/subsume/subsume/model/LinesCharacterPinLaw", "draw", "(I)C"⟩ : MethodName)) hown (mvT hZ (own_w hw 0 rfl)) (mvT hZ (own_w hw 1 rfl)) (mvT hZ (own_w hw 2 rfl)) (mvT hZ (own_w hw 3 rfl)) (by decide) (backOf (W := 0) (rm1 l Z a0 hw [] p3 h0 n0 (Nat.le_trans Z0 (Keep.refl h0 []).1) ) hZ (own_w hw 3 rfl) (own_w hw 2 rfl) (by decide) (by decide)) (g := (mkF m 13 #[.val (.int p1), .val (.int p2), .val (.int p3), .val (.int p4), .val (.int p5), .val (.int x103), .val (.int x107), .unset, .unset, .unset, .unset, .unset, .unset, .unset, .unset, .unset] [(.int p3)])) rfl (by rw [hml]; rfl) (argsL := [(.int p3)]) (rest := []) (lenOf pd15 rfl) rfl (by show 2 * 0 + _ ≤ _; exact Nat.le_of_eq rfl) (hb hby at_13) (fun _ _ => ⟨rfl, q106_hh, (by decide : 0 + 0 ≤ _), (by decide : 0 + 0 ≤ _)⟩)
 dsimp only [Pt.U, Pt.locs, Pt.cells, Pt.slots] at X110 l110 y110 z110 st110 hQ110
 subst l110 y110 z110
 obtain ⟨x111, rfl, N110q, q110_hh, q110_ra, q110_rb⟩ := hQ110
 have N110 := Fr.app N106 N110q
 have p112 : Go p.tables e below _ (T110.setTop (mkF m 18 #[.val (.int p1), .val (.int p2), .val (.int p3), .val (.int p4), .val (.int p5), .val (.int x103), .val (.int x107), .val (.int x111), .unset, .unset, .unset, .unset, .unset, .unset, .unset, .unset] [])) := fun t_ k_ => (gc p109 st110) t_ (by
  refine XS.istore X110.here hx rfl (hb hby at_16) rfl (l' := #[.val (.int p1), .val (.int p2), .val (.int p3), .val (.int p4), .val (.int p5), .val (.int x103), .val (.int x107), .val (.int x111), .unset, .unset, .unset, .unset, .unset, .unset, .unset, .unset]) rfl ?_
  exact k_)
 have ra2 := q110_ra
 have rb2 := q110_rb
 have p113 : Go p.tables e below _ (T110.setTop (mkF m 19 #[.val (.int p1), .val (.int p2), .val (.int p3), .val (.int p4), .val (.int p5), .val (.int x103), .val (.int x107), .val (.int x111), .unset, .unset, .unset, .unset, .unset, .unset, .unset, .unset] [(.int p4)])) := fun t_ k_ => p112 t_ (by
  refine XS.iloadN X110.here hx rfl (hb hby at_18) rfl ?_
  exact k_)
 obtain ⟨_, _, ⟨T114, L114, k114, n114⟩, -, X114, ⟨Lc114, hQ114, l114, y114, z114⟩, st114⟩ := Jvm.LawKit.callS X110 hx (y := (⟨"com/example/subsume/subsume/model/LinesCharacterPinLaw", "draw", "(I)C"⟩ : MethodName)) hown (mvT hZ (own_w hw 0 rfl)) (mvT hZ (own_w hw 1 rfl)) (mvT hZ (own_w hw 2 rfl)) (mvT hZ (own_w hw 3 rfl)) (by decide) (backOf (W := 0) (rm1 l Z a0 hw [] p4 h0 n0 (Nat.le_trans Z0 (Keep.refl h0 []).1) ) hZ (own_w hw 3 rfl) (own_w hw 2 rfl) (by decide) (by decide)) (g := (mkF m 19 #[.val (.int p1), .val (.int p2), .val (.int p3), .val (.int p4), .val (.int p5), .val (.int x103), .val (.int x107), .val (.int x111), .unset, .unset, .unset, .unset, .unset, .unset, .unset, .unset] [(.int p4)])) rfl (by rw [hml]; rfl) (argsL := [(.int p4)]) (rest := []) (lenOf pd15 rfl) rfl (by show 2 * 0 + _ ≤ _; exact Nat.le_of_eq rfl) (hb hby at_19) (fun _ _ => ⟨rfl, q110_hh, (by decide : 0 + 0 ≤ _), (by decide : 0 + 0 ≤ _)⟩)
 dsimp only [Pt.U, Pt.locs, Pt.cells, Pt.slots] at X114 l114 y114 z114 st114 hQ114
 subst l114 y114 z114
 obtain ⟨x115, rfl, N114q, q114_hh, q114_ra, q114_rb⟩ := hQ114
 have N114 := Fr.app N110 N114q
 have p116 : Go p.tables e below _ (T114.setTop (mkF m 24 #[.val (.int p1), .val (.int p2), .val (.int p3), .val (.int p4), .val (.int p5), .val (.int x103), .val (.int x107), .val (.int x111), .val (.int x115), .unset, .unset, .unset, .unset, .unset, .unset, .unset] [])) := fun t_ k_ => (gc p113 st114) t_ (by
  refine XS.istore X114.here hx rfl (hb hby at_22) rfl (l' := #[.val (.int p1), .val (.int p2), .val (.int p3), .val (.int p4), .val (.int p5), .val (.int x103), .val (.int x107), .val (.int x111), .val (.int x115), .unset, .unset, .unset, .unset, .unset, .unset, .unset]) rfl ?_
  exact k_)
 have ra3 := q114_ra
 have rb3 := q114_rb
 have p117 : Go p.tables e below _ (T114.setTop (mkF m 25 #[.val (.int p1), .val (.int p2), .val (.int p3), .val (.int p4), .val (.int p5), .val (.int x103), .val (.int x107), .val (.int x111), .val (.int x115), .unset, .unset, .unset, .unset, .unset, .unset, .unset] [(.int (4 : Int32))])) := fun t_ k_ => p116 t_ (by
  refine XS.iconst X114.here hx rfl (hb hby at_24) ?_
  exact k_)
 obtain ⟨T118, h118, k118, X118, e118, E118, A118, st118⟩ := newP X114 hx hZ (own_w hw 5 rfl) q114_hh (g := (mkF m 25 #[.val (.int p1), .val (.int p2), .val (.int p3), .val (.int p4), .val (.int p5), .val (.int x103), .val (.int x107), .val (.int x111), .val (.int x115), .unset, .unset, .unset, .unset, .unset, .unset, .unset] [(.int (4 : Int32))])) rfl (hb hby at_25) rfl (by decide) (cap := 4) (by decide) (by decide) (by decide) (by decide)
 obtain ⟨b118, g118⟩ : ∃ z, z = h0.size := ⟨_, rfl⟩
 rw [← g118] at A118 st118
 have ge_b118 : n0 ≤ b118 := Nat.le_trans (Nat.le_trans Z0 (Keep.refl h0 []).1) (Nat.le_of_eq g118.symm)
 have sz_b118 : h0.size ≤ b118 := Nat.le_trans (Keep.refl h0 []).1 (Nat.le_of_eq g118.symm)
 have K119 : Keep h0 h118 [] := (Keep.refl h0 []).ext E118
 have V118 : Arv Z h118 b118 k118 .char (4 : Int32) [(.int (0 : Int32)), (.int (0 : Int32)), (.int (0 : Int32)), (.int (0 : Int32))] (.int (0 : Int32)) := (Arv.new A118 (by decide)).pad (pad_rep [] (.int (0 : Int32)) 4)
 have p120 : Go p.tables e below _ (T118.setTop (mkF m 34 #[.val (.int p1), .val (.int p2), .val (.int p3), .val (.int p4), .val (.int p5), .val (.int x103), .val (.int x107), .val (.int x111), .val (.int x115), .val (.ref b118), .unset, .unset, .unset, .unset, .unset, .unset] [(.int x103), (.int (0 : Int32)), (.ref b118)])) := fun t_ k_ => (gc p117 st118) t_ (by
  refine XS.astore X118.here hx rfl (hb hby at_27) rfl rfl (l' := #[.val (.int p1), .val (.int p2), .val (.int p3), .val (.int p4), .val (.int p5), .val (.int x103), .val (.int x107), .val (.int x111), .val (.int x115), .val (.ref b118), .unset, .unset, .unset, .unset, .unset, .unset]) rfl ?_
  refine XS.aload X118.here hx rfl (hb hby at_29) rfl rfl ?_
  refine XS.iconst X118.here hx rfl (hb hby at_31) ?_
  refine XS.iload X118.here hx rfl (hb hby at_32) rfl ?_
  exact k_)
 obtain ⟨cl121, Ar121, q121, S121, Ng121, H121, G121⟩ := id V118
 have hin121 := inb_of S121 (j := (0 : Int32)) ⟨by decide, by decide⟩
 obtain ⟨T121, h121, X121, e121, W121, st121⟩ := stC X118 hx hZ e118 Ar121 (j := (0 : Int32)) hin121 (g := (mkF m 34 #[.val (.int p1), .val (.int p2), .val (.int p3), .val (.int p4), .val (.int p5), .val (.int x103), .val (.int x107), .val (.int x111), .val (.int x115), .val (.ref b118), .unset, .unset, .unset, .unset, .unset, .unset] [(.int x103), (.int (0 : Int32)), (.ref b118)])) rfl rfl (hb hby at_34)
 have K122 : Keep h0 h121 [] := K119.wr W121 (Or.inr sz_b118)
 have N121 := Fr.snoc X121 N114 ge_b118
 have V121 : Arv Z h121 b118 k118 .char (4 : Int32) [(.int (nar .char x103)), (.int (0 : Int32)), (.int (0 : Int32)), (.int (0 : Int32))] (.int (0 : Int32)) := Arv.set Ar121 q121 S121 Ng121 H121 G121 (fits_nar_char _) W121 0 rfl (Nat.le_of_ble_eq_true rfl)
 have p123 : Go p.tables e below _ (T121.setTop (mkF m 40 #[.val (.int p1), .val (.int p2), .val (.int p3), .val (.int p4), .val (.int p5), .val (.int x103), .val (.int x107), .val (.int x111), .val (.int x115), .val (.ref b118), .unset, .unset, .unset, .unset, .unset, .unset] [(.int x107), (.int (1 : Int32)), (.ref b118)])) := fun t_ k_ => (gc p120 st121) t_ (by
  refine XS.aload X121.here hx rfl (hb hby at_35) rfl rfl ?_
  refine XS.iconst X121.here hx rfl (hb hby at_37) ?_
  refine XS.iload X121.here hx rfl (hb hby at_38) rfl ?_
  exact k_)
 obtain ⟨cl124, Ar124, q124, S124, Ng124, H124, G124⟩ := id V121
 have hin124 := inb_of S124 (j := (1 : Int32)) ⟨by decide, by decide⟩
 obtain ⟨T124, h124, X124, e124, W124, st124⟩ := stC X121 hx hZ e121 Ar124 (j := (1 : Int32)) hin124 (g := (mkF m 40 #[.val (.int p1), .val (.int p2), .val (.int p3), .val (.int p4), .val (.int p5), .val (.int x103), .val (.int x107), .val (.int x111), .val (.int x115), .val (.ref b118), .unset, .unset, .unset, .unset, .unset, .unset] [(.int x107), (.int (1 : Int32)), (.ref b118)])) rfl rfl (hb hby at_40)
 have K125 : Keep h0 h124 [] := K122.wr W124 (Or.inr sz_b118)
 have N124 := Fr.snoc X124 N121 ge_b118
 have V124 : Arv Z h124 b118 k118 .char (4 : Int32) [(.int (nar .char x103)), (.int (nar .char x107)), (.int (0 : Int32)), (.int (0 : Int32))] (.int (0 : Int32)) := Arv.set Ar124 q124 S124 Ng124 H124 G124 (fits_nar_char _) W124 1 rfl (Nat.le_of_ble_eq_true rfl)
 have p126 : Go p.tables e below _ (T124.setTop (mkF m 46 #[.val (.int p1), .val (.int p2), .val (.int p3), .val (.int p4), .val (.int p5), .val (.int x103), .val (.int x107), .val (.int x111), .val (.int x115), .val (.ref b118), .unset, .unset, .unset, .unset, .unset, .unset] [(.int x111), (.int (2 : Int32)), (.ref b118)])) := fun t_ k_ => (gc p123 st124) t_ (by
  refine XS.aload X124.here hx rfl (hb hby at_41) rfl rfl ?_
  refine XS.iconst X124.here hx rfl (hb hby at_43) ?_
  refine XS.iload X124.here hx rfl (hb hby at_44) rfl ?_
  exact k_)
 obtain ⟨cl127, Ar127, q127, S127, Ng127, H127, G127⟩ := id V124
 have hin127 := inb_of S127 (j := (2 : Int32)) ⟨by decide, by decide⟩
 obtain ⟨T127, h127, X127, e127, W127, st127⟩ := stC X124 hx hZ e124 Ar127 (j := (2 : Int32)) hin127 (g := (mkF m 46 #[.val (.int p1), .val (.int p2), .val (.int p3), .val (.int p4), .val (.int p5), .val (.int x103), .val (.int x107), .val (.int x111), .val (.int x115), .val (.ref b118), .unset, .unset, .unset, .unset, .unset, .unset] [(.int x111), (.int (2 : Int32)), (.ref b118)])) rfl rfl (hb hby at_46)
 have K128 : Keep h0 h127 [] := K125.wr W127 (Or.inr sz_b118)
 have N127 := Fr.snoc X127 N124 ge_b118
 have V127 : Arv Z h127 b118 k118 .char (4 : Int32) [(.int (nar .char x103)), (.int (nar .char x107)), (.int (nar .char x111)), (.int (0 : Int32))] (.int (0 : Int32)) := Arv.set Ar127 q127 S127 Ng127 H127 G127 (fits_nar_char _) W127 2 rfl (Nat.le_of_ble_eq_true rfl)
 have p129 : Go p.tables e below _ (T127.setTop (mkF m 52 #[.val (.int p1), .val (.int p2), .val (.int p3), .val (.int p4), .val (.int p5), .val (.int x103), .val (.int x107), .val (.int x111), .val (.int x115), .val (.ref b118), .unset, .unset, .unset, .unset, .unset, .unset] [(.int x115), (.int (3 : Int32)), (.ref b118)])) := fun t_ k_ => (gc p126 st127) t_ (by
  refine XS.aload X127.here hx rfl (hb hby at_47) rfl rfl ?_
  refine XS.iconst X127.here hx rfl (hb hby at_49) ?_
  refine XS.iload X127.here hx rfl (hb hby at_50) rfl ?_
  exact k_)
 obtain ⟨cl130, Ar130, q130, S130, Ng130, H130, G130⟩ := id V127
 have hin130 := inb_of S130 (j := (3 : Int32)) ⟨by decide, by decide⟩
 obtain ⟨T130, h130, X130, e130, W130, st130⟩ := stC X127 hx hZ e127 Ar130 (j := (3 : Int32)) hin130 (g := (mkF m 52 #[.val (.int p1), .val (.int p2), .val (.int p3), .val (.int p4), .val (.int p5), .val (.int x103), .val (.int x107), .val (.int x111), .val (.int x115), .val (.ref b118), .unset, .unset, .unset, .unset, .unset, .unset] [(.int x115), (.int (3 : Int32)), (.ref b118)])) rfl rfl (hb hby at_52)
 have K131 : Keep h0 h130 [] := K128.wr W130 (Or.inr sz_b118)
 have N130 := Fr.snoc X130 N127 ge_b118
 have V130 : Arv Z h130 b118 k118 .char (4 : Int32) [(.int (nar .char x103)), (.int (nar .char x107)), (.int (nar .char x111)), (.int (nar .char x115))] (.int (0 : Int32)) := Arv.set Ar130 q130 S130 Ng130 H130 G130 (fits_nar_char _) W130 3 rfl (Nat.le_of_ble_eq_true rfl)
 obtain ⟨T132, h132, X132, e132, E132, A132, D132, -, st132⟩ := newO X130 hx hZ hown (own_w hw 6 rfl) (own_w hw 7 rfl) (own_w hw 8 rfl) e130 (g := (mkF m 53 #[.val (.int p1), .val (.int p2), .val (.int p3), .val (.int p4), .val (.int p5), .val (.int x103), .val (.int x107), .val (.int x111), .val (.int x115), .val (.ref b118), .unset, .unset, .unset, .unset, .unset, .unset] [])) rfl (hb hby at_53) (by decide) (by decide)
 obtain ⟨b132, g132⟩ : ∃ z, z = h130.size := ⟨_, rfl⟩
 rw [← g132] at A132 D132 st132
 have ne_b118_b132 : b118 ≠ b132 := Nat.ne_of_lt (Nat.lt_of_lt_of_le V130.lt (Nat.le_of_eq g132.symm))
 have ge_b132 : n0 ≤ b132 := Nat.le_trans (Nat.le_trans Z0 K131.1) (Nat.le_of_eq g132.symm)
 have sz_b132 : h0.size ≤ b132 := Nat.le_trans K131.1 (Nat.le_of_eq g132.symm)
 have K133 : Keep h0 h132 [] := K131.ext E132
 have F132_coder : Fld Z h132 b132 "java/lang/String" "coder" "B" (.int (0 : Int32)) := D132 (Or.inr (own_w hw 32 rfl)) (ty := .byte) (by decide)
 have F132_value : Fld Z h132 b132 "java/lang/String" "value" "[B" .null := D132 (Or.inr (own_w hw 34 rfl)) (ty := (.array .byte)) (by decide)
 have p134 : Go p.tables e below _ (T132.setTop (mkF m 59 #[.val (.int p1), .val (.int p2), .val (.int p3), .val (.int p4), .val (.int p5), .val (.int x103), .val (.int x107), .val (.int x111), .val (.int x115), .val (.ref b118), .unset, .unset, .unset, .unset, .unset, .unset] [(.ref b118), (.ref b132), (.ref b132)])) := fun t_ k_ => (gc (gc p129 st130) st132) t_ (by
  refine XS.dup X132.here hx rfl (hb hby at_56) rfl rfl ?_
  refine XS.aload X132.here hx rfl (hb hby at_57) rfl rfl ?_
  exact k_)
 have f135 := (V130.ext E132)
 have f136 : Arv Z h132 b118 k118 .char (4 : Int32) [(.int x103), (.int x107), (.int x111), (.int x115)] (.int (0 : Int32)) := by have z := f135; rw [own_narc _ ra0 rb0, own_narc _ ra1 rb1, own_narc _ ra2 rb2, own_narc _ ra3 rb3] at z; exact z
 by_cases hL : ¬ ((255 : Int32) < x103) ∧ ¬ ((255 : Int32) < x107) ∧ ¬ ((255 : Int32) < x111) ∧ ¬ ((255 : Int32) < x115)
 ·have hl := hL
  have f137 := ((((((O1.ext E118).wr W121 ge_b118).wr W124 ge_b118).wr W127 ge_b118).wr W130 ge_b118).ext E132)
  obtain ⟨_, _, ⟨T138, L138, k138, n138⟩, -, X138, ⟨Lc138, hQ138, l138, y138, z138⟩, st138⟩ := X132.specialBack hx (y := (⟨"java/lang/String", "<init>", "([C)V"⟩ : MethodName)) rfl hown (mvT hZ (own_w hw 9 rfl)) (mvT hZ (own_w hw 10 rfl)) (mvT hZ (own_w hw 11 rfl)) (by decide) (backOf (W := 1) (rm2_L4 l Z a0 hw [] b132 b118 k118 x103 x107 x111 x115 cs1 fm h132 n0 (Nat.le_trans Z0 K133.1) f137 G F132_coder F132_value A132 f136 (Ne.symm ne_b118_b132) ge_b132 hL.1 hL.2.1 hL.2.2.1 hL.2.2.2) hZ (own_w hw 11 rfl) (own_w hw 8 rfl) (by decide) (by decide)) (g := (mkF m 59 #[.val (.int p1), .val (.int p2), .val (.int p3), .val (.int p4), .val (.int p5), .val (.int x103), .val (.int x107), .val (.int x111), .val (.int x115), .val (.ref b118), .unset, .unset, .unset, .unset, .unset, .unset] [(.ref b118), (.ref b132), (.ref b132)])) rfl (by rw [hml]; rfl) (Steps.refl _) (a := b132) (argsL := [(.ref b118)]) (rest := [(.ref b132)]) (lenOf pd22 rfl) rfl (by show 2 * 0 + _ ≤ _; exact Nat.le_of_eq rfl) (hb hby at_59) (fun _ _ => ⟨rfl, e132, (by decide : 2 + 1 ≤ _), (by decide : 8 + 4 ≤ _)⟩)
  dsimp only [Pt.U, Pt.locs, Pt.cells, Pt.slots] at X138 l138 y138 z138 st138 hQ138
  subst l138 y138 z138
  obtain ⟨x139, x140, rfl, N138q, q138_K, q138_E, q138_c, q138_v, q138_g, q138_z, q138_V, q138_n⟩ := hQ138
  have N138 := Fr.app N130 N138q
  have K141 : Keep h0 T138.heap [] := K133.trans q138_K (allS (Or.inr sz_b132) all0)
  have ne_b118_x139 : b118 ≠ x139 := Nat.ne_of_lt (Nat.lt_of_lt_of_le f136.lt q138_z)
  have ne_b132_x139 : b132 ≠ x139 := Nat.ne_of_lt (Nat.lt_of_lt_of_le A132.lt q138_z)
  have p142 : Go p.tables e below _ (T138.setTop (mkF m 73 #[.val (.int p1), .val (.int p2), .val (.int p3), .val (.int p4), .val (.int p5), .val (.int x103), .val (.int x107), .val (.int x111), .val (.int x115), .val (.ref b118), .val (.ref b132), .val (.int ((p5 &&& (2147483647 : Int32)) % (5 : Int32))), .unset, .unset, .unset, .unset] [])) := fun t_ k_ => (gcT p134 st138) t_ (by
   refine XS.astore X138.here hx rfl (hb hby at_62) rfl rfl (l' := #[.val (.int p1), .val (.int p2), .val (.int p3), .val (.int p4), .val (.int p5), .val (.int x103), .val (.int x107), .val (.int x111), .val (.int x115), .val (.ref b118), .val (.ref b132), .unset, .unset, .unset, .unset, .unset]) rfl ?_
   refine XS.iload X138.here hx rfl (hb hby at_64) rfl ?_
   refine X138.ldcInt hx hown (mvT hZ (own_w hw 35 rfl)) (g := (mkF m 66 #[.val (.int p1), .val (.int p2), .val (.int p3), .val (.int p4), .val (.int p5), .val (.int x103), .val (.int x107), .val (.int x111), .val (.int x115), .val (.ref b118), .val (.ref b132), .unset, .unset, .unset, .unset, .unset] [(.int p5)])) rfl (hb hby at_66) _ ?_
   refine XS.iand X138.here hx rfl (hb hby at_68) rfl ?_
   refine XS.iconst X138.here hx rfl (hb hby at_69) ?_
   refine Jvm.RoadKit.iremM X138 hx rfl (hb hby at_70) rfl (by decide) ?_
   refine XS.istore X138.here hx rfl (hb hby at_71) rfl (l' := #[.val (.int p1), .val (.int p2), .val (.int p3), .val (.int p4), .val (.int p5), .val (.int x103), .val (.int x107), .val (.int x111), .val (.int x115), .val (.ref b118), .val (.ref b132), .val (.int ((p5 &&& (2147483647 : Int32)) % (5 : Int32))), .unset, .unset, .unset, .unset]) rfl ?_
   exact k_)
  obtain ⟨o, ho⟩ : ∃ z, z = ((p5 &&& (2147483647 : Int32)) % (5 : Int32)) := ⟨_, rfl⟩
  have p143 : Go p.tables e below (s₁.setTop (entryFrame m #[(.int p1), (.int p2), (.int p3), (.int p4), (.int p5)] maxLocals)) (T138.setTop (mkF m 73 #[.val (.int p1), .val (.int p2), .val (.int p3), .val (.int p4), .val (.int p5), .val (.int x103), .val (.int x107), .val (.int x111), .val (.int x115), .val (.ref b118), .val (.ref b132), .val (.int o), .unset, .unset, .unset, .unset] [])) := by rw [ho]; exact p142
  obtain ⟨T144, h144, X144, e144, E144, A144, D144, -, st144⟩ := newO X138 hx hZ hown (own_w hw 36 rfl) (own_w hw 37 rfl) (own_w hw 38 rfl) rfl (g := (mkF m 73 #[.val (.int p1), .val (.int p2), .val (.int p3), .val (.int p4), .val (.int p5), .val (.int x103), .val (.int x107), .val (.int x111), .val (.int x115), .val (.ref b118), .val (.ref b132), .val (.int o), .unset, .unset, .unset, .unset] [])) rfl (hb hby at_73) (by decide) (by decide)
  obtain ⟨b144, g144⟩ : ∃ z, z = T138.heap.size := ⟨_, rfl⟩
  rw [← g144] at A144 D144 st144
  have f145 := (f136.keep q138_K (ninS ne_b118_b132 nin0))
  have ne_b118_b144 : b118 ≠ b144 := Nat.ne_of_lt (Nat.lt_of_lt_of_le f145.lt (Nat.le_of_eq g144.symm))
  have ne_b132_b144 : b132 ≠ b144 := Nat.ne_of_lt (Nat.lt_of_lt_of_le q138_E.lt (Nat.le_of_eq g144.symm))
  have ne_x139_b144 : x139 ≠ b144 := Nat.ne_of_lt (Nat.lt_of_lt_of_le q138_V.lt (Nat.le_of_eq g144.symm))
  have ge_b144 : n0 ≤ b144 := Nat.le_trans (Nat.le_trans Z0 K141.1) (Nat.le_of_eq g144.symm)
  have sz_b144 : h0.size ≤ b144 := Nat.le_trans K141.1 (Nat.le_of_eq g144.symm)
  have K146 : Keep h0 h144 [] := K141.ext E144
  have F144_text : Fld Z h144 b144 "com/example/subsume/subsume/model/Lines" "text" "Ljava/lang/String;" .null := D144 (Or.inr (own_w hw 44 rfl)) (ty := (.object "java/lang/String")) (by decide)
  have F144_starts : Fld Z h144 b144 "com/example/subsume/subsume/model/Lines" "starts" "[I" .null := D144 (Or.inr (own_w hw 79 rfl)) (ty := (.array .int)) (by decide)
  have HBp : ∀ i, i < 4 → ∃ b : Int32, ([(.int (own_xl x103)), (.int (own_xl x107)), (.int (own_xl x111)), (.int (own_xl x115))] : List Value).getD ((Int32.ofNat i)).toNatClampNeg (.int (0 : Int32)) = .int b ∧ own_c8 b = own_at [x103, x107, x111, x115] i := by
   intro i hi
   rcases (by omega : i = 0 ∨ i = 1 ∨ i = 2 ∨ i = 3) with rfl | rfl | rfl | rfl
   ·exact ⟨_, rfl, own_l8 _ ra0 hL.1⟩
   ·exact ⟨_, rfl, own_l8 _ ra1 hL.2.1⟩
   ·exact ⟨_, rfl, own_l8 _ ra2 hL.2.2.1⟩
   ·exact ⟨_, rfl, own_l8 _ ra3 hL.2.2.2⟩
  have p147 : Go p.tables e below _ (T144.setTop (mkF m 79 #[.val (.int p1), .val (.int p2), .val (.int p3), .val (.int p4), .val (.int p5), .val (.int x103), .val (.int x107), .val (.int x111), .val (.int x115), .val (.ref b118), .val (.ref b132), .val (.int o), .unset, .unset, .unset, .unset] [(.ref b132), (.ref b144), (.ref b144)])) := fun t_ k_ => (gc p143 st144) t_ (by
   refine XS.dup X144.here hx rfl (hb hby at_76) rfl rfl ?_
   refine XS.aload X144.here hx rfl (hb hby at_77) rfl rfl ?_
   exact k_)
  have f148 := (f145.ext E144)
  have f149 := (q138_E.ext E144)
  have f150 := (q138_V.ext E144)
  have f151 := ((f137.keep q138_K (allS ge_b132 all0)).ext E144)
  have f152 := (q138_c.ext E144)
  have f153 := (q138_v.ext E144)
  obtain ⟨_, _, ⟨T154, L154, k154, n154⟩, -, X154, ⟨Lc154, hQ154, l154, y154, z154⟩, st154⟩ := X144.specialBack hx (y := (⟨"com/example/subsume/subsume/model/Lines", "<init>", "(Ljava/lang/String;)V"⟩ : MethodName)) rfl hown (mvT hZ (own_w hw 39 rfl)) (mvT hZ (own_w hw 40 rfl)) (mvT hZ (own_w hw 41 rfl)) (by decide) (backOf (W := 1) (rm8_0 l Z a0 hw [] b144 b132 x139 x140 (4 : Int32) [(.int (own_xl x103)), (.int (own_xl x107)), (.int (own_xl x111)), (.int (own_xl x115))] [x103, x107, x111, x115] 4 cs1 fm h144 n0 (Nat.le_trans Z0 K146.1) f151 G f149 f152 f153 f150 F144_starts F144_text A144 ge_b144 (Ne.symm ne_b132_b144) (Ne.symm ne_x139_b144) (by decide) (by decide) HBp rfl) hZ (own_w hw 41 rfl) (own_w hw 38 rfl) (by decide) (by decide)) (g := (mkF m 79 #[.val (.int p1), .val (.int p2), .val (.int p3), .val (.int p4), .val (.int p5), .val (.int x103), .val (.int x107), .val (.int x111), .val (.int x115), .val (.ref b118), .val (.ref b132), .val (.int o), .unset, .unset, .unset, .unset] [(.ref b132), (.ref b144), (.ref b144)])) rfl (by rw [hml]; rfl) (Steps.refl _) (a := b144) (argsL := [(.ref b132)]) (rest := [(.ref b144)]) (lenOf pd23 rfl) rfl (by show 2 * 0 + _ ≤ _; exact Nat.le_of_eq rfl) (hb hby at_79) (fun _ _ => ⟨rfl, e144, (by decide : 4 + 1 ≤ _), (by decide : 14 + 9 ≤ _)⟩)
  dsimp only [Pt.U, Pt.locs, Pt.cells, Pt.slots] at X154 l154 y154 z154 st154 hQ154
  subst l154 y154 z154
  obtain ⟨x155, x156, rfl, N154q, q154_K, q154_E, q154_t, q154_s, q154_V, q154_g, q154_z, q154_n⟩ := hQ154
  have N154 := Fr.app N138 N154q
  have K157 : Keep h0 T154.heap [] := K146.trans q154_K (allS (Or.inr sz_b144) all0)
  have ne_b118_x155 : b118 ≠ x155 := Nat.ne_of_lt (Nat.lt_of_lt_of_le f148.lt q154_z)
  have ne_b132_x155 : b132 ≠ x155 := Nat.ne_of_lt (Nat.lt_of_lt_of_le f149.lt q154_z)
  have ne_x139_x155 : x139 ≠ x155 := Nat.ne_of_lt (Nat.lt_of_lt_of_le f150.lt q154_z)
  have ne_b144_x155 : b144 ≠ x155 := Nat.ne_of_lt (Nat.lt_of_lt_of_le A144.lt q154_z)
  have p158 : Go p.tables e below _ (T154.setTop (mkF m 88 #[.val (.int p1), .val (.int p2), .val (.int p3), .val (.int p4), .val (.int p5), .val (.int x103), .val (.int x107), .val (.int x111), .val (.int x115), .val (.ref b118), .val (.ref b132), .val (.int o), .val (.ref b144), .unset, .unset, .unset] [(.int o), (.ref b144)])) := fun t_ k_ => (gcT p147 st154) t_ (by
   refine XS.astore X154.here hx rfl (hb hby at_82) rfl rfl (l' := #[.val (.int p1), .val (.int p2), .val (.int p3), .val (.int p4), .val (.int p5), .val (.int x103), .val (.int x107), .val (.int x111), .val (.int x115), .val (.ref b118), .val (.ref b132), .val (.int o), .val (.ref b144), .unset, .unset, .unset]) rfl ?_
   refine XS.aload X154.here hx rfl (hb hby at_84) rfl rfl ?_
   refine XS.iload X154.here hx rfl (hb hby at_86) rfl ?_
   exact k_)
  obtain ⟨Tm, Lm, Xm, em, Nm, pm⟩ : ∃ (T' : State) (L' : List Loc), Stand p l e room_1 s m #[(.int p1), (.int p2), (.int p3), (.int p4), (.int p5)] below meth c T' L' 5 23 ∧ T'.heap = T154.heap ∧ Fr n0 L' ∧ Go p.tables e below (s₁.setTop (entryFrame m #[(.int p1), (.int p2), (.int p3), (.int p4), (.int p5)] maxLocals)) (T'.setTop (mkF m 91 #[.val (.int p1), .val (.int p2), .val (.int p3), .val (.int p4), .val (.int p5), .val (.int x103), .val (.int x107), .val (.int x111), .val (.int x115), .val (.ref b118), .val (.ref b132), .val (.int o), .val (.ref b144), .unset, .unset, .unset] [(.int (o + (1 : Int32)))])) := by
   rcases (ho ▸ own_rem5 p5 : o = 0 ∨ o = 1 ∨ o = 2 ∨ o = 3 ∨ o = 4) with ro | ro | ro | ro | ro
   ·subst ro
    have f159 := (f151.keep q154_K (allS ge_b144 all0))
    have f160 := (f149.keep q154_K)
    have f161 := (f152.keep q154_K (ninS ne_b132_b144 nin0))
    have f162 := (f153.keep q154_K (ninS ne_b132_b144 nin0))
    have f163 := (f150.keep q154_K (ninS ne_x139_b144 nin0))
    obtain ⟨cq164, kq164, q164a, q164b, q164c⟩ := isOf hZ rfl q154_E
    obtain ⟨_, _, ⟨T164, L164, k164, n164⟩, -, X164, ⟨Lc164, hQ164, l164, y164, z164⟩, st164⟩ := X154.virtualBack hx (y := (⟨"com/example/subsume/subsume/model/Lines", "character", "(I)I"⟩ : MethodName)) (z := (⟨"com/example/subsume/subsume/model/Lines", "character", "(I)I"⟩ : MethodName)) hown (mvT hZ (own_w hw 80 rfl)) (mvT hZ (own_w hw 81 rfl)) (notFace_of_selects (args := #[]) (mvT hZ (own_w hw 83 rfl))) (mvT hZ (own_w hw 83 rfl)) (mvT hZ (own_w hw 82 rfl)) (by decide) (backOf (W := 0) (rm16_0_0 l Z a0 hw [] b144 b132 x139 x140 x103 x107 x111 x115 cs1 fm T154.heap n0 (Nat.le_trans Z0 K157.1) f159 G q154_t f160 f161 f162 f163) hZ (own_w hw 84 rfl) (own_w hw 38 rfl) (by decide) (by decide)) q164a q164c (g := (mkF m 88 #[.val (.int p1), .val (.int p2), .val (.int p3), .val (.int p4), .val (.int p5), .val (.int x103), .val (.int x107), .val (.int x111), .val (.int x115), .val (.ref b118), .val (.ref b132), .val (.int (0 : Int32)), .val (.ref b144), .unset, .unset, .unset] [(.int (0 : Int32)), (.ref b144)])) rfl (by rw [hml]; rfl) (Steps.refl _) (argsL := [(.int (0 : Int32))]) (rest := []) (lenOf pd11 rfl) rfl (by show 2 * 0 + _ ≤ _; exact Nat.le_of_eq rfl) (hb hby at_88) (fun _ _ => ⟨rfl, rfl, (by decide : 5 + 0 ≤ _), (by decide : 23 + 0 ≤ _)⟩)
    dsimp only [Pt.U, Pt.locs, Pt.cells, Pt.slots] at X164 l164 y164 z164 st164 hQ164
    subst l164 y164 z164
    obtain ⟨rfl, N164q, q164_hh⟩ := hQ164
    have N164 := Fr.app N154 N164q
    exact ⟨_, _, X164, q164_hh, N164, (gcT p158 st164)⟩
   ·subst ro
    have f165 := (f151.keep q154_K (allS ge_b144 all0))
    have f166 := (f149.keep q154_K)
    have f167 := (f152.keep q154_K (ninS ne_b132_b144 nin0))
    have f168 := (f153.keep q154_K (ninS ne_b132_b144 nin0))
    have f169 := (f150.keep q154_K (ninS ne_x139_b144 nin0))
    obtain ⟨cq170, kq170, q170a, q170b, q170c⟩ := isOf hZ rfl q154_E
    obtain ⟨_, _, ⟨T170, L170, k170, n170⟩, -, X170, ⟨Lc170, hQ170, l170, y170, z170⟩, st170⟩ := X154.virtualBack hx (y := (⟨"com/example/subsume/subsume/model/Lines", "character", "(I)I"⟩ : MethodName)) (z := (⟨"com/example/subsume/subsume/model/Lines", "character", "(I)I"⟩ : MethodName)) hown (mvT hZ (own_w hw 80 rfl)) (mvT hZ (own_w hw 81 rfl)) (notFace_of_selects (args := #[]) (mvT hZ (own_w hw 83 rfl))) (mvT hZ (own_w hw 83 rfl)) (mvT hZ (own_w hw 82 rfl)) (by decide) (backOf (W := 0) (rm16_0_1 l Z a0 hw [] b144 b132 x139 x140 x103 x107 x111 x115 cs1 fm T154.heap n0 (Nat.le_trans Z0 K157.1) f165 G q154_t f166 f167 f168 f169) hZ (own_w hw 84 rfl) (own_w hw 38 rfl) (by decide) (by decide)) q170a q170c (g := (mkF m 88 #[.val (.int p1), .val (.int p2), .val (.int p3), .val (.int p4), .val (.int p5), .val (.int x103), .val (.int x107), .val (.int x111), .val (.int x115), .val (.ref b118), .val (.ref b132), .val (.int (1 : Int32)), .val (.ref b144), .unset, .unset, .unset] [(.int (1 : Int32)), (.ref b144)])) rfl (by rw [hml]; rfl) (Steps.refl _) (argsL := [(.int (1 : Int32))]) (rest := []) (lenOf pd11 rfl) rfl (by show 2 * 0 + _ ≤ _; exact Nat.le_of_eq rfl) (hb hby at_88) (fun _ _ => ⟨rfl, rfl, (by decide : 5 + 0 ≤ _), (by decide : 23 + 0 ≤ _)⟩)
    dsimp only [Pt.U, Pt.locs, Pt.cells, Pt.slots] at X170 l170 y170 z170 st170 hQ170
    subst l170 y170 z170
    obtain ⟨rfl, N170q, q170_hh⟩ := hQ170
    have N170 := Fr.app N154 N170q
    exact ⟨_, _, X170, q170_hh, N170, (gcT p158 st170)⟩
   ·subst ro
    have f171 := (f151.keep q154_K (allS ge_b144 all0))
    have f172 := (f149.keep q154_K)
    have f173 := (f152.keep q154_K (ninS ne_b132_b144 nin0))
    have f174 := (f153.keep q154_K (ninS ne_b132_b144 nin0))
    have f175 := (f150.keep q154_K (ninS ne_x139_b144 nin0))
    obtain ⟨cq176, kq176, q176a, q176b, q176c⟩ := isOf hZ rfl q154_E
    obtain ⟨_, _, ⟨T176, L176, k176, n176⟩, -, X176, ⟨Lc176, hQ176, l176, y176, z176⟩, st176⟩ := X154.virtualBack hx (y := (⟨"com/example/subsume/subsume/model/Lines", "character", "(I)I"⟩ : MethodName)) (z := (⟨"com/example/subsume/subsume/model/Lines", "character", "(I)I"⟩ : MethodName)) hown (mvT hZ (own_w hw 80 rfl)) (mvT hZ (own_w hw 81 rfl)) (notFace_of_selects (args := #[]) (mvT hZ (own_w hw 83 rfl))) (mvT hZ (own_w hw 83 rfl)) (mvT hZ (own_w hw 82 rfl)) (by decide) (backOf (W := 0) (rm16_0_2 l Z a0 hw [] b144 b132 x139 x140 x103 x107 x111 x115 cs1 fm T154.heap n0 (Nat.le_trans Z0 K157.1) f171 G q154_t f172 f173 f174 f175) hZ (own_w hw 84 rfl) (own_w hw 38 rfl) (by decide) (by decide)) q176a q176c (g := (mkF m 88 #[.val (.int p1), .val (.int p2), .val (.int p3), .val (.int p4), .val (.int p5), .val (.int x103), .val (.int x107), .val (.int x111), .val (.int x115), .val (.ref b118), .val (.ref b132), .val (.int (2 : Int32)), .val (.ref b144), .unset, .unset, .unset] [(.int (2 : Int32)), (.ref b144)])) rfl (by rw [hml]; rfl) (Steps.refl _) (argsL := [(.int (2 : Int32))]) (rest := []) (lenOf pd11 rfl) rfl (by show 2 * 0 + _ ≤ _; exact Nat.le_of_eq rfl) (hb hby at_88) (fun _ _ => ⟨rfl, rfl, (by decide : 5 + 0 ≤ _), (by decide : 23 + 0 ≤ _)⟩)
    dsimp only [Pt.U, Pt.locs, Pt.cells, Pt.slots] at X176 l176 y176 z176 st176 hQ176
    subst l176 y176 z176
    obtain ⟨rfl, N176q, q176_hh⟩ := hQ176
    have N176 := Fr.app N154 N176q
    exact ⟨_, _, X176, q176_hh, N176, (gcT p158 st176)⟩
   ·subst ro
    have f177 := (f151.keep q154_K (allS ge_b144 all0))
    have f178 := (f149.keep q154_K)
    have f179 := (f152.keep q154_K (ninS ne_b132_b144 nin0))
    have f180 := (f153.keep q154_K (ninS ne_b132_b144 nin0))
    have f181 := (f150.keep q154_K (ninS ne_x139_b144 nin0))
    obtain ⟨cq182, kq182, q182a, q182b, q182c⟩ := isOf hZ rfl q154_E
    obtain ⟨_, _, ⟨T182, L182, k182, n182⟩, -, X182, ⟨Lc182, hQ182, l182, y182, z182⟩, st182⟩ := X154.virtualBack hx (y := (⟨"com/example/subsume/subsume/model/Lines", "character", "(I)I"⟩ : MethodName)) (z := (⟨"com/example/subsume/subsume/model/Lines", "character", "(I)I"⟩ : MethodName)) hown (mvT hZ (own_w hw 80 rfl)) (mvT hZ (own_w hw 81 rfl)) (notFace_of_selects (args := #[]) (mvT hZ (own_w hw 83 rfl))) (mvT hZ (own_w hw 83 rfl)) (mvT hZ (own_w hw 82 rfl)) (by decide) (backOf (W := 0) (rm16_0_3 l Z a0 hw [] b144 b132 x139 x140 x103 x107 x111 x115 cs1 fm T154.heap n0 (Nat.le_trans Z0 K157.1) f177 G q154_t f178 f179 f180 f181) hZ (own_w hw 84 rfl) (own_w hw 38 rfl) (by decide) (by decide)) q182a q182c (g := (mkF m 88 #[.val (.int p1), .val (.int p2), .val (.int p3), .val (.int p4), .val (.int p5), .val (.int x103), .val (.int x107), .val (.int x111), .val (.int x115), .val (.ref b118), .val (.ref b132), .val (.int (3 : Int32)), .val (.ref b144), .unset, .unset, .unset] [(.int (3 : Int32)), (.ref b144)])) rfl (by rw [hml]; rfl) (Steps.refl _) (argsL := [(.int (3 : Int32))]) (rest := []) (lenOf pd11 rfl) rfl (by show 2 * 0 + _ ≤ _; exact Nat.le_of_eq rfl) (hb hby at_88) (fun _ _ => ⟨rfl, rfl, (by decide : 5 + 0 ≤ _), (by decide : 23 + 0 ≤ _)⟩)
    dsimp only [Pt.U, Pt.locs, Pt.cells, Pt.slots] at X182 l182 y182 z182 st182 hQ182
    subst l182 y182 z182
    obtain ⟨rfl, N182q, q182_hh⟩ := hQ182
    have N182 := Fr.app N154 N182q
    exact ⟨_, _, X182, q182_hh, N182, (gcT p158 st182)⟩
   ·subst ro
    have f183 := (f151.keep q154_K (allS ge_b144 all0))
    have f184 := (f149.keep q154_K)
    have f185 := (f152.keep q154_K (ninS ne_b132_b144 nin0))
    have f186 := (f153.keep q154_K (ninS ne_b132_b144 nin0))
    have f187 := (f150.keep q154_K (ninS ne_x139_b144 nin0))
    obtain ⟨cq188, kq188, q188a, q188b, q188c⟩ := isOf hZ rfl q154_E
    obtain ⟨_, _, ⟨T188, L188, k188, n188⟩, -, X188, ⟨Lc188, hQ188, l188, y188, z188⟩, st188⟩ := X154.virtualBack hx (y := (⟨"com/example/subsume/subsume/model/Lines", "character", "(I)I"⟩ : MethodName)) (z := (⟨"com/example/subsume/subsume/model/Lines", "character", "(I)I"⟩ : MethodName)) hown (mvT hZ (own_w hw 80 rfl)) (mvT hZ (own_w hw 81 rfl)) (notFace_of_selects (args := #[]) (mvT hZ (own_w hw 83 rfl))) (mvT hZ (own_w hw 83 rfl)) (mvT hZ (own_w hw 82 rfl)) (by decide) (backOf (W := 0) (rm16_0_4 l Z a0 hw [] b144 b132 x139 x140 x103 x107 x111 x115 cs1 fm T154.heap n0 (Nat.le_trans Z0 K157.1) f183 G q154_t f184 f185 f186 f187) hZ (own_w hw 84 rfl) (own_w hw 38 rfl) (by decide) (by decide)) q188a q188c (g := (mkF m 88 #[.val (.int p1), .val (.int p2), .val (.int p3), .val (.int p4), .val (.int p5), .val (.int x103), .val (.int x107), .val (.int x111), .val (.int x115), .val (.ref b118), .val (.ref b132), .val (.int (4 : Int32)), .val (.ref b144), .unset, .unset, .unset] [(.int (4 : Int32)), (.ref b144)])) rfl (by rw [hml]; rfl) (Steps.refl _) (argsL := [(.int (4 : Int32))]) (rest := []) (lenOf pd11 rfl) rfl (by show 2 * 0 + _ ≤ _; exact Nat.le_of_eq rfl) (hb hby at_88) (fun _ _ => ⟨rfl, rfl, (by decide : 5 + 0 ≤ _), (by decide : 23 + 0 ≤ _)⟩)
    dsimp only [Pt.U, Pt.locs, Pt.cells, Pt.slots] at X188 l188 y188 z188 st188 hQ188
    subst l188 y188 z188
    obtain ⟨rfl, N188q, q188_hh⟩ := hQ188
    have N188 := Fr.app N154 N188q
    exact ⟨_, _, X188, q188_hh, N188, (gcT p158 st188)⟩
  have p189 : Go p.tables e below _ (Tm.setTop (mkF m 99 #[.val (.int p1), .val (.int p2), .val (.int p3), .val (.int p4), .val (.int p5), .val (.int x103), .val (.int x107), .val (.int x111), .val (.int x115), .val (.ref b118), .val (.ref b132), .val (.int o), .val (.ref b144), .val (.int (o + (1 : Int32))), .val (.int (0 : Int32)), .unset] [(.int (2 : Int32)), (.int o)])) := fun t_ k_ => pm t_ (by
   refine XS.istore Xm.here hx rfl (hb hby at_91) rfl (l' := #[.val (.int p1), .val (.int p2), .val (.int p3), .val (.int p4), .val (.int p5), .val (.int x103), .val (.int x107), .val (.int x111), .val (.int x115), .val (.ref b118), .val (.ref b132), .val (.int o), .val (.ref b144), .val (.int (o + (1 : Int32))), .unset, .unset]) rfl ?_
   refine XS.iconst Xm.here hx rfl (hb hby at_93) ?_
   refine XS.istore Xm.here hx rfl (hb hby at_94) rfl (l' := #[.val (.int p1), .val (.int p2), .val (.int p3), .val (.int p4), .val (.int p5), .val (.int x103), .val (.int x107), .val (.int x111), .val (.int x115), .val (.ref b118), .val (.ref b132), .val (.int o), .val (.ref b144), .val (.int (o + (1 : Int32))), .val (.int (0 : Int32)), .unset]) rfl ?_
   refine XS.iload Xm.here hx rfl (hb hby at_96) rfl ?_
   refine XS.iconst Xm.here hx rfl (hb hby at_98) ?_
   exact k_)
  obtain ⟨T197, L197, X197, e197, N197, p197⟩ : ∃ (T' : State) (L' : List Loc), Stand p l e room_1 s m #[(.int p1), (.int p2), (.int p3), (.int p4), (.int p5)] below meth c T' L' 5 23 ∧ T'.heap = T154.heap ∧ Fr n0 L' ∧ Go p.tables e below (s₁.setTop (entryFrame m #[(.int p1), (.int p2), (.int p3), (.int p4), (.int p5)] maxLocals)) (T'.setTop (mkF m 121 #[.val (.int p1), .val (.int p2), .val (.int p3), .val (.int p4), .val (.int p5), .val (.int x103), .val (.int x107), .val (.int x111), .val (.int x115), .val (.ref b118), .val (.ref b132), .val (.int o), .val (.ref b144), .val (.int (o + (1 : Int32))), .val (.int (0 : Int32)), .unset] [])) := by
   by_cases c190 : o < (2 : Int32)
   ·have p191 : Go p.tables e below _ (Tm.setTop (mkF m 121 #[.val (.int p1), .val (.int p2), .val (.int p3), .val (.int p4), .val (.int p5), .val (.int x103), .val (.int x107), .val (.int x111), .val (.int x115), .val (.ref b118), .val (.ref b132), .val (.int o), .val (.ref b144), .val (.int (o + (1 : Int32))), .val (.int (0 : Int32)), .unset] [])) := fun t_ k_ => p189 t_ (by
     refine XS.icmpYes Xm.here hx rfl (pc0 := 99) (pc' := 121) rfl (hb hby at_99) rfl (tlt c190).1 (by decide) (by decide) ?_
     exact k_)
    exact ⟨_, _, Xm, em, Nm, by exact p191⟩
   ·have p192 : Go p.tables e below _ (Tm.setTop (mkF m 102 #[.val (.int p1), .val (.int p2), .val (.int p3), .val (.int p4), .val (.int p5), .val (.int x103), .val (.int x107), .val (.int x111), .val (.int x115), .val (.ref b118), .val (.ref b132), .val (.int o), .val (.ref b144), .val (.int (o + (1 : Int32))), .val (.int (0 : Int32)), .unset] [])) := fun t_ k_ => p189 t_ (by
     refine XS.icmpNo Xm.here hx rfl (hb hby at_99) rfl (flt c190).1 ?_
     exact k_)
    have p193 : Go p.tables e below _ (Tm.setTop (mkF m 104 #[.val (.int p1), .val (.int p2), .val (.int p3), .val (.int p4), .val (.int p5), .val (.int x103), .val (.int x107), .val (.int x111), .val (.int x115), .val (.ref b118), .val (.ref b132), .val (.int o), .val (.ref b144), .val (.int (o + (1 : Int32))), .val (.int (0 : Int32)), .unset] [(.int x103)])) := fun t_ k_ => p192 t_ (by
     refine XS.iload Xm.here hx rfl (hb hby at_102) rfl ?_
     exact k_)
    obtain ⟨_, _, ⟨T194, L194, k194, n194⟩, -, X194, ⟨Lc194, hQ194, l194, y194, z194⟩, st194⟩ := Jvm.LawKit.callS Xm hx (y := (⟨"com/example/subsume/subsume/model/LinesCharacterPinLaw", "high", "(C)Z"⟩ : MethodName)) hown (mvT hZ (own_w hw 98 rfl)) (mvT hZ (own_w hw 99 rfl)) (mvT hZ (own_w hw 2 rfl)) (mvT hZ (own_w hw 100 rfl)) (by decide) (backOf (W := 0) (rm20 l Z a0 hw [] x103 T154.heap n0 (Nat.le_trans Z0 K157.1) ) hZ (own_w hw 100 rfl) (own_w hw 2 rfl) (by decide) (by decide)) (g := (mkF m 104 #[.val (.int p1), .val (.int p2), .val (.int p3), .val (.int p4), .val (.int p5), .val (.int x103), .val (.int x107), .val (.int x111), .val (.int x115), .val (.ref b118), .val (.ref b132), .val (.int o), .val (.ref b144), .val (.int (o + (1 : Int32))), .val (.int (0 : Int32)), .unset] [(.int x103)])) rfl (by rw [hml]; rfl) (argsL := [(.int x103)]) (rest := []) (lenOf pd21 rfl) rfl (by show 2 * 0 + _ ≤ _; exact Nat.le_of_eq rfl) (hb hby at_104) (fun _ _ => ⟨rfl, em, (by decide : 5 + 0 ≤ _), (by decide : 23 + 0 ≤ _)⟩)
    dsimp only [Pt.U, Pt.locs, Pt.cells, Pt.slots] at X194 l194 y194 z194 st194 hQ194
    subst l194 y194 z194
    obtain ⟨rfl, N194q, q194_hh⟩ := hQ194
    have N194 := Fr.app Nm N194q
    have c195 : ((own_hi x103) = (0 : Int32)) := own_hiL hL.1
    have p196 : Go p.tables e below _ (T194.setTop (mkF m 121 #[.val (.int p1), .val (.int p2), .val (.int p3), .val (.int p4), .val (.int p5), .val (.int x103), .val (.int x107), .val (.int x111), .val (.int x115), .val (.ref b118), .val (.ref b132), .val (.int o), .val (.ref b144), .val (.int (o + (1 : Int32))), .val (.int (0 : Int32)), .unset] [])) := fun t_ k_ => (gc p193 st194) t_ (by
     refine XS.ifYes X194.here hx rfl (pc0 := 107) (pc' := 121) rfl (hb hby at_107) rfl ((if0 _ _).trans (teq c195).1) (by decide) (by decide) ?_
     exact k_)
    exact ⟨_, _, X194, q194_hh, N194, by exact p196⟩
  have p198 : Go p.tables e below _ (T197.setTop (mkF m 124 #[.val (.int p1), .val (.int p2), .val (.int p3), .val (.int p4), .val (.int p5), .val (.int x103), .val (.int x107), .val (.int x111), .val (.int x115), .val (.ref b118), .val (.ref b132), .val (.int o), .val (.ref b144), .val (.int (o + (1 : Int32))), .val (.int (0 : Int32)), .unset] [(.int (3 : Int32)), (.int o)])) := fun t_ k_ => p197 t_ (by
   refine XS.iload X197.here hx rfl (hb hby at_121) rfl ?_
   refine XS.iconst X197.here hx rfl (hb hby at_123) ?_
   exact k_)
  obtain ⟨T206, L206, X206, e206, N206, p206⟩ : ∃ (T' : State) (L' : List Loc), Stand p l e room_1 s m #[(.int p1), (.int p2), (.int p3), (.int p4), (.int p5)] below meth c T' L' 5 23 ∧ T'.heap = T154.heap ∧ Fr n0 L' ∧ Go p.tables e below (s₁.setTop (entryFrame m #[(.int p1), (.int p2), (.int p3), (.int p4), (.int p5)] maxLocals)) (T'.setTop (mkF m 146 #[.val (.int p1), .val (.int p2), .val (.int p3), .val (.int p4), .val (.int p5), .val (.int x103), .val (.int x107), .val (.int x111), .val (.int x115), .val (.ref b118), .val (.ref b132), .val (.int o), .val (.ref b144), .val (.int (o + (1 : Int32))), .val (.int (0 : Int32)), .unset] [])) := by
   by_cases c199 : o < (3 : Int32)
   ·have p200 : Go p.tables e below _ (T197.setTop (mkF m 146 #[.val (.int p1), .val (.int p2), .val (.int p3), .val (.int p4), .val (.int p5), .val (.int x103), .val (.int x107), .val (.int x111), .val (.int x115), .val (.ref b118), .val (.ref b132), .val (.int o), .val (.ref b144), .val (.int (o + (1 : Int32))), .val (.int (0 : Int32)), .unset] [])) := fun t_ k_ => p198 t_ (by
     refine XS.icmpYes X197.here hx rfl (pc0 := 124) (pc' := 146) rfl (hb hby at_124) rfl (tlt c199).1 (by decide) (by decide) ?_
     exact k_)
    exact ⟨_, _, X197, e197, N197, by exact p200⟩
   ·have p201 : Go p.tables e below _ (T197.setTop (mkF m 127 #[.val (.int p1), .val (.int p2), .val (.int p3), .val (.int p4), .val (.int p5), .val (.int x103), .val (.int x107), .val (.int x111), .val (.int x115), .val (.ref b118), .val (.ref b132), .val (.int o), .val (.ref b144), .val (.int (o + (1 : Int32))), .val (.int (0 : Int32)), .unset] [])) := fun t_ k_ => p198 t_ (by
     refine XS.icmpNo X197.here hx rfl (hb hby at_124) rfl (flt c199).1 ?_
     exact k_)
    have p202 : Go p.tables e below _ (T197.setTop (mkF m 129 #[.val (.int p1), .val (.int p2), .val (.int p3), .val (.int p4), .val (.int p5), .val (.int x103), .val (.int x107), .val (.int x111), .val (.int x115), .val (.ref b118), .val (.ref b132), .val (.int o), .val (.ref b144), .val (.int (o + (1 : Int32))), .val (.int (0 : Int32)), .unset] [(.int x107)])) := fun t_ k_ => p201 t_ (by
     refine XS.iload X197.here hx rfl (hb hby at_127) rfl ?_
     exact k_)
    obtain ⟨_, _, ⟨T203, L203, k203, n203⟩, -, X203, ⟨Lc203, hQ203, l203, y203, z203⟩, st203⟩ := Jvm.LawKit.callS X197 hx (y := (⟨"com/example/subsume/subsume/model/LinesCharacterPinLaw", "high", "(C)Z"⟩ : MethodName)) hown (mvT hZ (own_w hw 98 rfl)) (mvT hZ (own_w hw 99 rfl)) (mvT hZ (own_w hw 2 rfl)) (mvT hZ (own_w hw 100 rfl)) (by decide) (backOf (W := 0) (rm20 l Z a0 hw [] x107 T154.heap n0 (Nat.le_trans Z0 K157.1) ) hZ (own_w hw 100 rfl) (own_w hw 2 rfl) (by decide) (by decide)) (g := (mkF m 129 #[.val (.int p1), .val (.int p2), .val (.int p3), .val (.int p4), .val (.int p5), .val (.int x103), .val (.int x107), .val (.int x111), .val (.int x115), .val (.ref b118), .val (.ref b132), .val (.int o), .val (.ref b144), .val (.int (o + (1 : Int32))), .val (.int (0 : Int32)), .unset] [(.int x107)])) rfl (by rw [hml]; rfl) (argsL := [(.int x107)]) (rest := []) (lenOf pd21 rfl) rfl (by show 2 * 0 + _ ≤ _; exact Nat.le_of_eq rfl) (hb hby at_129) (fun _ _ => ⟨rfl, e197, (by decide : 5 + 0 ≤ _), (by decide : 23 + 0 ≤ _)⟩)
    dsimp only [Pt.U, Pt.locs, Pt.cells, Pt.slots] at X203 l203 y203 z203 st203 hQ203
    subst l203 y203 z203
    obtain ⟨rfl, N203q, q203_hh⟩ := hQ203
    have N203 := Fr.app N197 N203q
    have c204 : ((own_hi x107) = (0 : Int32)) := own_hiL hL.2.1
    have p205 : Go p.tables e below _ (T203.setTop (mkF m 146 #[.val (.int p1), .val (.int p2), .val (.int p3), .val (.int p4), .val (.int p5), .val (.int x103), .val (.int x107), .val (.int x111), .val (.int x115), .val (.ref b118), .val (.ref b132), .val (.int o), .val (.ref b144), .val (.int (o + (1 : Int32))), .val (.int (0 : Int32)), .unset] [])) := fun t_ k_ => (gc p202 st203) t_ (by
     refine XS.ifYes X203.here hx rfl (pc0 := 132) (pc' := 146) rfl (hb hby at_132) rfl ((if0 _ _).trans (teq c204).1) (by decide) (by decide) ?_
     exact k_)
    exact ⟨_, _, X203, q203_hh, N203, by exact p205⟩
  have p207 : Go p.tables e below _ (T206.setTop (mkF m 149 #[.val (.int p1), .val (.int p2), .val (.int p3), .val (.int p4), .val (.int p5), .val (.int x103), .val (.int x107), .val (.int x111), .val (.int x115), .val (.ref b118), .val (.ref b132), .val (.int o), .val (.ref b144), .val (.int (o + (1 : Int32))), .val (.int (0 : Int32)), .unset] [(.int (4 : Int32)), (.int o)])) := fun t_ k_ => p206 t_ (by
   refine XS.iload X206.here hx rfl (hb hby at_146) rfl ?_
   refine XS.iconst X206.here hx rfl (hb hby at_148) ?_
   exact k_)
  obtain ⟨T215, L215, X215, e215, N215, p215⟩ : ∃ (T' : State) (L' : List Loc), Stand p l e room_1 s m #[(.int p1), (.int p2), (.int p3), (.int p4), (.int p5)] below meth c T' L' 5 23 ∧ T'.heap = T154.heap ∧ Fr n0 L' ∧ Go p.tables e below (s₁.setTop (entryFrame m #[(.int p1), (.int p2), (.int p3), (.int p4), (.int p5)] maxLocals)) (T'.setTop (mkF m 171 #[.val (.int p1), .val (.int p2), .val (.int p3), .val (.int p4), .val (.int p5), .val (.int x103), .val (.int x107), .val (.int x111), .val (.int x115), .val (.ref b118), .val (.ref b132), .val (.int o), .val (.ref b144), .val (.int (o + (1 : Int32))), .val (.int (0 : Int32)), .unset] [])) := by
   by_cases c208 : o < (4 : Int32)
   ·have p209 : Go p.tables e below _ (T206.setTop (mkF m 171 #[.val (.int p1), .val (.int p2), .val (.int p3), .val (.int p4), .val (.int p5), .val (.int x103), .val (.int x107), .val (.int x111), .val (.int x115), .val (.ref b118), .val (.ref b132), .val (.int o), .val (.ref b144), .val (.int (o + (1 : Int32))), .val (.int (0 : Int32)), .unset] [])) := fun t_ k_ => p207 t_ (by
     refine XS.icmpYes X206.here hx rfl (pc0 := 149) (pc' := 171) rfl (hb hby at_149) rfl (tlt c208).1 (by decide) (by decide) ?_
     exact k_)
    exact ⟨_, _, X206, e206, N206, by exact p209⟩
   ·have p210 : Go p.tables e below _ (T206.setTop (mkF m 152 #[.val (.int p1), .val (.int p2), .val (.int p3), .val (.int p4), .val (.int p5), .val (.int x103), .val (.int x107), .val (.int x111), .val (.int x115), .val (.ref b118), .val (.ref b132), .val (.int o), .val (.ref b144), .val (.int (o + (1 : Int32))), .val (.int (0 : Int32)), .unset] [])) := fun t_ k_ => p207 t_ (by
     refine XS.icmpNo X206.here hx rfl (hb hby at_149) rfl (flt c208).1 ?_
     exact k_)
    have p211 : Go p.tables e below _ (T206.setTop (mkF m 154 #[.val (.int p1), .val (.int p2), .val (.int p3), .val (.int p4), .val (.int p5), .val (.int x103), .val (.int x107), .val (.int x111), .val (.int x115), .val (.ref b118), .val (.ref b132), .val (.int o), .val (.ref b144), .val (.int (o + (1 : Int32))), .val (.int (0 : Int32)), .unset] [(.int x111)])) := fun t_ k_ => p210 t_ (by
     refine XS.iload X206.here hx rfl (hb hby at_152) rfl ?_
     exact k_)
    obtain ⟨_, _, ⟨T212, L212, k212, n212⟩, -, X212, ⟨Lc212, hQ212, l212, y212, z212⟩, st212⟩ := Jvm.LawKit.callS X206 hx (y := (⟨"com/example/subsume/subsume/model/LinesCharacterPinLaw", "high", "(C)Z"⟩ : MethodName)) hown (mvT hZ (own_w hw 98 rfl)) (mvT hZ (own_w hw 99 rfl)) (mvT hZ (own_w hw 2 rfl)) (mvT hZ (own_w hw 100 rfl)) (by decide) (backOf (W := 0) (rm20 l Z a0 hw [] x111 T154.heap n0 (Nat.le_trans Z0 K157.1) ) hZ (own_w hw 100 rfl) (own_w hw 2 rfl) (by decide) (by decide)) (g := (mkF m 154 #[.val (.int p1), .val (.int p2), .val (.int p3), .val (.int p4), .val (.int p5), .val (.int x103), .val (.int x107), .val (.int x111), .val (.int x115), .val (.ref b118), .val (.ref b132), .val (.int o), .val (.ref b144), .val (.int (o + (1 : Int32))), .val (.int (0 : Int32)), .unset] [(.int x111)])) rfl (by rw [hml]; rfl) (argsL := [(.int x111)]) (rest := []) (lenOf pd21 rfl) rfl (by show 2 * 0 + _ ≤ _; exact Nat.le_of_eq rfl) (hb hby at_154) (fun _ _ => ⟨rfl, e206, (by decide : 5 + 0 ≤ _), (by decide : 23 + 0 ≤ _)⟩)
    dsimp only [Pt.U, Pt.locs, Pt.cells, Pt.slots] at X212 l212 y212 z212 st212 hQ212
    subst l212 y212 z212
    obtain ⟨rfl, N212q, q212_hh⟩ := hQ212
    have N212 := Fr.app N206 N212q
    have c213 : ((own_hi x111) = (0 : Int32)) := own_hiL hL.2.2.1
    have p214 : Go p.tables e below _ (T212.setTop (mkF m 171 #[.val (.int p1), .val (.int p2), .val (.int p3), .val (.int p4), .val (.int p5), .val (.int x103), .val (.int x107), .val (.int x111), .val (.int x115), .val (.ref b118), .val (.ref b132), .val (.int o), .val (.ref b144), .val (.int (o + (1 : Int32))), .val (.int (0 : Int32)), .unset] [])) := fun t_ k_ => (gc p211 st212) t_ (by
     refine XS.ifYes X212.here hx rfl (pc0 := 157) (pc' := 171) rfl (hb hby at_157) rfl ((if0 _ _).trans (teq c213).1) (by decide) (by decide) ?_
     exact k_)
    exact ⟨_, _, X212, q212_hh, N212, by exact p214⟩
  have p216 : Go p.tables e below _ (T215.setTop (mkF m 184 #[.val (.int p1), .val (.int p2), .val (.int p3), .val (.int p4), .val (.int p5), .val (.int x103), .val (.int x107), .val (.int x111), .val (.int x115), .val (.ref b118), .val (.ref b132), .val (.int o), .val (.ref b144), .val (.int (o + (1 : Int32))), .val (.int (0 : Int32)), .val (.int ((o - (0 : Int32)) + (1 : Int32)))] [(.int ((o - (0 : Int32)) + (1 : Int32))), (.int (o + (1 : Int32)))])) := fun t_ k_ => p215 t_ (by
   refine XS.iload X215.here hx rfl (hb hby at_171) rfl ?_
   refine XS.iload X215.here hx rfl (hb hby at_173) rfl ?_
   refine XS.isub X215.here hx rfl (hb hby at_175) rfl ?_
   refine XS.iconst X215.here hx rfl (hb hby at_176) ?_
   refine XS.iadd X215.here hx rfl (hb hby at_177) rfl ?_
   refine XS.istore X215.here hx rfl (hb hby at_178) rfl (l' := #[.val (.int p1), .val (.int p2), .val (.int p3), .val (.int p4), .val (.int p5), .val (.int x103), .val (.int x107), .val (.int x111), .val (.int x115), .val (.ref b118), .val (.ref b132), .val (.int o), .val (.ref b144), .val (.int (o + (1 : Int32))), .val (.int (0 : Int32)), .val (.int ((o - (0 : Int32)) + (1 : Int32)))]) rfl ?_
   refine XS.iload X215.here hx rfl (hb hby at_180) rfl ?_
   refine XS.iload X215.here hx rfl (hb hby at_182) rfl ?_
   exact k_)
  have c217 : ((o + (1 : Int32)) = ((o - (0 : Int32)) + (1 : Int32))) := by simp
  have p218 : Go p.tables e below _ (T215.setTop (mkF m 192 #[.val (.int p1), .val (.int p2), .val (.int p3), .val (.int p4), .val (.int p5), .val (.int x103), .val (.int x107), .val (.int x111), .val (.int x115), .val (.ref b118), .val (.ref b132), .val (.int o), .val (.ref b144), .val (.int (o + (1 : Int32))), .val (.int (0 : Int32)), .val (.int ((o - (0 : Int32)) + (1 : Int32)))] [(.int (1 : Int32))])) := fun t_ k_ => p216 t_ (by
   refine XS.icmpNo X215.here hx rfl (hb hby at_184) rfl (teq c217).2 ?_
   refine XS.iconst X215.here hx rfl (hb hby at_187) ?_
   refine XS.goto X215.here hx rfl (pc0 := 188) (pc' := 192) rfl (hb hby at_188) (by decide) (by decide) ?_
   exact k_)
  obtain ⟨fs, hr, hrun, hended, hW, hsame⟩ := X215.leave (v := some (.int (1 : Int32))) (fun h => by rw [Bd.returns] at h; cases h)
  refine ⟨_, _, p218 _ (retN X215 hx (t := .boolean) Bd.returns (by simp) (hb hby at_192) hr), hrun, hended, _, _, rfl, ?_, ⟨_, rfl⟩, hW, hsame.mono (by decide) (by decide)⟩
  show Q0 Z p1 p2 p3 p4 p5 cs1 fm h0 n0 _ T215.heap _
  rw [e215]
  exact ⟨rfl, N215⟩
 ·have big : ((255 : Int32) < x103) ∨ ((255 : Int32) < x107) ∨ ((255 : Int32) < x111) ∨ ((255 : Int32) < x115) := by
   refine Classical.byContradiction fun q => hL ⟨fun z => q (Or.inl z), fun z => q (Or.inr (Or.inl z)), fun z => q (Or.inr (Or.inr (Or.inl z))), fun z => q (Or.inr (Or.inr (Or.inr z)))⟩
  have f219 := ((((((O1.ext E118).wr W121 ge_b118).wr W124 ge_b118).wr W127 ge_b118).wr W130 ge_b118).ext E132)
  obtain ⟨_, _, ⟨T220, L220, k220, n220⟩, -, X220, ⟨Lc220, hQ220, l220, y220, z220⟩, st220⟩ := X132.specialBack hx (y := (⟨"java/lang/String", "<init>", "([C)V"⟩ : MethodName)) rfl hown (mvT hZ (own_w hw 9 rfl)) (mvT hZ (own_w hw 10 rfl)) (mvT hZ (own_w hw 11 rfl)) (by decide) (backOf (W := 1) (rm2_U4 l Z a0 hw [] b132 b118 k118 x103 x107 x111 x115 cs1 fm h132 n0 (Nat.le_trans Z0 K133.1) f219 G F132_coder F132_value A132 f136 (Ne.symm ne_b118_b132) ge_b132 ra0 rb0 ra1 rb1 ra2 rb2 ra3 rb3 big) hZ (own_w hw 11 rfl) (own_w hw 8 rfl) (by decide) (by decide)) (g := (mkF m 59 #[.val (.int p1), .val (.int p2), .val (.int p3), .val (.int p4), .val (.int p5), .val (.int x103), .val (.int x107), .val (.int x111), .val (.int x115), .val (.ref b118), .unset, .unset, .unset, .unset, .unset, .unset] [(.ref b118), (.ref b132), (.ref b132)])) rfl (by rw [hml]; rfl) (Steps.refl _) (a := b132) (argsL := [(.ref b118)]) (rest := [(.ref b132)]) (lenOf pd22 rfl) rfl (by show 2 * 0 + _ ≤ _; exact Nat.le_of_eq rfl) (hb hby at_59) (fun _ _ => ⟨rfl, e132, (by decide : 2 + 2 ≤ _), (by decide : 8 + 12 ≤ _)⟩)
  dsimp only [Pt.U, Pt.locs, Pt.cells, Pt.slots] at X220 l220 y220 z220 st220 hQ220
  subst l220 y220 z220
  obtain ⟨x221, x222, rfl, N220q, q220_K, q220_E, q220_c, q220_v, q220_g, q220_z, q220_V, q220_n⟩ := hQ220
  have N220 := Fr.app N130 N220q
  have K223 : Keep h0 T220.heap [] := K133.trans q220_K (allS (Or.inr sz_b132) all0)
  have ne_b118_x221 : b118 ≠ x221 := Nat.ne_of_lt (Nat.lt_of_lt_of_le f136.lt q220_z)
  have ne_b132_x221 : b132 ≠ x221 := Nat.ne_of_lt (Nat.lt_of_lt_of_le A132.lt q220_z)
  have p224 : Go p.tables e below _ (T220.setTop (mkF m 73 #[.val (.int p1), .val (.int p2), .val (.int p3), .val (.int p4), .val (.int p5), .val (.int x103), .val (.int x107), .val (.int x111), .val (.int x115), .val (.ref b118), .val (.ref b132), .val (.int ((p5 &&& (2147483647 : Int32)) % (5 : Int32))), .unset, .unset, .unset, .unset] [])) := fun t_ k_ => (gcT p134 st220) t_ (by
   refine XS.astore X220.here hx rfl (hb hby at_62) rfl rfl (l' := #[.val (.int p1), .val (.int p2), .val (.int p3), .val (.int p4), .val (.int p5), .val (.int x103), .val (.int x107), .val (.int x111), .val (.int x115), .val (.ref b118), .val (.ref b132), .unset, .unset, .unset, .unset, .unset]) rfl ?_
   refine XS.iload X220.here hx rfl (hb hby at_64) rfl ?_
   refine X220.ldcInt hx hown (mvT hZ (own_w hw 35 rfl)) (g := (mkF m 66 #[.val (.int p1), .val (.int p2), .val (.int p3), .val (.int p4), .val (.int p5), .val (.int x103), .val (.int x107), .val (.int x111), .val (.int x115), .val (.ref b118), .val (.ref b132), .unset, .unset, .unset, .unset, .unset] [(.int p5)])) rfl (hb hby at_66) _ ?_
   refine XS.iand X220.here hx rfl (hb hby at_68) rfl ?_
   refine XS.iconst X220.here hx rfl (hb hby at_69) ?_
   refine Jvm.RoadKit.iremM X220 hx rfl (hb hby at_70) rfl (by decide) ?_
   refine XS.istore X220.here hx rfl (hb hby at_71) rfl (l' := #[.val (.int p1), .val (.int p2), .val (.int p3), .val (.int p4), .val (.int p5), .val (.int x103), .val (.int x107), .val (.int x111), .val (.int x115), .val (.ref b118), .val (.ref b132), .val (.int ((p5 &&& (2147483647 : Int32)) % (5 : Int32))), .unset, .unset, .unset, .unset]) rfl ?_
   exact k_)
  obtain ⟨o, ho⟩ : ∃ z, z = ((p5 &&& (2147483647 : Int32)) % (5 : Int32)) := ⟨_, rfl⟩
  have p225 : Go p.tables e below (s₁.setTop (entryFrame m #[(.int p1), (.int p2), (.int p3), (.int p4), (.int p5)] maxLocals)) (T220.setTop (mkF m 73 #[.val (.int p1), .val (.int p2), .val (.int p3), .val (.int p4), .val (.int p5), .val (.int x103), .val (.int x107), .val (.int x111), .val (.int x115), .val (.ref b118), .val (.ref b132), .val (.int o), .unset, .unset, .unset, .unset] [])) := by rw [ho]; exact p224
  obtain ⟨T226, h226, X226, e226, E226, A226, D226, -, st226⟩ := newO X220 hx hZ hown (own_w hw 36 rfl) (own_w hw 37 rfl) (own_w hw 38 rfl) rfl (g := (mkF m 73 #[.val (.int p1), .val (.int p2), .val (.int p3), .val (.int p4), .val (.int p5), .val (.int x103), .val (.int x107), .val (.int x111), .val (.int x115), .val (.ref b118), .val (.ref b132), .val (.int o), .unset, .unset, .unset, .unset] [])) rfl (hb hby at_73) (by decide) (by decide)
  obtain ⟨b226, g226⟩ : ∃ z, z = T220.heap.size := ⟨_, rfl⟩
  rw [← g226] at A226 D226 st226
  have f227 := (f136.keep q220_K (ninS ne_b118_b132 nin0))
  have ne_b118_b226 : b118 ≠ b226 := Nat.ne_of_lt (Nat.lt_of_lt_of_le f227.lt (Nat.le_of_eq g226.symm))
  have ne_b132_b226 : b132 ≠ b226 := Nat.ne_of_lt (Nat.lt_of_lt_of_le q220_E.lt (Nat.le_of_eq g226.symm))
  have ne_x221_b226 : x221 ≠ b226 := Nat.ne_of_lt (Nat.lt_of_lt_of_le q220_V.lt (Nat.le_of_eq g226.symm))
  have ge_b226 : n0 ≤ b226 := Nat.le_trans (Nat.le_trans Z0 K223.1) (Nat.le_of_eq g226.symm)
  have sz_b226 : h0.size ≤ b226 := Nat.le_trans K223.1 (Nat.le_of_eq g226.symm)
  have K228 : Keep h0 h226 [] := K223.ext E226
  have F226_text : Fld Z h226 b226 "com/example/subsume/subsume/model/Lines" "text" "Ljava/lang/String;" .null := D226 (Or.inr (own_w hw 44 rfl)) (ty := (.object "java/lang/String")) (by decide)
  have F226_starts : Fld Z h226 b226 "com/example/subsume/subsume/model/Lines" "starts" "[I" .null := D226 (Or.inr (own_w hw 79 rfl)) (ty := (.array .int)) (by decide)
  have HBp : ∀ i, i < 4 → ∃ b0 b1 : Int32, (¬ ((Int32.ofNat i) <<< (1 : Int32)) < 0 ∧ ((Int32.ofNat i) <<< (1 : Int32)) < (8 : Int32)) ∧ (¬ (((Int32.ofNat i) <<< (1 : Int32)) + (1 : Int32)) < 0 ∧ (((Int32.ofNat i) <<< (1 : Int32)) + (1 : Int32)) < (8 : Int32)) ∧ ([(.int (own_x0 x103)), (.int (own_x8 x103)), (.int (own_x0 x107)), (.int (own_x8 x107)), (.int (own_x0 x111)), (.int (own_x8 x111)), (.int (own_x0 x115)), (.int (own_x8 x115))] : List Value).getD (((Int32.ofNat i) <<< (1 : Int32))).toNatClampNeg (.int (0 : Int32)) = .int b0 ∧ ([(.int (own_x0 x103)), (.int (own_x8 x103)), (.int (own_x0 x107)), (.int (own_x8 x107)), (.int (own_x0 x111)), (.int (own_x8 x111)), (.int (own_x0 x115)), (.int (own_x8 x115))] : List Value).getD ((((Int32.ofNat i) <<< (1 : Int32)) + (1 : Int32))).toNatClampNeg (.int (0 : Int32)) = .int b1 ∧ own_c16 b0 b1 = own_at [x103, x107, x111, x115] i := by
   intro i hi
   rcases (by omega : i = 0 ∨ i = 1 ∨ i = 2 ∨ i = 3) with rfl | rfl | rfl | rfl
   ·exact ⟨_, _, by decide, by decide, rfl, rfl, own_l16 _ ra0 rb0⟩
   ·exact ⟨_, _, by decide, by decide, rfl, rfl, own_l16 _ ra1 rb1⟩
   ·exact ⟨_, _, by decide, by decide, rfl, rfl, own_l16 _ ra2 rb2⟩
   ·exact ⟨_, _, by decide, by decide, rfl, rfl, own_l16 _ ra3 rb3⟩
  have p229 : Go p.tables e below _ (T226.setTop (mkF m 79 #[.val (.int p1), .val (.int p2), .val (.int p3), .val (.int p4), .val (.int p5), .val (.int x103), .val (.int x107), .val (.int x111), .val (.int x115), .val (.ref b118), .val (.ref b132), .val (.int o), .unset, .unset, .unset, .unset] [(.ref b132), (.ref b226), (.ref b226)])) := fun t_ k_ => (gc p225 st226) t_ (by
   refine XS.dup X226.here hx rfl (hb hby at_76) rfl rfl ?_
   refine XS.aload X226.here hx rfl (hb hby at_77) rfl rfl ?_
   exact k_)
  have f230 := (f227.ext E226)
  have f231 := (q220_E.ext E226)
  have f232 := (q220_V.ext E226)
  have f233 := ((f219.keep q220_K (allS ge_b132 all0)).ext E226)
  have f234 := (q220_c.ext E226)
  have f235 := (q220_v.ext E226)
  obtain ⟨_, _, ⟨T236, L236, k236, n236⟩, -, X236, ⟨Lc236, hQ236, l236, y236, z236⟩, st236⟩ := X226.specialBack hx (y := (⟨"com/example/subsume/subsume/model/Lines", "<init>", "(Ljava/lang/String;)V"⟩ : MethodName)) rfl hown (mvT hZ (own_w hw 39 rfl)) (mvT hZ (own_w hw 40 rfl)) (mvT hZ (own_w hw 41 rfl)) (by decide) (backOf (W := 1) (rm8_1 l Z a0 hw [] b226 b132 x221 x222 (8 : Int32) [(.int (own_x0 x103)), (.int (own_x8 x103)), (.int (own_x0 x107)), (.int (own_x8 x107)), (.int (own_x0 x111)), (.int (own_x8 x111)), (.int (own_x0 x115)), (.int (own_x8 x115))] [x103, x107, x111, x115] 4 cs1 fm h226 n0 (Nat.le_trans Z0 K228.1) f233 G f231 f234 f235 f232 F226_starts F226_text A226 ge_b226 (Ne.symm ne_b132_b226) (Ne.symm ne_x221_b226) (by decide) (by decide) HBp) hZ (own_w hw 41 rfl) (own_w hw 38 rfl) (by decide) (by decide)) (g := (mkF m 79 #[.val (.int p1), .val (.int p2), .val (.int p3), .val (.int p4), .val (.int p5), .val (.int x103), .val (.int x107), .val (.int x111), .val (.int x115), .val (.ref b118), .val (.ref b132), .val (.int o), .unset, .unset, .unset, .unset] [(.ref b132), (.ref b226), (.ref b226)])) rfl (by rw [hml]; rfl) (Steps.refl _) (a := b226) (argsL := [(.ref b132)]) (rest := [(.ref b226)]) (lenOf pd23 rfl) rfl (by show 2 * 0 + _ ≤ _; exact Nat.le_of_eq rfl) (hb hby at_79) (fun _ _ => ⟨rfl, e226, (by decide : 5 + 1 ≤ _), (by decide : 22 + 9 ≤ _)⟩)
  dsimp only [Pt.U, Pt.locs, Pt.cells, Pt.slots] at X236 l236 y236 z236 st236 hQ236
  subst l236 y236 z236
  obtain ⟨x237, x238, rfl, N236q, q236_K, q236_E, q236_t, q236_s, q236_V, q236_g, q236_z, q236_n⟩ := hQ236
  have N236 := Fr.app N220 N236q
  have K239 : Keep h0 T236.heap [] := K228.trans q236_K (allS (Or.inr sz_b226) all0)
  have ne_b118_x237 : b118 ≠ x237 := Nat.ne_of_lt (Nat.lt_of_lt_of_le f230.lt q236_z)
  have ne_b132_x237 : b132 ≠ x237 := Nat.ne_of_lt (Nat.lt_of_lt_of_le f231.lt q236_z)
  have ne_x221_x237 : x221 ≠ x237 := Nat.ne_of_lt (Nat.lt_of_lt_of_le f232.lt q236_z)
  have ne_b226_x237 : b226 ≠ x237 := Nat.ne_of_lt (Nat.lt_of_lt_of_le A226.lt q236_z)
  have p240 : Go p.tables e below _ (T236.setTop (mkF m 88 #[.val (.int p1), .val (.int p2), .val (.int p3), .val (.int p4), .val (.int p5), .val (.int x103), .val (.int x107), .val (.int x111), .val (.int x115), .val (.ref b118), .val (.ref b132), .val (.int o), .val (.ref b226), .unset, .unset, .unset] [(.int o), (.ref b226)])) := fun t_ k_ => (gcT p229 st236) t_ (by
   refine XS.astore X236.here hx rfl (hb hby at_82) rfl rfl (l' := #[.val (.int p1), .val (.int p2), .val (.int p3), .val (.int p4), .val (.int p5), .val (.int x103), .val (.int x107), .val (.int x111), .val (.int x115), .val (.ref b118), .val (.ref b132), .val (.int o), .val (.ref b226), .unset, .unset, .unset]) rfl ?_
   refine XS.aload X236.here hx rfl (hb hby at_84) rfl rfl ?_
   refine XS.iload X236.here hx rfl (hb hby at_86) rfl ?_
   exact k_)
  obtain ⟨Tm, Lm, Xm, em, Nm, pm⟩ : ∃ (T' : State) (L' : List Loc), Stand p l e room_1 s m #[(.int p1), (.int p2), (.int p3), (.int p4), (.int p5)] below meth c T' L' 6 31 ∧ T'.heap = T236.heap ∧ Fr n0 L' ∧ Go p.tables e below (s₁.setTop (entryFrame m #[(.int p1), (.int p2), (.int p3), (.int p4), (.int p5)] maxLocals)) (T'.setTop (mkF m 91 #[.val (.int p1), .val (.int p2), .val (.int p3), .val (.int p4), .val (.int p5), .val (.int x103), .val (.int x107), .val (.int x111), .val (.int x115), .val (.ref b118), .val (.ref b132), .val (.int o), .val (.ref b226), .unset, .unset, .unset] [(.int (own_chv o x103 x107 x111 x115))])) := by
   rcases (ho ▸ own_rem5 p5 : o = 0 ∨ o = 1 ∨ o = 2 ∨ o = 3 ∨ o = 4) with ro | ro | ro | ro | ro
   ·subst ro
    have f241 := (f233.keep q236_K (allS ge_b226 all0))
    have f242 := (f231.keep q236_K)
    have f243 := (f234.keep q236_K (ninS ne_b132_b226 nin0))
    have f244 := (f235.keep q236_K (ninS ne_b132_b226 nin0))
    have f245 := (f232.keep q236_K (ninS ne_x221_b226 nin0))
    obtain ⟨cq246, kq246, q246a, q246b, q246c⟩ := isOf hZ rfl q236_E
    obtain ⟨_, _, ⟨T246, L246, k246, n246⟩, -, X246, ⟨Lc246, hQ246, l246, y246, z246⟩, st246⟩ := X236.virtualBack hx (y := (⟨"com/example/subsume/subsume/model/Lines", "character", "(I)I"⟩ : MethodName)) (z := (⟨"com/example/subsume/subsume/model/Lines", "character", "(I)I"⟩ : MethodName)) hown (mvT hZ (own_w hw 80 rfl)) (mvT hZ (own_w hw 81 rfl)) (notFace_of_selects (args := #[]) (mvT hZ (own_w hw 83 rfl))) (mvT hZ (own_w hw 83 rfl)) (mvT hZ (own_w hw 82 rfl)) (by decide) (backOf (W := 0) (rm16_1_0 l Z a0 hw [] b226 b132 x221 x222 x103 x107 x111 x115 cs1 fm T236.heap n0 (Nat.le_trans Z0 K239.1) f241 G ra0 rb0 ra1 rb1 ra2 rb2 ra3 rb3 q236_t f242 f243 f244 f245) hZ (own_w hw 84 rfl) (own_w hw 38 rfl) (by decide) (by decide)) q246a q246c (g := (mkF m 88 #[.val (.int p1), .val (.int p2), .val (.int p3), .val (.int p4), .val (.int p5), .val (.int x103), .val (.int x107), .val (.int x111), .val (.int x115), .val (.ref b118), .val (.ref b132), .val (.int (0 : Int32)), .val (.ref b226), .unset, .unset, .unset] [(.int (0 : Int32)), (.ref b226)])) rfl (by rw [hml]; rfl) (Steps.refl _) (argsL := [(.int (0 : Int32))]) (rest := []) (lenOf pd11 rfl) rfl (by show 2 * 0 + _ ≤ _; exact Nat.le_of_eq rfl) (hb hby at_88) (fun _ _ => ⟨rfl, rfl, (by decide : 6 + 0 ≤ _), (by decide : 31 + 0 ≤ _)⟩)
    dsimp only [Pt.U, Pt.locs, Pt.cells, Pt.slots] at X246 l246 y246 z246 st246 hQ246
    subst l246 y246 z246
    obtain ⟨rfl, N246q, q246_hh⟩ := hQ246
    have N246 := Fr.app N236 N246q
    exact ⟨_, _, X246, q246_hh, N246, (gcT p240 st246)⟩
   ·subst ro
    have f247 := (f233.keep q236_K (allS ge_b226 all0))
    have f248 := (f231.keep q236_K)
    have f249 := (f234.keep q236_K (ninS ne_b132_b226 nin0))
    have f250 := (f235.keep q236_K (ninS ne_b132_b226 nin0))
    have f251 := (f232.keep q236_K (ninS ne_x221_b226 nin0))
    obtain ⟨cq252, kq252, q252a, q252b, q252c⟩ := isOf hZ rfl q236_E
    obtain ⟨_, _, ⟨T252, L252, k252, n252⟩, -, X252, ⟨Lc252, hQ252, l252, y252, z252⟩, st252⟩ := X236.virtualBack hx (y := (⟨"com/example/subsume/subsume/model/Lines", "character", "(I)I"⟩ : MethodName)) (z := (⟨"com/example/subsume/subsume/model/Lines", "character", "(I)I"⟩ : MethodName)) hown (mvT hZ (own_w hw 80 rfl)) (mvT hZ (own_w hw 81 rfl)) (notFace_of_selects (args := #[]) (mvT hZ (own_w hw 83 rfl))) (mvT hZ (own_w hw 83 rfl)) (mvT hZ (own_w hw 82 rfl)) (by decide) (backOf (W := 0) (rm16_1_1 l Z a0 hw [] b226 b132 x221 x222 x103 x107 x111 x115 cs1 fm T236.heap n0 (Nat.le_trans Z0 K239.1) f247 G ra0 rb0 ra1 rb1 ra2 rb2 ra3 rb3 q236_t f248 f249 f250 f251) hZ (own_w hw 84 rfl) (own_w hw 38 rfl) (by decide) (by decide)) q252a q252c (g := (mkF m 88 #[.val (.int p1), .val (.int p2), .val (.int p3), .val (.int p4), .val (.int p5), .val (.int x103), .val (.int x107), .val (.int x111), .val (.int x115), .val (.ref b118), .val (.ref b132), .val (.int (1 : Int32)), .val (.ref b226), .unset, .unset, .unset] [(.int (1 : Int32)), (.ref b226)])) rfl (by rw [hml]; rfl) (Steps.refl _) (argsL := [(.int (1 : Int32))]) (rest := []) (lenOf pd11 rfl) rfl (by show 2 * 0 + _ ≤ _; exact Nat.le_of_eq rfl) (hb hby at_88) (fun _ _ => ⟨rfl, rfl, (by decide : 6 + 0 ≤ _), (by decide : 31 + 0 ≤ _)⟩)
    dsimp only [Pt.U, Pt.locs, Pt.cells, Pt.slots] at X252 l252 y252 z252 st252 hQ252
    subst l252 y252 z252
    obtain ⟨rfl, N252q, q252_hh⟩ := hQ252
    have N252 := Fr.app N236 N252q
    exact ⟨_, _, X252, q252_hh, N252, (gcT p240 st252)⟩
   ·subst ro
    have f253 := (f233.keep q236_K (allS ge_b226 all0))
    have f254 := (f231.keep q236_K)
    have f255 := (f234.keep q236_K (ninS ne_b132_b226 nin0))
    have f256 := (f235.keep q236_K (ninS ne_b132_b226 nin0))
    have f257 := (f232.keep q236_K (ninS ne_x221_b226 nin0))
    obtain ⟨cq258, kq258, q258a, q258b, q258c⟩ := isOf hZ rfl q236_E
    obtain ⟨_, _, ⟨T258, L258, k258, n258⟩, -, X258, ⟨Lc258, hQ258, l258, y258, z258⟩, st258⟩ := X236.virtualBack hx (y := (⟨"com/example/subsume/subsume/model/Lines", "character", "(I)I"⟩ : MethodName)) (z := (⟨"com/example/subsume/subsume/model/Lines", "character", "(I)I"⟩ : MethodName)) hown (mvT hZ (own_w hw 80 rfl)) (mvT hZ (own_w hw 81 rfl)) (notFace_of_selects (args := #[]) (mvT hZ (own_w hw 83 rfl))) (mvT hZ (own_w hw 83 rfl)) (mvT hZ (own_w hw 82 rfl)) (by decide) (backOf (W := 0) (rm16_1_2 l Z a0 hw [] b226 b132 x221 x222 x103 x107 x111 x115 cs1 fm T236.heap n0 (Nat.le_trans Z0 K239.1) f253 G ra0 rb0 ra1 rb1 ra2 rb2 ra3 rb3 q236_t f254 f255 f256 f257) hZ (own_w hw 84 rfl) (own_w hw 38 rfl) (by decide) (by decide)) q258a q258c (g := (mkF m 88 #[.val (.int p1), .val (.int p2), .val (.int p3), .val (.int p4), .val (.int p5), .val (.int x103), .val (.int x107), .val (.int x111), .val (.int x115), .val (.ref b118), .val (.ref b132), .val (.int (2 : Int32)), .val (.ref b226), .unset, .unset, .unset] [(.int (2 : Int32)), (.ref b226)])) rfl (by rw [hml]; rfl) (Steps.refl _) (argsL := [(.int (2 : Int32))]) (rest := []) (lenOf pd11 rfl) rfl (by show 2 * 0 + _ ≤ _; exact Nat.le_of_eq rfl) (hb hby at_88) (fun _ _ => ⟨rfl, rfl, (by decide : 6 + 0 ≤ _), (by decide : 31 + 0 ≤ _)⟩)
    dsimp only [Pt.U, Pt.locs, Pt.cells, Pt.slots] at X258 l258 y258 z258 st258 hQ258
    subst l258 y258 z258
    obtain ⟨rfl, N258q, q258_hh⟩ := hQ258
    have N258 := Fr.app N236 N258q
    exact ⟨_, _, X258, q258_hh, N258, (gcT p240 st258)⟩
   ·subst ro
    have f259 := (f233.keep q236_K (allS ge_b226 all0))
    have f260 := (f231.keep q236_K)
    have f261 := (f234.keep q236_K (ninS ne_b132_b226 nin0))
    have f262 := (f235.keep q236_K (ninS ne_b132_b226 nin0))
    have f263 := (f232.keep q236_K (ninS ne_x221_b226 nin0))
    obtain ⟨cq264, kq264, q264a, q264b, q264c⟩ := isOf hZ rfl q236_E
    obtain ⟨_, _, ⟨T264, L264, k264, n264⟩, -, X264, ⟨Lc264, hQ264, l264, y264, z264⟩, st264⟩ := X236.virtualBack hx (y := (⟨"com/example/subsume/subsume/model/Lines", "character", "(I)I"⟩ : MethodName)) (z := (⟨"com/example/subsume/subsume/model/Lines", "character", "(I)I"⟩ : MethodName)) hown (mvT hZ (own_w hw 80 rfl)) (mvT hZ (own_w hw 81 rfl)) (notFace_of_selects (args := #[]) (mvT hZ (own_w hw 83 rfl))) (mvT hZ (own_w hw 83 rfl)) (mvT hZ (own_w hw 82 rfl)) (by decide) (backOf (W := 0) (rm16_1_3 l Z a0 hw [] b226 b132 x221 x222 x103 x107 x111 x115 cs1 fm T236.heap n0 (Nat.le_trans Z0 K239.1) f259 G ra0 rb0 ra1 rb1 ra2 rb2 ra3 rb3 q236_t f260 f261 f262 f263) hZ (own_w hw 84 rfl) (own_w hw 38 rfl) (by decide) (by decide)) q264a q264c (g := (mkF m 88 #[.val (.int p1), .val (.int p2), .val (.int p3), .val (.int p4), .val (.int p5), .val (.int x103), .val (.int x107), .val (.int x111), .val (.int x115), .val (.ref b118), .val (.ref b132), .val (.int (3 : Int32)), .val (.ref b226), .unset, .unset, .unset] [(.int (3 : Int32)), (.ref b226)])) rfl (by rw [hml]; rfl) (Steps.refl _) (argsL := [(.int (3 : Int32))]) (rest := []) (lenOf pd11 rfl) rfl (by show 2 * 0 + _ ≤ _; exact Nat.le_of_eq rfl) (hb hby at_88) (fun _ _ => ⟨rfl, rfl, (by decide : 6 + 0 ≤ _), (by decide : 31 + 0 ≤ _)⟩)
    dsimp only [Pt.U, Pt.locs, Pt.cells, Pt.slots] at X264 l264 y264 z264 st264 hQ264
    subst l264 y264 z264
    obtain ⟨rfl, N264q, q264_hh⟩ := hQ264
    have N264 := Fr.app N236 N264q
    exact ⟨_, _, X264, q264_hh, N264, (gcT p240 st264)⟩
   ·subst ro
    have f265 := (f233.keep q236_K (allS ge_b226 all0))
    have f266 := (f231.keep q236_K)
    have f267 := (f234.keep q236_K (ninS ne_b132_b226 nin0))
    have f268 := (f235.keep q236_K (ninS ne_b132_b226 nin0))
    have f269 := (f232.keep q236_K (ninS ne_x221_b226 nin0))
    obtain ⟨cq270, kq270, q270a, q270b, q270c⟩ := isOf hZ rfl q236_E
    obtain ⟨_, _, ⟨T270, L270, k270, n270⟩, -, X270, ⟨Lc270, hQ270, l270, y270, z270⟩, st270⟩ := X236.virtualBack hx (y := (⟨"com/example/subsume/subsume/model/Lines", "character", "(I)I"⟩ : MethodName)) (z := (⟨"com/example/subsume/subsume/model/Lines", "character", "(I)I"⟩ : MethodName)) hown (mvT hZ (own_w hw 80 rfl)) (mvT hZ (own_w hw 81 rfl)) (notFace_of_selects (args := #[]) (mvT hZ (own_w hw 83 rfl))) (mvT hZ (own_w hw 83 rfl)) (mvT hZ (own_w hw 82 rfl)) (by decide) (backOf (W := 0) (rm16_1_4 l Z a0 hw [] b226 b132 x221 x222 x103 x107 x111 x115 cs1 fm T236.heap n0 (Nat.le_trans Z0 K239.1) f265 G ra0 rb0 ra1 rb1 ra2 rb2 ra3 rb3 q236_t f266 f267 f268 f269) hZ (own_w hw 84 rfl) (own_w hw 38 rfl) (by decide) (by decide)) q270a q270c (g := (mkF m 88 #[.val (.int p1), .val (.int p2), .val (.int p3), .val (.int p4), .val (.int p5), .val (.int x103), .val (.int x107), .val (.int x111), .val (.int x115), .val (.ref b118), .val (.ref b132), .val (.int (4 : Int32)), .val (.ref b226), .unset, .unset, .unset] [(.int (4 : Int32)), (.ref b226)])) rfl (by rw [hml]; rfl) (Steps.refl _) (argsL := [(.int (4 : Int32))]) (rest := []) (lenOf pd11 rfl) rfl (by show 2 * 0 + _ ≤ _; exact Nat.le_of_eq rfl) (hb hby at_88) (fun _ _ => ⟨rfl, rfl, (by decide : 6 + 0 ≤ _), (by decide : 31 + 0 ≤ _)⟩)
    dsimp only [Pt.U, Pt.locs, Pt.cells, Pt.slots] at X270 l270 y270 z270 st270 hQ270
    subst l270 y270 z270
    obtain ⟨rfl, N270q, q270_hh⟩ := hQ270
    have N270 := Fr.app N236 N270q
    exact ⟨_, _, X270, q270_hh, N270, (gcT p240 st270)⟩
  have p271 : Go p.tables e below _ (Tm.setTop (mkF m 99 #[.val (.int p1), .val (.int p2), .val (.int p3), .val (.int p4), .val (.int p5), .val (.int x103), .val (.int x107), .val (.int x111), .val (.int x115), .val (.ref b118), .val (.ref b132), .val (.int o), .val (.ref b226), .val (.int (own_chv o x103 x107 x111 x115)), .val (.int (0 : Int32)), .unset] [(.int (2 : Int32)), (.int o)])) := fun t_ k_ => pm t_ (by
   refine XS.istore Xm.here hx rfl (hb hby at_91) rfl (l' := #[.val (.int p1), .val (.int p2), .val (.int p3), .val (.int p4), .val (.int p5), .val (.int x103), .val (.int x107), .val (.int x111), .val (.int x115), .val (.ref b118), .val (.ref b132), .val (.int o), .val (.ref b226), .val (.int (own_chv o x103 x107 x111 x115)), .unset, .unset]) rfl ?_
   refine XS.iconst Xm.here hx rfl (hb hby at_93) ?_
   refine XS.istore Xm.here hx rfl (hb hby at_94) rfl (l' := #[.val (.int p1), .val (.int p2), .val (.int p3), .val (.int p4), .val (.int p5), .val (.int x103), .val (.int x107), .val (.int x111), .val (.int x115), .val (.ref b118), .val (.ref b132), .val (.int o), .val (.ref b226), .val (.int (own_chv o x103 x107 x111 x115)), .val (.int (0 : Int32)), .unset]) rfl ?_
   refine XS.iload Xm.here hx rfl (hb hby at_96) rfl ?_
   refine XS.iconst Xm.here hx rfl (hb hby at_98) ?_
   exact k_)
  obtain ⟨T286, L286, X286, e286, N286, p286⟩ : ∃ (T' : State) (L' : List Loc), Stand p l e room_1 s m #[(.int p1), (.int p2), (.int p3), (.int p4), (.int p5)] below meth c T' L' 6 31 ∧ T'.heap = T236.heap ∧ Fr n0 L' ∧ Go p.tables e below (s₁.setTop (entryFrame m #[(.int p1), (.int p2), (.int p3), (.int p4), (.int p5)] maxLocals)) (T'.setTop (mkF m 121 #[.val (.int p1), .val (.int p2), .val (.int p3), .val (.int p4), .val (.int p5), .val (.int x103), .val (.int x107), .val (.int x111), .val (.int x115), .val (.ref b118), .val (.ref b132), .val (.int o), .val (.ref b226), .val (.int (own_chv o x103 x107 x111 x115)), .val (.int (if o < (2 : Int32) then (0 : Int32) else (if (own_hi x103) = (0 : Int32) then (0 : Int32) else (if (own_lo x107) = (0 : Int32) then (0 : Int32) else (1 : Int32))))), .unset] [])) := by
   by_cases c272 : o < (2 : Int32)
   ·have p273 : Go p.tables e below _ (Tm.setTop (mkF m 121 #[.val (.int p1), .val (.int p2), .val (.int p3), .val (.int p4), .val (.int p5), .val (.int x103), .val (.int x107), .val (.int x111), .val (.int x115), .val (.ref b118), .val (.ref b132), .val (.int o), .val (.ref b226), .val (.int (own_chv o x103 x107 x111 x115)), .val (.int (0 : Int32)), .unset] [])) := fun t_ k_ => p271 t_ (by
     refine XS.icmpYes Xm.here hx rfl (pc0 := 99) (pc' := 121) rfl (hb hby at_99) rfl (tlt c272).1 (by decide) (by decide) ?_
     exact k_)
    exact ⟨_, _, Xm, em, Nm, by simp only [if_pos c272]; exact p273⟩
   ·have p274 : Go p.tables e below _ (Tm.setTop (mkF m 102 #[.val (.int p1), .val (.int p2), .val (.int p3), .val (.int p4), .val (.int p5), .val (.int x103), .val (.int x107), .val (.int x111), .val (.int x115), .val (.ref b118), .val (.ref b132), .val (.int o), .val (.ref b226), .val (.int (own_chv o x103 x107 x111 x115)), .val (.int (0 : Int32)), .unset] [])) := fun t_ k_ => p271 t_ (by
     refine XS.icmpNo Xm.here hx rfl (hb hby at_99) rfl (flt c272).1 ?_
     exact k_)
    have p275 : Go p.tables e below _ (Tm.setTop (mkF m 104 #[.val (.int p1), .val (.int p2), .val (.int p3), .val (.int p4), .val (.int p5), .val (.int x103), .val (.int x107), .val (.int x111), .val (.int x115), .val (.ref b118), .val (.ref b132), .val (.int o), .val (.ref b226), .val (.int (own_chv o x103 x107 x111 x115)), .val (.int (0 : Int32)), .unset] [(.int x103)])) := fun t_ k_ => p274 t_ (by
     refine XS.iload Xm.here hx rfl (hb hby at_102) rfl ?_
     exact k_)
    obtain ⟨_, _, ⟨T276, L276, k276, n276⟩, -, X276, ⟨Lc276, hQ276, l276, y276, z276⟩, st276⟩ := Jvm.LawKit.callS Xm hx (y := (⟨"com/example/subsume/subsume/model/LinesCharacterPinLaw", "high", "(C)Z"⟩ : MethodName)) hown (mvT hZ (own_w hw 98 rfl)) (mvT hZ (own_w hw 99 rfl)) (mvT hZ (own_w hw 2 rfl)) (mvT hZ (own_w hw 100 rfl)) (by decide) (backOf (W := 0) (rm20 l Z a0 hw [] x103 T236.heap n0 (Nat.le_trans Z0 K239.1) ) hZ (own_w hw 100 rfl) (own_w hw 2 rfl) (by decide) (by decide)) (g := (mkF m 104 #[.val (.int p1), .val (.int p2), .val (.int p3), .val (.int p4), .val (.int p5), .val (.int x103), .val (.int x107), .val (.int x111), .val (.int x115), .val (.ref b118), .val (.ref b132), .val (.int o), .val (.ref b226), .val (.int (own_chv o x103 x107 x111 x115)), .val (.int (0 : Int32)), .unset] [(.int x103)])) rfl (by rw [hml]; rfl) (argsL := [(.int x103)]) (rest := []) (lenOf pd21 rfl) rfl (by show 2 * 0 + _ ≤ _; exact Nat.le_of_eq rfl) (hb hby at_104) (fun _ _ => ⟨rfl, em, (by decide : 6 + 0 ≤ _), (by decide : 31 + 0 ≤ _)⟩)
    dsimp only [Pt.U, Pt.locs, Pt.cells, Pt.slots] at X276 l276 y276 z276 st276 hQ276
    subst l276 y276 z276
    obtain ⟨rfl, N276q, q276_hh⟩ := hQ276
    have N276 := Fr.app Nm N276q
    by_cases c277 : (own_hi x103) = (0 : Int32)
    ·have p278 : Go p.tables e below _ (T276.setTop (mkF m 121 #[.val (.int p1), .val (.int p2), .val (.int p3), .val (.int p4), .val (.int p5), .val (.int x103), .val (.int x107), .val (.int x111), .val (.int x115), .val (.ref b118), .val (.ref b132), .val (.int o), .val (.ref b226), .val (.int (own_chv o x103 x107 x111 x115)), .val (.int (0 : Int32)), .unset] [])) := fun t_ k_ => (gc p275 st276) t_ (by
      refine XS.ifYes X276.here hx rfl (pc0 := 107) (pc' := 121) rfl (hb hby at_107) rfl ((if0 _ _).trans (teq c277).1) (by decide) (by decide) ?_
      exact k_)
     exact ⟨_, _, X276, q276_hh, N276, by simp only [if_neg c272, if_pos c277]; exact p278⟩
    ·have p279 : Go p.tables e below _ (T276.setTop (mkF m 110 #[.val (.int p1), .val (.int p2), .val (.int p3), .val (.int p4), .val (.int p5), .val (.int x103), .val (.int x107), .val (.int x111), .val (.int x115), .val (.ref b118), .val (.ref b132), .val (.int o), .val (.ref b226), .val (.int (own_chv o x103 x107 x111 x115)), .val (.int (0 : Int32)), .unset] [])) := fun t_ k_ => (gc p275 st276) t_ (by
      refine XS.ifNo X276.here hx rfl (hb hby at_107) rfl ((if0 _ _).trans (feq c277).1) ?_
      exact k_)
     have p280 : Go p.tables e below _ (T276.setTop (mkF m 112 #[.val (.int p1), .val (.int p2), .val (.int p3), .val (.int p4), .val (.int p5), .val (.int x103), .val (.int x107), .val (.int x111), .val (.int x115), .val (.ref b118), .val (.ref b132), .val (.int o), .val (.ref b226), .val (.int (own_chv o x103 x107 x111 x115)), .val (.int (0 : Int32)), .unset] [(.int x107)])) := fun t_ k_ => p279 t_ (by
      refine XS.iload X276.here hx rfl (hb hby at_110) rfl ?_
      exact k_)
     obtain ⟨_, _, ⟨T281, L281, k281, n281⟩, -, X281, ⟨Lc281, hQ281, l281, y281, z281⟩, st281⟩ := Jvm.LawKit.callS X276 hx (y := (⟨"com/example/subsume/subsume/model/LinesCharacterPinLaw", "low", "(C)Z"⟩ : MethodName)) hown (mvT hZ (own_w hw 149 rfl)) (mvT hZ (own_w hw 150 rfl)) (mvT hZ (own_w hw 2 rfl)) (mvT hZ (own_w hw 151 rfl)) (by decide) (backOf (W := 0) (rm33 l Z a0 hw [] x107 T236.heap n0 (Nat.le_trans Z0 K239.1) ) hZ (own_w hw 151 rfl) (own_w hw 2 rfl) (by decide) (by decide)) (g := (mkF m 112 #[.val (.int p1), .val (.int p2), .val (.int p3), .val (.int p4), .val (.int p5), .val (.int x103), .val (.int x107), .val (.int x111), .val (.int x115), .val (.ref b118), .val (.ref b132), .val (.int o), .val (.ref b226), .val (.int (own_chv o x103 x107 x111 x115)), .val (.int (0 : Int32)), .unset] [(.int x107)])) rfl (by rw [hml]; rfl) (argsL := [(.int x107)]) (rest := []) (lenOf pd21 rfl) rfl (by show 2 * 0 + _ ≤ _; exact Nat.le_of_eq rfl) (hb hby at_112) (fun _ _ => ⟨rfl, q276_hh, (by decide : 6 + 0 ≤ _), (by decide : 31 + 0 ≤ _)⟩)
     dsimp only [Pt.U, Pt.locs, Pt.cells, Pt.slots] at X281 l281 y281 z281 st281 hQ281
     subst l281 y281 z281
     obtain ⟨rfl, N281q, q281_hh⟩ := hQ281
     have N281 := Fr.app N276 N281q
     by_cases c282 : (own_lo x107) = (0 : Int32)
     ·have p283 : Go p.tables e below _ (T281.setTop (mkF m 121 #[.val (.int p1), .val (.int p2), .val (.int p3), .val (.int p4), .val (.int p5), .val (.int x103), .val (.int x107), .val (.int x111), .val (.int x115), .val (.ref b118), .val (.ref b132), .val (.int o), .val (.ref b226), .val (.int (own_chv o x103 x107 x111 x115)), .val (.int (0 : Int32)), .unset] [])) := fun t_ k_ => (gc p280 st281) t_ (by
       refine XS.ifYes X281.here hx rfl (pc0 := 115) (pc' := 121) rfl (hb hby at_115) rfl ((if0 _ _).trans (teq c282).1) (by decide) (by decide) ?_
       exact k_)
      exact ⟨_, _, X281, q281_hh, N281, by simp only [if_neg c272, if_neg c277, if_pos c282]; exact p283⟩
     ·have p284 : Go p.tables e below _ (T281.setTop (mkF m 118 #[.val (.int p1), .val (.int p2), .val (.int p3), .val (.int p4), .val (.int p5), .val (.int x103), .val (.int x107), .val (.int x111), .val (.int x115), .val (.ref b118), .val (.ref b132), .val (.int o), .val (.ref b226), .val (.int (own_chv o x103 x107 x111 x115)), .val (.int (0 : Int32)), .unset] [])) := fun t_ k_ => (gc p280 st281) t_ (by
       refine XS.ifNo X281.here hx rfl (hb hby at_115) rfl ((if0 _ _).trans (feq c282).1) ?_
       exact k_)
      have p285 : Go p.tables e below _ (T281.setTop (mkF m 121 #[.val (.int p1), .val (.int p2), .val (.int p3), .val (.int p4), .val (.int p5), .val (.int x103), .val (.int x107), .val (.int x111), .val (.int x115), .val (.ref b118), .val (.ref b132), .val (.int o), .val (.ref b226), .val (.int (own_chv o x103 x107 x111 x115)), .val (.int (1 : Int32)), .unset] [])) := fun t_ k_ => p284 t_ (by
       refine XS.iinc X281.here hx rfl (hb hby at_118) rfl (l' := #[.val (.int p1), .val (.int p2), .val (.int p3), .val (.int p4), .val (.int p5), .val (.int x103), .val (.int x107), .val (.int x111), .val (.int x115), .val (.ref b118), .val (.ref b132), .val (.int o), .val (.ref b226), .val (.int (own_chv o x103 x107 x111 x115)), .val (.int (1 : Int32)), .unset]) rfl ?_
       exact k_)
      exact ⟨_, _, X281, q281_hh, N281, by simp only [if_neg c272, if_neg c277, if_neg c282]; exact p285⟩
  obtain ⟨pr1, hpr1⟩ : ∃ z, z = (if o < (2 : Int32) then (0 : Int32) else (if (own_hi x103) = (0 : Int32) then (0 : Int32) else (if (own_lo x107) = (0 : Int32) then (0 : Int32) else (1 : Int32)))) := ⟨_, rfl⟩
  have p287 : Go p.tables e below (s₁.setTop (entryFrame m #[(.int p1), (.int p2), (.int p3), (.int p4), (.int p5)] maxLocals)) (T286.setTop (mkF m 121 #[.val (.int p1), .val (.int p2), .val (.int p3), .val (.int p4), .val (.int p5), .val (.int x103), .val (.int x107), .val (.int x111), .val (.int x115), .val (.ref b118), .val (.ref b132), .val (.int o), .val (.ref b226), .val (.int (own_chv o x103 x107 x111 x115)), .val (.int pr1), .unset] [])) := by rw [hpr1]; exact p286
  have p288 : Go p.tables e below _ (T286.setTop (mkF m 124 #[.val (.int p1), .val (.int p2), .val (.int p3), .val (.int p4), .val (.int p5), .val (.int x103), .val (.int x107), .val (.int x111), .val (.int x115), .val (.ref b118), .val (.ref b132), .val (.int o), .val (.ref b226), .val (.int (own_chv o x103 x107 x111 x115)), .val (.int pr1), .unset] [(.int (3 : Int32)), (.int o)])) := fun t_ k_ => p287 t_ (by
   refine XS.iload X286.here hx rfl (hb hby at_121) rfl ?_
   refine XS.iconst X286.here hx rfl (hb hby at_123) ?_
   exact k_)
  obtain ⟨T303, L303, X303, e303, N303, p303⟩ : ∃ (T' : State) (L' : List Loc), Stand p l e room_1 s m #[(.int p1), (.int p2), (.int p3), (.int p4), (.int p5)] below meth c T' L' 6 31 ∧ T'.heap = T236.heap ∧ Fr n0 L' ∧ Go p.tables e below (s₁.setTop (entryFrame m #[(.int p1), (.int p2), (.int p3), (.int p4), (.int p5)] maxLocals)) (T'.setTop (mkF m 146 #[.val (.int p1), .val (.int p2), .val (.int p3), .val (.int p4), .val (.int p5), .val (.int x103), .val (.int x107), .val (.int x111), .val (.int x115), .val (.ref b118), .val (.ref b132), .val (.int o), .val (.ref b226), .val (.int (own_chv o x103 x107 x111 x115)), .val (.int (if o < (3 : Int32) then pr1 else (if (own_hi x107) = (0 : Int32) then pr1 else (if (own_lo x111) = (0 : Int32) then pr1 else (pr1 + (1 : Int32)))))), .unset] [])) := by
   by_cases c289 : o < (3 : Int32)
   ·have p290 : Go p.tables e below _ (T286.setTop (mkF m 146 #[.val (.int p1), .val (.int p2), .val (.int p3), .val (.int p4), .val (.int p5), .val (.int x103), .val (.int x107), .val (.int x111), .val (.int x115), .val (.ref b118), .val (.ref b132), .val (.int o), .val (.ref b226), .val (.int (own_chv o x103 x107 x111 x115)), .val (.int pr1), .unset] [])) := fun t_ k_ => p288 t_ (by
     refine XS.icmpYes X286.here hx rfl (pc0 := 124) (pc' := 146) rfl (hb hby at_124) rfl (tlt c289).1 (by decide) (by decide) ?_
     exact k_)
    exact ⟨_, _, X286, e286, N286, by simp only [if_pos c289]; exact p290⟩
   ·have p291 : Go p.tables e below _ (T286.setTop (mkF m 127 #[.val (.int p1), .val (.int p2), .val (.int p3), .val (.int p4), .val (.int p5), .val (.int x103), .val (.int x107), .val (.int x111), .val (.int x115), .val (.ref b118), .val (.ref b132), .val (.int o), .val (.ref b226), .val (.int (own_chv o x103 x107 x111 x115)), .val (.int pr1), .unset] [])) := fun t_ k_ => p288 t_ (by
     refine XS.icmpNo X286.here hx rfl (hb hby at_124) rfl (flt c289).1 ?_
     exact k_)
    have p292 : Go p.tables e below _ (T286.setTop (mkF m 129 #[.val (.int p1), .val (.int p2), .val (.int p3), .val (.int p4), .val (.int p5), .val (.int x103), .val (.int x107), .val (.int x111), .val (.int x115), .val (.ref b118), .val (.ref b132), .val (.int o), .val (.ref b226), .val (.int (own_chv o x103 x107 x111 x115)), .val (.int pr1), .unset] [(.int x107)])) := fun t_ k_ => p291 t_ (by
     refine XS.iload X286.here hx rfl (hb hby at_127) rfl ?_
     exact k_)
    obtain ⟨_, _, ⟨T293, L293, k293, n293⟩, -, X293, ⟨Lc293, hQ293, l293, y293, z293⟩, st293⟩ := Jvm.LawKit.callS X286 hx (y := (⟨"com/example/subsume/subsume/model/LinesCharacterPinLaw", "high", "(C)Z"⟩ : MethodName)) hown (mvT hZ (own_w hw 98 rfl)) (mvT hZ (own_w hw 99 rfl)) (mvT hZ (own_w hw 2 rfl)) (mvT hZ (own_w hw 100 rfl)) (by decide) (backOf (W := 0) (rm20 l Z a0 hw [] x107 T236.heap n0 (Nat.le_trans Z0 K239.1) ) hZ (own_w hw 100 rfl) (own_w hw 2 rfl) (by decide) (by decide)) (g := (mkF m 129 #[.val (.int p1), .val (.int p2), .val (.int p3), .val (.int p4), .val (.int p5), .val (.int x103), .val (.int x107), .val (.int x111), .val (.int x115), .val (.ref b118), .val (.ref b132), .val (.int o), .val (.ref b226), .val (.int (own_chv o x103 x107 x111 x115)), .val (.int pr1), .unset] [(.int x107)])) rfl (by rw [hml]; rfl) (argsL := [(.int x107)]) (rest := []) (lenOf pd21 rfl) rfl (by show 2 * 0 + _ ≤ _; exact Nat.le_of_eq rfl) (hb hby at_129) (fun _ _ => ⟨rfl, e286, (by decide : 6 + 0 ≤ _), (by decide : 31 + 0 ≤ _)⟩)
    dsimp only [Pt.U, Pt.locs, Pt.cells, Pt.slots] at X293 l293 y293 z293 st293 hQ293
    subst l293 y293 z293
    obtain ⟨rfl, N293q, q293_hh⟩ := hQ293
    have N293 := Fr.app N286 N293q
    by_cases c294 : (own_hi x107) = (0 : Int32)
    ·have p295 : Go p.tables e below _ (T293.setTop (mkF m 146 #[.val (.int p1), .val (.int p2), .val (.int p3), .val (.int p4), .val (.int p5), .val (.int x103), .val (.int x107), .val (.int x111), .val (.int x115), .val (.ref b118), .val (.ref b132), .val (.int o), .val (.ref b226), .val (.int (own_chv o x103 x107 x111 x115)), .val (.int pr1), .unset] [])) := fun t_ k_ => (gc p292 st293) t_ (by
      refine XS.ifYes X293.here hx rfl (pc0 := 132) (pc' := 146) rfl (hb hby at_132) rfl ((if0 _ _).trans (teq c294).1) (by decide) (by decide) ?_
      exact k_)
     exact ⟨_, _, X293, q293_hh, N293, by simp only [if_neg c289, if_pos c294]; exact p295⟩
    ·have p296 : Go p.tables e below _ (T293.setTop (mkF m 135 #[.val (.int p1), .val (.int p2), .val (.int p3), .val (.int p4), .val (.int p5), .val (.int x103), .val (.int x107), .val (.int x111), .val (.int x115), .val (.ref b118), .val (.ref b132), .val (.int o), .val (.ref b226), .val (.int (own_chv o x103 x107 x111 x115)), .val (.int pr1), .unset] [])) := fun t_ k_ => (gc p292 st293) t_ (by
      refine XS.ifNo X293.here hx rfl (hb hby at_132) rfl ((if0 _ _).trans (feq c294).1) ?_
      exact k_)
     have p297 : Go p.tables e below _ (T293.setTop (mkF m 137 #[.val (.int p1), .val (.int p2), .val (.int p3), .val (.int p4), .val (.int p5), .val (.int x103), .val (.int x107), .val (.int x111), .val (.int x115), .val (.ref b118), .val (.ref b132), .val (.int o), .val (.ref b226), .val (.int (own_chv o x103 x107 x111 x115)), .val (.int pr1), .unset] [(.int x111)])) := fun t_ k_ => p296 t_ (by
      refine XS.iload X293.here hx rfl (hb hby at_135) rfl ?_
      exact k_)
     obtain ⟨_, _, ⟨T298, L298, k298, n298⟩, -, X298, ⟨Lc298, hQ298, l298, y298, z298⟩, st298⟩ := Jvm.LawKit.callS X293 hx (y := (⟨"com/example/subsume/subsume/model/LinesCharacterPinLaw", "low", "(C)Z"⟩ : MethodName)) hown (mvT hZ (own_w hw 149 rfl)) (mvT hZ (own_w hw 150 rfl)) (mvT hZ (own_w hw 2 rfl)) (mvT hZ (own_w hw 151 rfl)) (by decide) (backOf (W := 0) (rm33 l Z a0 hw [] x111 T236.heap n0 (Nat.le_trans Z0 K239.1) ) hZ (own_w hw 151 rfl) (own_w hw 2 rfl) (by decide) (by decide)) (g := (mkF m 137 #[.val (.int p1), .val (.int p2), .val (.int p3), .val (.int p4), .val (.int p5), .val (.int x103), .val (.int x107), .val (.int x111), .val (.int x115), .val (.ref b118), .val (.ref b132), .val (.int o), .val (.ref b226), .val (.int (own_chv o x103 x107 x111 x115)), .val (.int pr1), .unset] [(.int x111)])) rfl (by rw [hml]; rfl) (argsL := [(.int x111)]) (rest := []) (lenOf pd21 rfl) rfl (by show 2 * 0 + _ ≤ _; exact Nat.le_of_eq rfl) (hb hby at_137) (fun _ _ => ⟨rfl, q293_hh, (by decide : 6 + 0 ≤ _), (by decide : 31 + 0 ≤ _)⟩)
     dsimp only [Pt.U, Pt.locs, Pt.cells, Pt.slots] at X298 l298 y298 z298 st298 hQ298
     subst l298 y298 z298
     obtain ⟨rfl, N298q, q298_hh⟩ := hQ298
     have N298 := Fr.app N293 N298q
     by_cases c299 : (own_lo x111) = (0 : Int32)
     ·have p300 : Go p.tables e below _ (T298.setTop (mkF m 146 #[.val (.int p1), .val (.int p2), .val (.int p3), .val (.int p4), .val (.int p5), .val (.int x103), .val (.int x107), .val (.int x111), .val (.int x115), .val (.ref b118), .val (.ref b132), .val (.int o), .val (.ref b226), .val (.int (own_chv o x103 x107 x111 x115)), .val (.int pr1), .unset] [])) := fun t_ k_ => (gc p297 st298) t_ (by
       refine XS.ifYes X298.here hx rfl (pc0 := 140) (pc' := 146) rfl (hb hby at_140) rfl ((if0 _ _).trans (teq c299).1) (by decide) (by decide) ?_
       exact k_)
      exact ⟨_, _, X298, q298_hh, N298, by simp only [if_neg c289, if_neg c294, if_pos c299]; exact p300⟩
     ·have p301 : Go p.tables e below _ (T298.setTop (mkF m 143 #[.val (.int p1), .val (.int p2), .val (.int p3), .val (.int p4), .val (.int p5), .val (.int x103), .val (.int x107), .val (.int x111), .val (.int x115), .val (.ref b118), .val (.ref b132), .val (.int o), .val (.ref b226), .val (.int (own_chv o x103 x107 x111 x115)), .val (.int pr1), .unset] [])) := fun t_ k_ => (gc p297 st298) t_ (by
       refine XS.ifNo X298.here hx rfl (hb hby at_140) rfl ((if0 _ _).trans (feq c299).1) ?_
       exact k_)
      have p302 : Go p.tables e below _ (T298.setTop (mkF m 146 #[.val (.int p1), .val (.int p2), .val (.int p3), .val (.int p4), .val (.int p5), .val (.int x103), .val (.int x107), .val (.int x111), .val (.int x115), .val (.ref b118), .val (.ref b132), .val (.int o), .val (.ref b226), .val (.int (own_chv o x103 x107 x111 x115)), .val (.int (pr1 + (1 : Int32))), .unset] [])) := fun t_ k_ => p301 t_ (by
       refine XS.iinc X298.here hx rfl (hb hby at_143) rfl (l' := #[.val (.int p1), .val (.int p2), .val (.int p3), .val (.int p4), .val (.int p5), .val (.int x103), .val (.int x107), .val (.int x111), .val (.int x115), .val (.ref b118), .val (.ref b132), .val (.int o), .val (.ref b226), .val (.int (own_chv o x103 x107 x111 x115)), .val (.int (pr1 + (1 : Int32))), .unset]) rfl ?_
       exact k_)
      exact ⟨_, _, X298, q298_hh, N298, by simp only [if_neg c289, if_neg c294, if_neg c299]; exact p302⟩
  obtain ⟨pr2, hpr2⟩ : ∃ z, z = (if o < (3 : Int32) then pr1 else (if (own_hi x107) = (0 : Int32) then pr1 else (if (own_lo x111) = (0 : Int32) then pr1 else (pr1 + (1 : Int32))))) := ⟨_, rfl⟩
  have p304 : Go p.tables e below (s₁.setTop (entryFrame m #[(.int p1), (.int p2), (.int p3), (.int p4), (.int p5)] maxLocals)) (T303.setTop (mkF m 146 #[.val (.int p1), .val (.int p2), .val (.int p3), .val (.int p4), .val (.int p5), .val (.int x103), .val (.int x107), .val (.int x111), .val (.int x115), .val (.ref b118), .val (.ref b132), .val (.int o), .val (.ref b226), .val (.int (own_chv o x103 x107 x111 x115)), .val (.int pr2), .unset] [])) := by rw [hpr2]; exact p303
  have p305 : Go p.tables e below _ (T303.setTop (mkF m 149 #[.val (.int p1), .val (.int p2), .val (.int p3), .val (.int p4), .val (.int p5), .val (.int x103), .val (.int x107), .val (.int x111), .val (.int x115), .val (.ref b118), .val (.ref b132), .val (.int o), .val (.ref b226), .val (.int (own_chv o x103 x107 x111 x115)), .val (.int pr2), .unset] [(.int (4 : Int32)), (.int o)])) := fun t_ k_ => p304 t_ (by
   refine XS.iload X303.here hx rfl (hb hby at_146) rfl ?_
   refine XS.iconst X303.here hx rfl (hb hby at_148) ?_
   exact k_)
  obtain ⟨T320, L320, X320, e320, N320, p320⟩ : ∃ (T' : State) (L' : List Loc), Stand p l e room_1 s m #[(.int p1), (.int p2), (.int p3), (.int p4), (.int p5)] below meth c T' L' 6 31 ∧ T'.heap = T236.heap ∧ Fr n0 L' ∧ Go p.tables e below (s₁.setTop (entryFrame m #[(.int p1), (.int p2), (.int p3), (.int p4), (.int p5)] maxLocals)) (T'.setTop (mkF m 171 #[.val (.int p1), .val (.int p2), .val (.int p3), .val (.int p4), .val (.int p5), .val (.int x103), .val (.int x107), .val (.int x111), .val (.int x115), .val (.ref b118), .val (.ref b132), .val (.int o), .val (.ref b226), .val (.int (own_chv o x103 x107 x111 x115)), .val (.int (if o < (4 : Int32) then pr2 else (if (own_hi x111) = (0 : Int32) then pr2 else (if (own_lo x115) = (0 : Int32) then pr2 else (pr2 + (1 : Int32)))))), .unset] [])) := by
   by_cases c306 : o < (4 : Int32)
   ·have p307 : Go p.tables e below _ (T303.setTop (mkF m 171 #[.val (.int p1), .val (.int p2), .val (.int p3), .val (.int p4), .val (.int p5), .val (.int x103), .val (.int x107), .val (.int x111), .val (.int x115), .val (.ref b118), .val (.ref b132), .val (.int o), .val (.ref b226), .val (.int (own_chv o x103 x107 x111 x115)), .val (.int pr2), .unset] [])) := fun t_ k_ => p305 t_ (by
     refine XS.icmpYes X303.here hx rfl (pc0 := 149) (pc' := 171) rfl (hb hby at_149) rfl (tlt c306).1 (by decide) (by decide) ?_
     exact k_)
    exact ⟨_, _, X303, e303, N303, by simp only [if_pos c306]; exact p307⟩
   ·have p308 : Go p.tables e below _ (T303.setTop (mkF m 152 #[.val (.int p1), .val (.int p2), .val (.int p3), .val (.int p4), .val (.int p5), .val (.int x103), .val (.int x107), .val (.int x111), .val (.int x115), .val (.ref b118), .val (.ref b132), .val (.int o), .val (.ref b226), .val (.int (own_chv o x103 x107 x111 x115)), .val (.int pr2), .unset] [])) := fun t_ k_ => p305 t_ (by
     refine XS.icmpNo X303.here hx rfl (hb hby at_149) rfl (flt c306).1 ?_
     exact k_)
    have p309 : Go p.tables e below _ (T303.setTop (mkF m 154 #[.val (.int p1), .val (.int p2), .val (.int p3), .val (.int p4), .val (.int p5), .val (.int x103), .val (.int x107), .val (.int x111), .val (.int x115), .val (.ref b118), .val (.ref b132), .val (.int o), .val (.ref b226), .val (.int (own_chv o x103 x107 x111 x115)), .val (.int pr2), .unset] [(.int x111)])) := fun t_ k_ => p308 t_ (by
     refine XS.iload X303.here hx rfl (hb hby at_152) rfl ?_
     exact k_)
    obtain ⟨_, _, ⟨T310, L310, k310, n310⟩, -, X310, ⟨Lc310, hQ310, l310, y310, z310⟩, st310⟩ := Jvm.LawKit.callS X303 hx (y := (⟨"com/example/subsume/subsume/model/LinesCharacterPinLaw", "high", "(C)Z"⟩ : MethodName)) hown (mvT hZ (own_w hw 98 rfl)) (mvT hZ (own_w hw 99 rfl)) (mvT hZ (own_w hw 2 rfl)) (mvT hZ (own_w hw 100 rfl)) (by decide) (backOf (W := 0) (rm20 l Z a0 hw [] x111 T236.heap n0 (Nat.le_trans Z0 K239.1) ) hZ (own_w hw 100 rfl) (own_w hw 2 rfl) (by decide) (by decide)) (g := (mkF m 154 #[.val (.int p1), .val (.int p2), .val (.int p3), .val (.int p4), .val (.int p5), .val (.int x103), .val (.int x107), .val (.int x111), .val (.int x115), .val (.ref b118), .val (.ref b132), .val (.int o), .val (.ref b226), .val (.int (own_chv o x103 x107 x111 x115)), .val (.int pr2), .unset] [(.int x111)])) rfl (by rw [hml]; rfl) (argsL := [(.int x111)]) (rest := []) (lenOf pd21 rfl) rfl (by show 2 * 0 + _ ≤ _; exact Nat.le_of_eq rfl) (hb hby at_154) (fun _ _ => ⟨rfl, e303, (by decide : 6 + 0 ≤ _), (by decide : 31 + 0 ≤ _)⟩)
    dsimp only [Pt.U, Pt.locs, Pt.cells, Pt.slots] at X310 l310 y310 z310 st310 hQ310
    subst l310 y310 z310
    obtain ⟨rfl, N310q, q310_hh⟩ := hQ310
    have N310 := Fr.app N303 N310q
    by_cases c311 : (own_hi x111) = (0 : Int32)
    ·have p312 : Go p.tables e below _ (T310.setTop (mkF m 171 #[.val (.int p1), .val (.int p2), .val (.int p3), .val (.int p4), .val (.int p5), .val (.int x103), .val (.int x107), .val (.int x111), .val (.int x115), .val (.ref b118), .val (.ref b132), .val (.int o), .val (.ref b226), .val (.int (own_chv o x103 x107 x111 x115)), .val (.int pr2), .unset] [])) := fun t_ k_ => (gc p309 st310) t_ (by
      refine XS.ifYes X310.here hx rfl (pc0 := 157) (pc' := 171) rfl (hb hby at_157) rfl ((if0 _ _).trans (teq c311).1) (by decide) (by decide) ?_
      exact k_)
     exact ⟨_, _, X310, q310_hh, N310, by simp only [if_neg c306, if_pos c311]; exact p312⟩
    ·have p313 : Go p.tables e below _ (T310.setTop (mkF m 160 #[.val (.int p1), .val (.int p2), .val (.int p3), .val (.int p4), .val (.int p5), .val (.int x103), .val (.int x107), .val (.int x111), .val (.int x115), .val (.ref b118), .val (.ref b132), .val (.int o), .val (.ref b226), .val (.int (own_chv o x103 x107 x111 x115)), .val (.int pr2), .unset] [])) := fun t_ k_ => (gc p309 st310) t_ (by
      refine XS.ifNo X310.here hx rfl (hb hby at_157) rfl ((if0 _ _).trans (feq c311).1) ?_
      exact k_)
     have p314 : Go p.tables e below _ (T310.setTop (mkF m 162 #[.val (.int p1), .val (.int p2), .val (.int p3), .val (.int p4), .val (.int p5), .val (.int x103), .val (.int x107), .val (.int x111), .val (.int x115), .val (.ref b118), .val (.ref b132), .val (.int o), .val (.ref b226), .val (.int (own_chv o x103 x107 x111 x115)), .val (.int pr2), .unset] [(.int x115)])) := fun t_ k_ => p313 t_ (by
      refine XS.iload X310.here hx rfl (hb hby at_160) rfl ?_
      exact k_)
     obtain ⟨_, _, ⟨T315, L315, k315, n315⟩, -, X315, ⟨Lc315, hQ315, l315, y315, z315⟩, st315⟩ := Jvm.LawKit.callS X310 hx (y := (⟨"com/example/subsume/subsume/model/LinesCharacterPinLaw", "low", "(C)Z"⟩ : MethodName)) hown (mvT hZ (own_w hw 149 rfl)) (mvT hZ (own_w hw 150 rfl)) (mvT hZ (own_w hw 2 rfl)) (mvT hZ (own_w hw 151 rfl)) (by decide) (backOf (W := 0) (rm33 l Z a0 hw [] x115 T236.heap n0 (Nat.le_trans Z0 K239.1) ) hZ (own_w hw 151 rfl) (own_w hw 2 rfl) (by decide) (by decide)) (g := (mkF m 162 #[.val (.int p1), .val (.int p2), .val (.int p3), .val (.int p4), .val (.int p5), .val (.int x103), .val (.int x107), .val (.int x111), .val (.int x115), .val (.ref b118), .val (.ref b132), .val (.int o), .val (.ref b226), .val (.int (own_chv o x103 x107 x111 x115)), .val (.int pr2), .unset] [(.int x115)])) rfl (by rw [hml]; rfl) (argsL := [(.int x115)]) (rest := []) (lenOf pd21 rfl) rfl (by show 2 * 0 + _ ≤ _; exact Nat.le_of_eq rfl) (hb hby at_162) (fun _ _ => ⟨rfl, q310_hh, (by decide : 6 + 0 ≤ _), (by decide : 31 + 0 ≤ _)⟩)
     dsimp only [Pt.U, Pt.locs, Pt.cells, Pt.slots] at X315 l315 y315 z315 st315 hQ315
     subst l315 y315 z315
     obtain ⟨rfl, N315q, q315_hh⟩ := hQ315
     have N315 := Fr.app N310 N315q
     by_cases c316 : (own_lo x115) = (0 : Int32)
     ·have p317 : Go p.tables e below _ (T315.setTop (mkF m 171 #[.val (.int p1), .val (.int p2), .val (.int p3), .val (.int p4), .val (.int p5), .val (.int x103), .val (.int x107), .val (.int x111), .val (.int x115), .val (.ref b118), .val (.ref b132), .val (.int o), .val (.ref b226), .val (.int (own_chv o x103 x107 x111 x115)), .val (.int pr2), .unset] [])) := fun t_ k_ => (gc p314 st315) t_ (by
       refine XS.ifYes X315.here hx rfl (pc0 := 165) (pc' := 171) rfl (hb hby at_165) rfl ((if0 _ _).trans (teq c316).1) (by decide) (by decide) ?_
       exact k_)
      exact ⟨_, _, X315, q315_hh, N315, by simp only [if_neg c306, if_neg c311, if_pos c316]; exact p317⟩
     ·have p318 : Go p.tables e below _ (T315.setTop (mkF m 168 #[.val (.int p1), .val (.int p2), .val (.int p3), .val (.int p4), .val (.int p5), .val (.int x103), .val (.int x107), .val (.int x111), .val (.int x115), .val (.ref b118), .val (.ref b132), .val (.int o), .val (.ref b226), .val (.int (own_chv o x103 x107 x111 x115)), .val (.int pr2), .unset] [])) := fun t_ k_ => (gc p314 st315) t_ (by
       refine XS.ifNo X315.here hx rfl (hb hby at_165) rfl ((if0 _ _).trans (feq c316).1) ?_
       exact k_)
      have p319 : Go p.tables e below _ (T315.setTop (mkF m 171 #[.val (.int p1), .val (.int p2), .val (.int p3), .val (.int p4), .val (.int p5), .val (.int x103), .val (.int x107), .val (.int x111), .val (.int x115), .val (.ref b118), .val (.ref b132), .val (.int o), .val (.ref b226), .val (.int (own_chv o x103 x107 x111 x115)), .val (.int (pr2 + (1 : Int32))), .unset] [])) := fun t_ k_ => p318 t_ (by
       refine XS.iinc X315.here hx rfl (hb hby at_168) rfl (l' := #[.val (.int p1), .val (.int p2), .val (.int p3), .val (.int p4), .val (.int p5), .val (.int x103), .val (.int x107), .val (.int x111), .val (.int x115), .val (.ref b118), .val (.ref b132), .val (.int o), .val (.ref b226), .val (.int (own_chv o x103 x107 x111 x115)), .val (.int (pr2 + (1 : Int32))), .unset]) rfl ?_
       exact k_)
      exact ⟨_, _, X315, q315_hh, N315, by simp only [if_neg c306, if_neg c311, if_neg c316]; exact p319⟩
  obtain ⟨pr3, hpr3⟩ : ∃ z, z = (if o < (4 : Int32) then pr2 else (if (own_hi x111) = (0 : Int32) then pr2 else (if (own_lo x115) = (0 : Int32) then pr2 else (pr2 + (1 : Int32))))) := ⟨_, rfl⟩
  have p321 : Go p.tables e below (s₁.setTop (entryFrame m #[(.int p1), (.int p2), (.int p3), (.int p4), (.int p5)] maxLocals)) (T320.setTop (mkF m 171 #[.val (.int p1), .val (.int p2), .val (.int p3), .val (.int p4), .val (.int p5), .val (.int x103), .val (.int x107), .val (.int x111), .val (.int x115), .val (.ref b118), .val (.ref b132), .val (.int o), .val (.ref b226), .val (.int (own_chv o x103 x107 x111 x115)), .val (.int pr3), .unset] [])) := by rw [hpr3]; exact p320
  have p322 : Go p.tables e below _ (T320.setTop (mkF m 184 #[.val (.int p1), .val (.int p2), .val (.int p3), .val (.int p4), .val (.int p5), .val (.int x103), .val (.int x107), .val (.int x111), .val (.int x115), .val (.ref b118), .val (.ref b132), .val (.int o), .val (.ref b226), .val (.int (own_chv o x103 x107 x111 x115)), .val (.int pr3), .val (.int ((o - pr3) + (1 : Int32)))] [(.int ((o - pr3) + (1 : Int32))), (.int (own_chv o x103 x107 x111 x115))])) := fun t_ k_ => p321 t_ (by
   refine XS.iload X320.here hx rfl (hb hby at_171) rfl ?_
   refine XS.iload X320.here hx rfl (hb hby at_173) rfl ?_
   refine XS.isub X320.here hx rfl (hb hby at_175) rfl ?_
   refine XS.iconst X320.here hx rfl (hb hby at_176) ?_
   refine XS.iadd X320.here hx rfl (hb hby at_177) rfl ?_
   refine XS.istore X320.here hx rfl (hb hby at_178) rfl (l' := #[.val (.int p1), .val (.int p2), .val (.int p3), .val (.int p4), .val (.int p5), .val (.int x103), .val (.int x107), .val (.int x111), .val (.int x115), .val (.ref b118), .val (.ref b132), .val (.int o), .val (.ref b226), .val (.int (own_chv o x103 x107 x111 x115)), .val (.int pr3), .val (.int ((o - pr3) + (1 : Int32)))]) rfl ?_
   refine XS.iload X320.here hx rfl (hb hby at_180) rfl ?_
   refine XS.iload X320.here hx rfl (hb hby at_182) rfl ?_
   exact k_)
  have c323 : ((own_chv o x103 x107 x111 x115) = ((o - pr3) + (1 : Int32))) := own_fin (ho ▸ own_rem5 p5) hpr1 hpr2 hpr3
  have p324 : Go p.tables e below _ (T320.setTop (mkF m 192 #[.val (.int p1), .val (.int p2), .val (.int p3), .val (.int p4), .val (.int p5), .val (.int x103), .val (.int x107), .val (.int x111), .val (.int x115), .val (.ref b118), .val (.ref b132), .val (.int o), .val (.ref b226), .val (.int (own_chv o x103 x107 x111 x115)), .val (.int pr3), .val (.int ((o - pr3) + (1 : Int32)))] [(.int (1 : Int32))])) := fun t_ k_ => p322 t_ (by
   refine XS.icmpNo X320.here hx rfl (hb hby at_184) rfl (teq c323).2 ?_
   refine XS.iconst X320.here hx rfl (hb hby at_187) ?_
   refine XS.goto X320.here hx rfl (pc0 := 188) (pc' := 192) rfl (hb hby at_188) (by decide) (by decide) ?_
   exact k_)
  obtain ⟨fs, hr, hrun, hended, hW, hsame⟩ := X320.leave (v := some (.int (1 : Int32))) (fun h => by rw [Bd.returns] at h; cases h)
  refine ⟨_, _, p324 _ (retN X320 hx (t := .boolean) Bd.returns (by simp) (hb hby at_192) hr), hrun, hended, _, _, rfl, ?_, ⟨_, rfl⟩, hW, hsame.mono (by decide) (by decide)⟩
  show Q0 Z p1 p2 p3 p4 p5 cs1 fm h0 n0 _ T320.heap _
  rw [e320]
  exact ⟨rfl, N320⟩
set_option maxRecDepth 65536 in
set_option maxHeartbeats 40000000 in
theorem comes_1 {Post : Tables → Env → Array Value → State → Outcome → State → Prop} (hpost : ∀ tb e args s v u, (limb_1_1.after args s (.returned v) u = true ∧ limb_1_2.after args s (.returned v) u = true ∧ True) → FrameEnd s (.returned v) u (Jvm.fieldLocs frame_1_writes args s ++ Jvm.arrayLocs frame_1_arrays args s ++ Jvm.staticLocs frame_1_statics s) 24 128 → Post tb e args s (.returned v) u) :
    ArmFor flags0 classFile x code maxLocals ret World_1 tables_1 room_1 Calls_1 rest_1 Pre_1 Post := by
  intro l hfl _ _ p e ha hc hk s m args below hf hA hF happ hP
  obtain ⟨hcalls, hrest, hpre⟩ := hP
  obtain ⟨-, -, -, hnamed, -, -, -, hat⟩ := (Spec.applies_iff hf).mp happ
  obtain ⟨hg, hn⟩ := and_e (Cond.before_iff.mp (show (Jvm.Cond.and given_1 narrow_1).before args s = true from hpre))
  obtain ⟨ga, gb0⟩ := and_e hg
  obtain ⟨gi0, gb1⟩ := and_e gb0
  obtain ⟨gi1, gb2⟩ := and_e gb1
  obtain ⟨gi2, gb3⟩ := and_e gb2
  obtain ⟨gi3, gb4⟩ := and_e gb3
  have gi4 := gb4
  obtain ⟨w0, w1, w2, w3, w4, rfl⟩ : ∃ w0 w1 w2 w3 w4 : Value, args = #[w0, w1, w2, w3, w4] := by
    have hs : args.size = 5 := by simpa [Cond.value, given_1] using ga
    obtain ⟨L⟩ := args
    match L, hs with
    | [w0, w1, w2, w3, w4], _ => exact ⟨w0, w1, w2, w3, w4, rfl⟩
  have hw := fun d (hd : d ∈ tables_1) => atoms_spec (ws := Jvm.Cond.code x code maxLocals ret :: tables_1) hat d (List.mem_cons_of_mem _ hd)
  have hfit : Fit s := fun {y c} hc i hi => by
    obtain ⟨ha, rfl⟩ := Array.getElem?_eq_some_iff.mp hc
    have q := List.all_eq_true.mp ((Array.all_eq_true_iff_forall_mem.mp hF) _ (Array.getElem_mem ha)) i (List.mem_range.mpr hi)
    simpa [Array.getElem?_eq_getElem hi] using q
  obtain ⟨hsets, hown0⟩ := atoms_of _ (rest_1_c_eq ▸ (show rest_1_c.before _ s = true from hrest))
  have hr0 := Cond.before_iff.mp hown0
  obtain ⟨i0, ei0⟩ := is_v gi0
  obtain rfl : w0 = (.int i0) := Option.some.inj ei0
  obtain ⟨i1, ei1⟩ := is_v gi1
  obtain rfl : w1 = (.int i1) := Option.some.inj ei1
  obtain ⟨i2, ei2⟩ := is_v gi2
  obtain rfl : w2 = (.int i2) := Option.some.inj ei2
  obtain ⟨i3, ei3⟩ := is_v gi3
  obtain rfl : w3 = (.int i3) := Option.some.inj ei3
  obtain ⟨i4, ei4⟩ := is_v gi4
  obtain rfl : w4 = (.int i4) := Option.some.inj ei4
  obtain ⟨cs1, evc⟩ := is_v (Cond.before_iff.mp (hsets _ (List.mem_of_getElem? (i := 1) rfl)))
  have SC := Sta.start evc (Or.inl (hsets _ (List.mem_of_getElem? (i := 0) rfl)))
  have hcs : ¬ (cs1 = (0 : Int32)) := neqInt evc (Cond.before_iff.mp (hsets _ (List.mem_of_getElem? (i := 2) rfl)))
  obtain ⟨fm, evf, hfm⟩ := isR_v (Cond.before_iff.mp (hsets _ (List.mem_of_getElem? (i := 8) rfl)))
  have SF := Sta.start evf (Or.inl (hsets _ (List.mem_of_getElem? (i := 7) rfl)))
  have SA := Sta.start (eqInt (Cond.before_iff.mp (hsets _ (List.mem_of_getElem? (i := 12) rfl)))) (Or.inl (hsets _ (List.mem_of_getElem? (i := 11) rfl)))
  have SH := Sta.start (eqInt (Cond.before_iff.mp (hsets _ (List.mem_of_getElem? (i := 15) rfl)))) (Or.inl (hsets _ (List.mem_of_getElem? (i := 14) rfl)))
  have SO := Sta.start (eqInt (Cond.before_iff.mp (hsets _ (List.mem_of_getElem? (i := 18) rfl)))) (Or.inl (hsets _ (List.mem_of_getElem? (i := 17) rfl)))
  obtain ⟨n, o, h1, h2, h3, _, L, rfl, ⟨rfl, N⟩, hq⟩ := rm0 l s _ hw tables_1 i0 i1 i2 i3 i4 cs1 fm s.heap s.heap.size (Nat.le_refl _) (Old.start s) ⟨SC, hcs, SF, hfm, SA, SH, SO⟩ p e ha hc hk s m _ below hf ((Spec.applies_iff_loose hf).mp happ).1 ⟨rfl, State.Warmed39.refl s, rfl⟩ trivial
  refine ⟨n, _, h1, h2, h3, hpost _ _ _ _ _ _ ⟨Cond.after_iff.mpr rfl, Cond.after_iff.mpr (eq_i res_at (Term.int_eval (1)) rfl), trivial⟩ ⟨hq.1, hq.2.1, (hq.2.2.sift fun y hy => Or.inr (N y hy)).mono (by decide) (by decide)⟩⟩
theorem main_1_1 : Claimed_1_1 := comes_1 fun _ _ _ _ _ _ h hF => ⟨h.1, hF⟩
theorem main_1_2 : Claimed_1_2 := comes_1 fun _ _ _ _ _ _ h hF => ⟨h.2.1, hF⟩
end Jvm.Pilot.@@N@@
namespace Jvm.Pilot.@@N@@
open Jvm Jvm.ClassFile Sem Op Lib Jvm.Free Jvm.Stand Jvm.Pilot.@@N@@.Jvm.D
/-! MADE BY PROGRAM (witnessworld.py) out of the Statement's table words and the real class files: 22 classes; the members and pool entries that the words name. The judged class is class 1, her method 4. -/
namespace start1
open Jvm.ClassFile
def u (s : String) : CpInfo := .utf8 (stringToUtf16 s)
/-- a pool by its gaps: so many unusable entries, then the entry; so many at the end -/
def gap : Nat → List CpInfo → List CpInfo
  | 0, r => r
  | n + 1, r => .unusable :: gap n r
def poolList (es : List (Nat × CpInfo)) (last : Nat) : List CpInfo := es.foldr (fun e r => gap e.1 (e.2 :: r)) (gap last [])
def pool (es : List (Nat × CpInfo)) (last : Nat) : Array CpInfo := ⟨poolList es last⟩
def fileOf (pool : Array CpInfo) (this : Nat) (attrs : Array Attribute := #[]) (ms : Array MethodInfo := #[]) (fl : Nat := 33) (sup : Nat := 0) (ifs : Array Nat := #[]) (fds : Array FieldInfo := #[]) : ClassFile where
  minorVersion := 0
  majorVersion := 65
  constantPool := pool
  accessFlags := fl
  thisClass := this
  superClass := sup
  interfaces := ifs
  fields := fds
  methods := ms
  attributes := attrs
def plain (name : String) (sup : Option ClassId) : Class where
  name := name
  kind := .ordinary
  loader := none
  accessFlags := 33
  super := sup
  interfaces := #[]
  cf := none
  fields := #[]
  methods := #[]
  instanceTypes := #[]
  staticTypes := #[]
  resolved := #[]
  callSites := []
  init := .initialized
  statics := none
  mirror := none

def pool0 : Array CpInfo := pool [(5, u "<init>"), (0, u "()V"), (1, .class_ 10), (1, u "java/lang/Object")] 113

def k0c0 : Code := { maxStack := 0, maxLocals := 1, code := object_method_1_code, exceptionTable := #[], attributes := #[] }
def k0m0 : Method := { name := "<init>", desc := "()V", sig := { parameters := [], returnType := none }, accessFlags := 1, code := some k0c0 }
/-- java/lang/Object -/
def k0 : Class := { plain "java/lang/Object" none with
  accessFlags := 33
  interfaces := #[]
  cf := some (fileOf pool0 8 #[] #[{ accessFlags := 1, nameIndex := 5, descriptorIndex := 6, attributes := #[] }] 33 0 #[] #[])
  fields := #[]
  methods := #[k0m0]
  instanceTypes := #[]
  staticTypes := #[]
  resolved := Array.replicate 124 none
  statics := none }

def pool1 : Array CpInfo := pool [(2, .class_ 4), (1, u "java/lang/Object"), (0, u "<init>"), (0, u "()V"), (0, .integer 65535), (0, .integer 55296), (0, .integer 56320), (0, .integer 56319), (0, .integer 57343), (0, .methodref 13 14), (0, .class_ 15), (0, .nameAndType 16 17), (0, u "com/example/subsume/subsume/model/LinesCharacterPinLaw"), (0, u "draw"), (0, u "(I)C"), (0, .class_ 19), (0, u "java/lang/String"), (0, .methodref 18 21), (0, .nameAndType 5 22), (0, u "([C)V"), (0, .integer 2147483647), (0, .class_ 25), (0, u "com/example/subsume/subsume/model/Lines"), (0, .methodref 24 27), (0, .nameAndType 5 28), (0, u "(Ljava/lang/String;)V"), (0, .methodref 24 30), (0, .nameAndType 31 32), (0, u "character"), (0, u "(I)I"), (0, .methodref 13 34), (0, .nameAndType 35 36), (0, u "high"), (0, u "(C)Z"), (0, .methodref 13 38), (0, .nameAndType 39 36), (0, u "low"), (3, u "law"), (0, u "(IIIII)Z")] 4

def k1m0 : Method := { name := "<init>", desc := "()V", sig := { parameters := [], returnType := none }, accessFlags := 1, code := none }
def k1c1 : Code := { maxStack := 2, maxLocals := 3, code := method_2_code, exceptionTable := #[], attributes := #[] }
def k1m1 : Method := { name := "draw", desc := "(I)C", sig := { parameters := [.int], returnType := some .char }, accessFlags := 10, code := some k1c1 }
def k1c2 : Code := { maxStack := 2, maxLocals := 1, code := method_3_code, exceptionTable := #[], attributes := #[] }
def k1m2 : Method := { name := "high", desc := "(C)Z", sig := { parameters := [.char], returnType := some .boolean }, accessFlags := 10, code := some k1c2 }
def k1c3 : Code := { maxStack := 2, maxLocals := 1, code := method_4_code, exceptionTable := #[], attributes := #[] }
def k1m3 : Method := { name := "low", desc := "(C)Z", sig := { parameters := [.char], returnType := some .boolean }, accessFlags := 10, code := some k1c3 }
def k1c4 : Code := { maxStack := 3, maxLocals := 16, code := code, exceptionTable := #[], attributes := #[] }
def k1m4 : Method := { name := "law", desc := "(IIIII)Z", sig := { parameters := [.int, .int, .int, .int, .int], returnType := some .boolean }, accessFlags := 9, code := some k1c4 }
/-- com/example/subsume/subsume/model/LinesCharacterPinLaw -/
def k1 : Class := { plain "com/example/subsume/subsume/model/LinesCharacterPinLaw" (some 0) with
  accessFlags := 49
  interfaces := #[]
  cf := some (fileOf pool1 13 #[] #[{ accessFlags := 1, nameIndex := 5, descriptorIndex := 6, attributes := #[] }, { accessFlags := 10, nameIndex := 16, descriptorIndex := 17, attributes := #[] }, { accessFlags := 10, nameIndex := 35, descriptorIndex := 36, attributes := #[] }, { accessFlags := 10, nameIndex := 39, descriptorIndex := 36, attributes := #[] }, { accessFlags := 9, nameIndex := 43, descriptorIndex := 44, attributes := #[] }] 49 2 #[] #[])
  fields := #[]
  methods := #[k1m0, k1m1, k1m2, k1m3, k1m4]
  instanceTypes := #[]
  staticTypes := #[]
  resolved := Array.replicate 49 none
  statics := none }

def pool2 : Array CpInfo := pool [(1, .class_ 2), (0, u "java/io/Serializable"), (0, .class_ 4), (0, u "java/lang/Object")] 2

/-- java/io/Serializable -/
def k2 : Class := { plain "java/io/Serializable" (some 0) with
  accessFlags := 1537
  interfaces := #[]
  cf := some (fileOf pool2 1 #[] #[] 1537 3 #[] #[])
  fields := #[]
  methods := #[]
  instanceTypes := #[]
  staticTypes := #[]
  resolved := Array.replicate 7 none
  statics := none }

def pool3 : Array CpInfo := pool [(1, .class_ 2), (0, u "java/lang/Comparable"), (0, .class_ 4), (0, u "java/lang/Object")] 7

/-- java/lang/Comparable -/
def k3 : Class := { plain "java/lang/Comparable" (some 0) with
  accessFlags := 1537
  interfaces := #[]
  cf := some (fileOf pool3 1 #[] #[] 1537 3 #[] #[])
  fields := #[]
  methods := #[]
  instanceTypes := #[]
  staticTypes := #[]
  resolved := Array.replicate 12 none
  statics := none }

def pool4 : Array CpInfo := pool [(2, .class_ 4), (1, u "java/lang/CharSequence"), (42, .class_ 48), (0, u "java/lang/CharSequence$1CodePointIterator"), (10, .class_ 60), (0, u "java/lang/CharSequence$1CharIterator"), (5, .class_ 67), (0, u "java/lang/Object")] 63

/-- java/lang/CharSequence -/
def k4 : Class := { plain "java/lang/CharSequence" (some 0) with
  accessFlags := 1537
  interfaces := #[]
  cf := some (fileOf pool4 2 #[.nestMembers #[47, 59]] #[] 1537 66 #[] #[])
  fields := #[]
  methods := #[]
  instanceTypes := #[]
  staticTypes := #[]
  resolved := Array.replicate 131 none
  statics := none }

def pool5 : Array CpInfo := pool [(1, .class_ 2), (0, u "java/lang/constant/Constable"), (0, .class_ 4), (0, u "java/lang/Object")] 6

/-- java/lang/constant/Constable -/
def k5 : Class := { plain "java/lang/constant/Constable" (some 0) with
  accessFlags := 1537
  interfaces := #[]
  cf := some (fileOf pool5 1 #[] #[] 1537 3 #[] #[])
  fields := #[]
  methods := #[]
  instanceTypes := #[]
  staticTypes := #[]
  resolved := Array.replicate 11 none
  statics := none }

def pool6 : Array CpInfo := pool [(1, .class_ 2), (0, u "java/lang/constant/ConstantDesc"), (0, .class_ 4), (0, u "java/lang/Object")] 32

/-- java/lang/constant/ConstantDesc -/
def k6 : Class := { plain "java/lang/constant/ConstantDesc" (some 0) with
  accessFlags := 1537
  interfaces := #[]
  cf := some (fileOf pool6 1 #[] #[] 1537 3 #[] #[])
  fields := #[]
  methods := #[]
  instanceTypes := #[]
  staticTypes := #[]
  resolved := Array.replicate 37 none
  statics := none }

def pool7 : Array CpInfo := pool [(1, .methodref 2 3), (0, .class_ 4), (0, .nameAndType 5 6), (0, u "java/lang/Object"), (0, u "<init>"), (0, u "()V"), (2, .fieldref 10 11), (0, .class_ 12), (0, .nameAndType 13 14), (0, u "java/lang/String"), (0, u "value"), (0, u "[B"), (0, .fieldref 10 16), (0, .nameAndType 17 18), (0, u "coder"), (0, u "B"), (2, u "hash"), (0, u "I"), (2, u "hashIsZero"), (0, u "Z"), (0, .methodref 10 28), (0, .nameAndType 5 29), (0, u "([CIILjava/lang/Void;)V"), (7, u "(III)I"), (0, .fieldref 10 39), (0, .nameAndType 40 26), (0, u "COMPACT_STRINGS"), (1, .class_ 44), (1, u "java/lang/StringUTF16"), (0, u "compress"), (1, .methodref 42 48), (0, .nameAndType 49 50), (0, u "coderFromArrayLen"), (0, u "([BI)B"), (28, .class_ 81), (1, u "java/util/Objects"), (15, u "([BII)I"), (9, .class_ 109), (1, u "java/lang/StringLatin1"), (32, u "()Z"), (34, .methodref 42 178), (0, .nameAndType 45 179), (0, u "([CII)[B"), (154, u "()I"), (0, .methodref 10 336), (0, .nameAndType 17 337), (0, u "()B"), (25, u "([BI)C"), (27, u "(II)V"), (35, u "(I)C"), (64, .methodref 10 493), (0, .nameAndType 494 142), (0, u "isLatin1"), (0, .methodref 107 496), (0, .nameAndType 497 363), (0, u "charAt"), (0, .methodref 42 496), (2, u "checkIndex"), (3, .methodref 10 506), (0, .nameAndType 507 334), (0, u "length"), (3, .methodref 79 512), (0, .nameAndType 513 37), (0, u "checkFromToIndex"), (0, .methodref 42 515), (0, .nameAndType 516 97), (0, u "codePointCount"), (58, .class_ 576), (0, u "java/lang/CharSequence"), (22, u "CASE_INSENSITIVE_ORDER"), (0, u "Ljava/util/Comparator;"), (35, u "(II)I"), (373, u "([C)V"), (42, .fieldref 1054 1055), (0, .class_ 1056), (0, .nameAndType 1057 1058), (0, u "jdk/internal/util/Preconditions"), (0, u "SIOOBE_FORMATTER"), (0, u "Ljava/util/function/BiFunction;"), (0, .methodref 1054 1060), (0, .nameAndType 501 1061), (0, u "(IILjava/util/function/BiFunction;)I"), (39, u "serialPersistentFields"), (0, u "[Ljava/io/ObjectStreamField;"), (0, .class_ 1104), (0, u "java/lang/String$CaseInsensitiveComparator"), (1, .class_ 1107), (0, u "java/io/Serializable"), (0, .class_ 1109), (0, u "java/lang/Comparable"), (0, .class_ 1111), (0, u "java/lang/constant/Constable"), (0, .class_ 1113), (0, u "java/lang/constant/ConstantDesc"), (2, u "serialVersionUID"), (0, u "J"), (3, u "REPL"), (0, u "C"), (2, u "LATIN1"), (1, u "UTF16")] 323

def k7m0 : Method := { name := "<init>", desc := "()V", sig := { parameters := [], returnType := none }, accessFlags := 1, code := none }
def k7c1 : Code := { maxStack := 5, maxLocals := 2, code := jdk_42_method_3_code, exceptionTable := #[], attributes := #[] }
def k7m1 : Method := { name := "<init>", desc := "([C)V", sig := { parameters := [(.array .char)], returnType := none }, accessFlags := 1, code := some k7c1 }
def k7c2 : Code := { maxStack := 2, maxLocals := 1, code := jdk_42_method_54_code, exceptionTable := #[], attributes := #[] }
def k7m2 : Method := { name := "length", desc := "()I", sig := { parameters := [], returnType := some .int }, accessFlags := 1, code := some k7c2 }
def k7c3 : Code := { maxStack := 2, maxLocals := 2, code := jdk_42_method_56_code, exceptionTable := #[], attributes := #[] }
def k7m3 : Method := { name := "charAt", desc := "(I)C", sig := { parameters := [.int], returnType := some .char }, accessFlags := 1, code := some k7c3 }
def k7c4 : Code := { maxStack := 3, maxLocals := 3, code := jdk_42_method_59_code, exceptionTable := #[], attributes := #[] }
def k7m4 : Method := { name := "codePointCount", desc := "(II)I", sig := { parameters := [.int, .int], returnType := some .int }, accessFlags := 1, code := some k7c4 }
def k7c5 : Code := { maxStack := 4, maxLocals := 6, code := jdk_42_method_149_code, exceptionTable := #[], attributes := #[] }
def k7m5 : Method := { name := "<init>", desc := "([CIILjava/lang/Void;)V", sig := { parameters := [(.array .char), .int, .int, (.object "java/lang/Void")], returnType := none }, accessFlags := 2, code := some k7c5 }
def k7c6 : Code := { maxStack := 1, maxLocals := 1, code := jdk_42_method_152_code, exceptionTable := #[], attributes := #[] }
def k7m6 : Method := { name := "coder", desc := "()B", sig := { parameters := [], returnType := some .byte }, accessFlags := 0, code := some k7c6 }
def k7c7 : Code := { maxStack := 1, maxLocals := 1, code := jdk_42_method_154_code, exceptionTable := #[], attributes := #[] }
def k7m7 : Method := { name := "isLatin1", desc := "()Z", sig := { parameters := [], returnType := some .boolean }, accessFlags := 0, code := some k7c7 }
def k7c8 : Code := { maxStack := 3, maxLocals := 2, code := jdk_42_method_155_code, exceptionTable := #[], attributes := #[] }
def k7m8 : Method := { name := "checkIndex", desc := "(II)V", sig := { parameters := [.int, .int], returnType := none }, accessFlags := 8, code := some k7c8 }
/-- java/lang/String -/
def k7 : Class := { plain "java/lang/String" (some 0) with
  accessFlags := 49
  interfaces := #[2, 3, 4, 5, 6]
  cf := some (fileOf pool7 10 #[.nestMembers #[1103]] #[{ accessFlags := 1, nameIndex := 5, descriptorIndex := 6, attributes := #[] }, { accessFlags := 1, nameIndex := 5, descriptorIndex := 1010, attributes := #[] }, { accessFlags := 1, nameIndex := 507, descriptorIndex := 334, attributes := #[] }, { accessFlags := 1, nameIndex := 497, descriptorIndex := 427, attributes := #[] }, { accessFlags := 1, nameIndex := 516, descriptorIndex := 636, attributes := #[] }, { accessFlags := 2, nameIndex := 5, descriptorIndex := 29, attributes := #[] }, { accessFlags := 0, nameIndex := 17, descriptorIndex := 337, attributes := #[] }, { accessFlags := 0, nameIndex := 494, descriptorIndex := 142, attributes := #[] }, { accessFlags := 8, nameIndex := 501, descriptorIndex := 391, attributes := #[] }] 49 2 #[1106, 1108, 575, 1110, 1112] #[{ accessFlags := 18, nameIndex := 13, descriptorIndex := 14, attributes := #[] }, { accessFlags := 18, nameIndex := 17, descriptorIndex := 18, attributes := #[] }, { accessFlags := 2, nameIndex := 21, descriptorIndex := 22, attributes := #[] }, { accessFlags := 2, nameIndex := 25, descriptorIndex := 26, attributes := #[] }, { accessFlags := 26, nameIndex := 1116, descriptorIndex := 1117, attributes := #[] }, { accessFlags := 24, nameIndex := 40, descriptorIndex := 26, attributes := #[] }, { accessFlags := 26, nameIndex := 1101, descriptorIndex := 1102, attributes := #[] }, { accessFlags := 26, nameIndex := 1121, descriptorIndex := 1122, attributes := #[] }, { accessFlags := 25, nameIndex := 599, descriptorIndex := 600, attributes := #[] }, { accessFlags := 24, nameIndex := 1125, descriptorIndex := 18, attributes := #[] }, { accessFlags := 24, nameIndex := 1127, descriptorIndex := 18, attributes := #[] }])
  fields := #[{ name := "value", type := (.array .byte), accessFlags := 18, slot := 0, constantValue := 0 }, { name := "coder", type := .byte, accessFlags := 18, slot := 1, constantValue := 0 }, { name := "hash", type := .int, accessFlags := 2, slot := 2, constantValue := 0 }, { name := "hashIsZero", type := .boolean, accessFlags := 2, slot := 3, constantValue := 0 }, { name := "serialVersionUID", type := .long, accessFlags := 26, slot := 0, constantValue := 0 }, { name := "COMPACT_STRINGS", type := .boolean, accessFlags := 24, slot := 1, constantValue := 0 }, { name := "serialPersistentFields", type := (.array (.object "java/io/ObjectStreamField")), accessFlags := 26, slot := 2, constantValue := 0 }, { name := "REPL", type := .char, accessFlags := 26, slot := 3, constantValue := 0 }, { name := "CASE_INSENSITIVE_ORDER", type := (.object "java/util/Comparator"), accessFlags := 25, slot := 4, constantValue := 0 }, { name := "LATIN1", type := .byte, accessFlags := 24, slot := 5, constantValue := 0 }, { name := "UTF16", type := .byte, accessFlags := 24, slot := 6, constantValue := 0 }]
  methods := #[k7m0, k7m1, k7m2, k7m3, k7m4, k7m5, k7m6, k7m7, k7m8]
  instanceTypes := #[(.array .byte), .byte, .int, .boolean]
  staticTypes := #[.long, .boolean, (.array (.object "java/io/ObjectStreamField")), .char, (.object "java/util/Comparator"), .byte, .byte]
  resolved := Array.replicate 1451 none
  statics := some 0 }

def pool8 : Array CpInfo := pool [(3, .class_ 4), (0, u "java/lang/String"), (1, .class_ 8), (1, u "java/lang/Object"), (0, u "<init>"), (0, u "()V"), (0, .methodref 12 13), (0, .class_ 14), (0, .nameAndType 15 16), (0, u "java/lang/StringUTF16"), (0, u "newBytesLength"), (0, u "(I)I"), (3, .integer 1073741823), (23, .fieldref 12 45), (0, .nameAndType 46 47), (0, u "$assertionsDisabled"), (0, u "Z"), (0, .methodref 12 49), (0, .nameAndType 50 51), (0, u "length"), (0, u "([B)I"), (7, .fieldref 12 60), (0, .nameAndType 61 62), (0, u "HI_BYTE_SHIFT"), (0, u "I"), (0, .fieldref 12 64), (0, .nameAndType 65 62), (0, u "LO_BYTE_SHIFT"), (1, .methodref 12 68), (0, .nameAndType 69 70), (0, u "checkIndex"), (0, u "(I[B)V"), (0, .methodref 12 72), (0, .nameAndType 73 74), (0, u "getChar"), (0, u "([BI)C"), (0, .methodref 76 77), (0, .class_ 78), (0, .nameAndType 79 80), (0, u "java/lang/Character"), (0, u "isHighSurrogate"), (0, u "(C)Z"), (0, .methodref 76 82), (0, .nameAndType 83 80), (0, u "isLowSurrogate"), (7, u "([BIIZ)I"), (8, .methodref 12 101), (0, .nameAndType 102 91), (0, u "codePointCount"), (4, .methodref 12 108), (0, .nameAndType 109 110), (0, u "newBytesFor"), (0, u "(I)[B"), (0, .methodref 12 112), (0, .nameAndType 113 114), (0, u "putChar"), (0, u "([BII)V"), (0, .methodref 12 116), (0, .nameAndType 117 118), (0, u "compress"), (0, u "([CI[BII)I"), (0, .methodref 12 120), (0, .nameAndType 121 122), (0, u "toBytes"), (0, u "([CII)[B"), (127, u "([BII)I"), (10, u "coderFromArrayLen"), (0, u "([BI)B"), (106, .class_ 371), (1, u "java/lang/StringUTF16$LinesSpliterator"), (20, u "charAt"), (21, .methodref 3 415), (0, .nameAndType 69 416), (0, u "(II)V"), (13, u "MAX_LENGTH"), (196, .class_ 628), (0, u "java/lang/StringUTF16$CodePointsSpliterator"), (0, .class_ 630), (0, u "java/lang/StringUTF16$CharsSpliterator")] 4

def k8m0 : Method := { name := "<init>", desc := "()V", sig := { parameters := [], returnType := none }, accessFlags := 0, code := none }
def k8c1 : Code := { maxStack := 1, maxLocals := 1, code := jdk_52_method_2_code, exceptionTable := #[], attributes := #[] }
def k8m1 : Method := { name := "newBytesFor", desc := "(I)[B", sig := { parameters := [.int], returnType := some (.array .byte) }, accessFlags := 9, code := some k8c1 }
def k8c2 : Code := { maxStack := 4, maxLocals := 1, code := jdk_52_method_3_code, exceptionTable := #[], attributes := #[] }
def k8m2 : Method := { name := "newBytesLength", desc := "(I)I", sig := { parameters := [.int], returnType := some .int }, accessFlags := 9, code := some k8c2 }
def k8c3 : Code := { maxStack := 4, maxLocals := 3, code := jdk_52_method_4_code, exceptionTable := #[], attributes := #[] }
def k8m3 : Method := { name := "putChar", desc := "([BII)V", sig := { parameters := [(.array .byte), .int, .int], returnType := none }, accessFlags := 8, code := some k8c3 }
def k8c4 : Code := { maxStack := 3, maxLocals := 2, code := jdk_52_method_5_code, exceptionTable := #[], attributes := #[] }
def k8m4 : Method := { name := "getChar", desc := "([BI)C", sig := { parameters := [(.array .byte), .int], returnType := some .char }, accessFlags := 8, code := some k8c4 }
def k8c5 : Code := { maxStack := 2, maxLocals := 1, code := jdk_52_method_6_code, exceptionTable := #[], attributes := #[] }
def k8m5 : Method := { name := "length", desc := "([B)I", sig := { parameters := [(.array .byte)], returnType := some .int }, accessFlags := 9, code := some k8c5 }
def k8c6 : Code := { maxStack := 3, maxLocals := 6, code := jdk_52_method_11_code, exceptionTable := #[], attributes := #[] }
def k8m6 : Method := { name := "codePointCount", desc := "([BIIZ)I", sig := { parameters := [(.array .byte), .int, .int, .boolean], returnType := some .int }, accessFlags := 10, code := some k8c6 }
def k8c7 : Code := { maxStack := 4, maxLocals := 3, code := jdk_52_method_12_code, exceptionTable := #[], attributes := #[] }
def k8m7 : Method := { name := "codePointCount", desc := "([BII)I", sig := { parameters := [(.array .byte), .int, .int], returnType := some .int }, accessFlags := 9, code := some k8c7 }
def k8c8 : Code := { maxStack := 4, maxLocals := 5, code := jdk_52_method_14_code, exceptionTable := #[], attributes := #[] }
def k8m8 : Method := { name := "toBytes", desc := "([CII)[B", sig := { parameters := [(.array .char), .int, .int], returnType := some (.array .byte) }, accessFlags := 9, code := some k8c8 }
def k8c9 : Code := { maxStack := 2, maxLocals := 2, code := jdk_52_method_15_code, exceptionTable := #[], attributes := #[] }
def k8m9 : Method := { name := "coderFromArrayLen", desc := "([BI)B", sig := { parameters := [(.array .byte), .int], returnType := some .byte }, accessFlags := 8, code := some k8c9 }
def k8c10 : Code := { maxStack := 5, maxLocals := 6, code := jdk_52_method_16_code, exceptionTable := #[], attributes := #[] }
def k8m10 : Method := { name := "compress", desc := "([CII)[B", sig := { parameters := [(.array .char), .int, .int], returnType := some (.array .byte) }, accessFlags := 9, code := some k8c10 }
def k8c11 : Code := { maxStack := 3, maxLocals := 7, code := jdk_52_method_21_code, exceptionTable := #[], attributes := #[] }
def k8m11 : Method := { name := "compress", desc := "([CI[BII)I", sig := { parameters := [(.array .char), .int, (.array .byte), .int, .int], returnType := some .int }, accessFlags := 9, code := some k8c11 }
def k8c12 : Code := { maxStack := 2, maxLocals := 2, code := jdk_52_method_83_code, exceptionTable := #[], attributes := #[] }
def k8m12 : Method := { name := "charAt", desc := "([BI)C", sig := { parameters := [(.array .byte), .int], returnType := some .char }, accessFlags := 9, code := some k8c12 }
def k8c13 : Code := { maxStack := 2, maxLocals := 2, code := jdk_52_method_91_code, exceptionTable := #[], attributes := #[] }
def k8m13 : Method := { name := "checkIndex", desc := "(I[B)V", sig := { parameters := [.int, (.array .byte)], returnType := none }, accessFlags := 9, code := some k8c13 }
/-- java/lang/StringUTF16 -/
def k8 : Class := { plain "java/lang/StringUTF16" (some 0) with
  accessFlags := 48
  interfaces := #[]
  cf := some (fileOf pool8 12 #[.nestMembers #[627, 629, 369]] #[{ accessFlags := 0, nameIndex := 9, descriptorIndex := 10, attributes := #[] }, { accessFlags := 9, nameIndex := 109, descriptorIndex := 110, attributes := #[] }, { accessFlags := 9, nameIndex := 15, descriptorIndex := 16, attributes := #[] }, { accessFlags := 8, nameIndex := 113, descriptorIndex := 114, attributes := #[] }, { accessFlags := 8, nameIndex := 73, descriptorIndex := 74, attributes := #[] }, { accessFlags := 9, nameIndex := 50, descriptorIndex := 51, attributes := #[] }, { accessFlags := 10, nameIndex := 102, descriptorIndex := 91, attributes := #[] }, { accessFlags := 9, nameIndex := 102, descriptorIndex := 250, attributes := #[] }, { accessFlags := 9, nameIndex := 121, descriptorIndex := 122, attributes := #[] }, { accessFlags := 8, nameIndex := 261, descriptorIndex := 262, attributes := #[] }, { accessFlags := 9, nameIndex := 117, descriptorIndex := 122, attributes := #[] }, { accessFlags := 9, nameIndex := 117, descriptorIndex := 118, attributes := #[] }, { accessFlags := 9, nameIndex := 392, descriptorIndex := 74, attributes := #[] }, { accessFlags := 9, nameIndex := 69, descriptorIndex := 70, attributes := #[] }] 48 6 #[] #[{ accessFlags := 26, nameIndex := 61, descriptorIndex := 62, attributes := #[] }, { accessFlags := 26, nameIndex := 65, descriptorIndex := 62, attributes := #[] }, { accessFlags := 24, nameIndex := 430, descriptorIndex := 62, attributes := #[] }, { accessFlags := 4120, nameIndex := 46, descriptorIndex := 47, attributes := #[] }])
  fields := #[{ name := "HI_BYTE_SHIFT", type := .int, accessFlags := 26, slot := 0, constantValue := 0 }, { name := "LO_BYTE_SHIFT", type := .int, accessFlags := 26, slot := 1, constantValue := 0 }, { name := "MAX_LENGTH", type := .int, accessFlags := 24, slot := 2, constantValue := 0 }, { name := "$assertionsDisabled", type := .boolean, accessFlags := 4120, slot := 3, constantValue := 0 }]
  methods := #[k8m0, k8m1, k8m2, k8m3, k8m4, k8m5, k8m6, k8m7, k8m8, k8m9, k8m10, k8m11, k8m12, k8m13]
  instanceTypes := #[]
  staticTypes := #[.int, .int, .int, .boolean]
  resolved := Array.replicate 635 none
  statics := some 1 }

def pool9 : Array CpInfo := pool [(1, .methodref 2 3), (0, .class_ 4), (0, .nameAndType 5 6), (0, u "java/lang/Object"), (0, u "<init>"), (0, u "()V"), (0, .fieldref 8 9), (0, .class_ 10), (0, .nameAndType 11 12), (0, u "com/example/subsume/subsume/model/Lines"), (0, u "text"), (0, u "Ljava/lang/String;"), (0, .methodref 14 15), (0, .class_ 16), (0, .nameAndType 17 18), (0, u "java/lang/String"), (0, u "length"), (0, u "()I"), (0, .methodref 14 20), (0, .nameAndType 21 22), (0, u "charAt"), (0, u "(I)C"), (0, .fieldref 8 24), (0, .nameAndType 25 26), (0, u "starts"), (0, u "[I"), (0, .methodref 14 28), (0, .nameAndType 29 30), (0, u "codePointCount"), (0, u "(II)I"), (9, u "(I)I"), (0, u "(Ljava/lang/String;)V"), (3, u "character")] 3

def k9c0 : Code := { maxStack := 4, maxLocals := 5, code := prog_16_method_1_code, exceptionTable := #[], attributes := #[] }
def k9m0 : Method := { name := "<init>", desc := "(Ljava/lang/String;)V", sig := { parameters := [(.object "java/lang/String")], returnType := none }, accessFlags := 0, code := some k9c0 }
def k9c1 : Code := { maxStack := 3, maxLocals := 2, code := prog_16_method_2_code, exceptionTable := #[], attributes := #[] }
def k9m1 : Method := { name := "character", desc := "(I)I", sig := { parameters := [.int], returnType := some .int }, accessFlags := 0, code := some k9c1 }
/-- com/example/subsume/subsume/model/Lines -/
def k9 : Class := { plain "com/example/subsume/subsume/model/Lines" (some 0) with
  accessFlags := 48
  interfaces := #[]
  cf := some (fileOf pool9 8 #[] #[{ accessFlags := 0, nameIndex := 5, descriptorIndex := 41, attributes := #[] }, { accessFlags := 0, nameIndex := 45, descriptorIndex := 40, attributes := #[] }] 48 2 #[] #[{ accessFlags := 18, nameIndex := 11, descriptorIndex := 12, attributes := #[] }, { accessFlags := 18, nameIndex := 25, descriptorIndex := 26, attributes := #[] }])
  fields := #[{ name := "text", type := (.object "java/lang/String"), accessFlags := 18, slot := 0, constantValue := 0 }, { name := "starts", type := (.array .int), accessFlags := 18, slot := 1, constantValue := 0 }]
  methods := #[k9m0, k9m1]
  instanceTypes := #[(.object "java/lang/String"), (.array .int)]
  staticTypes := #[]
  resolved := Array.replicate 49 none
  statics := none }

def pool10 : Array CpInfo := pool [(1, .class_ 2), (0, u "java/lang/String"), (1, .class_ 6), (1, u "java/lang/Object"), (0, u "<init>"), (0, u "()V"), (0, .methodref 1 10), (0, .nameAndType 11 12), (0, u "checkIndex"), (0, u "(II)V"), (1, .class_ 16), (1, u "java/lang/StringLatin1"), (36, u "([BI)C"), (67, u "$assertionsDisabled"), (0, u "Z"), (98, .class_ 223), (1, u "java/lang/StringLatin1$LinesSpliterator"), (28, u "charAt"), (137, .class_ 391), (0, u "java/lang/StringLatin1$CharsSpliterator")] 3

def k10m0 : Method := { name := "<init>", desc := "()V", sig := { parameters := [], returnType := none }, accessFlags := 0, code := none }
def k10c1 : Code := { maxStack := 2, maxLocals := 2, code := jdk_43_method_2_code, exceptionTable := #[], attributes := #[] }
def k10m1 : Method := { name := "charAt", desc := "([BI)C", sig := { parameters := [(.array .byte), .int], returnType := some .char }, accessFlags := 9, code := some k10c1 }
/-- java/lang/StringLatin1 -/
def k10 : Class := { plain "java/lang/StringLatin1" (some 0) with
  accessFlags := 48
  interfaces := #[]
  cf := some (fileOf pool10 14 #[.nestMembers #[390, 221]] #[{ accessFlags := 0, nameIndex := 7, descriptorIndex := 8, attributes := #[] }, { accessFlags := 9, nameIndex := 252, descriptorIndex := 53, attributes := #[] }] 48 4 #[] #[{ accessFlags := 4120, nameIndex := 121, descriptorIndex := 122, attributes := #[] }])
  fields := #[{ name := "$assertionsDisabled", type := .boolean, accessFlags := 4120, slot := 0, constantValue := 0 }]
  methods := #[k10m0, k10m1]
  instanceTypes := #[]
  staticTypes := #[.boolean]
  resolved := Array.replicate 395 none
  statics := none }

def pool11 : Array CpInfo := pool [(2, .class_ 4), (1, u "java/lang/Object"), (0, u "<init>"), (0, u "()V"), (17, .class_ 26), (1, u "jdk/internal/util/Preconditions"), (6, u "checkIndex"), (13, u "checkFromToIndex"), (7, .class_ 56), (0, u "jdk/internal/util/Preconditions$4"), (57, .class_ 115), (0, u "jdk/internal/util/Preconditions$1"), (7, u "SIOOBE_FORMATTER"), (0, u "Ljava/util/function/BiFunction;"), (0, .class_ 126), (0, u "jdk/internal/util/Preconditions$2"), (3, u "AIOOBE_FORMATTER"), (0, .class_ 132), (0, u "jdk/internal/util/Preconditions$3"), (3, u "IOOBE_FORMATTER"), (41, u "(IILjava/util/function/BiFunction;)I"), (4, u "(IIILjava/util/function/BiFunction;)I")] 10

def k11m0 : Method := { name := "<init>", desc := "()V", sig := { parameters := [], returnType := none }, accessFlags := 1, code := none }
def k11c1 : Code := { maxStack := 3, maxLocals := 3, code := jdk_41_method_11_code, exceptionTable := #[], attributes := #[] }
def k11m1 : Method := { name := "checkIndex", desc := "(IILjava/util/function/BiFunction;)I", sig := { parameters := [.int, .int, (.object "java/util/function/BiFunction")], returnType := some .int }, accessFlags := 9, code := some k11c1 }
def k11c2 : Code := { maxStack := 4, maxLocals := 4, code := jdk_41_method_12_code, exceptionTable := #[], attributes := #[] }
def k11m2 : Method := { name := "checkFromToIndex", desc := "(IIILjava/util/function/BiFunction;)I", sig := { parameters := [.int, .int, .int, (.object "java/util/function/BiFunction")], returnType := some .int }, accessFlags := 9, code := some k11c2 }
/-- jdk/internal/util/Preconditions -/
def k11 : Class := { plain "jdk/internal/util/Preconditions" (some 0) with
  accessFlags := 33
  interfaces := #[]
  cf := some (fileOf pool11 24 #[.nestMembers #[55, 131, 125, 114]] #[{ accessFlags := 1, nameIndex := 5, descriptorIndex := 6, attributes := #[] }, { accessFlags := 9, nameIndex := 33, descriptorIndex := 178, attributes := #[] }, { accessFlags := 9, nameIndex := 47, descriptorIndex := 183, attributes := #[] }] 33 2 #[] #[{ accessFlags := 25, nameIndex := 123, descriptorIndex := 124, attributes := #[] }, { accessFlags := 25, nameIndex := 130, descriptorIndex := 124, attributes := #[] }, { accessFlags := 25, nameIndex := 136, descriptorIndex := 124, attributes := #[] }])
  fields := #[{ name := "SIOOBE_FORMATTER", type := (.object "java/util/function/BiFunction"), accessFlags := 25, slot := 0, constantValue := 0 }, { name := "AIOOBE_FORMATTER", type := (.object "java/util/function/BiFunction"), accessFlags := 25, slot := 1, constantValue := 0 }, { name := "IOOBE_FORMATTER", type := (.object "java/util/function/BiFunction"), accessFlags := 25, slot := 2, constantValue := 0 }]
  methods := #[k11m0, k11m1, k11m2]
  instanceTypes := #[]
  staticTypes := #[(.object "java/util/function/BiFunction"), (.object "java/util/function/BiFunction"), (.object "java/util/function/BiFunction")]
  resolved := Array.replicate 194 none
  statics := some 2 }

def pool12 : Array CpInfo := pool [(2, .class_ 4), (1, u "java/lang/Object"), (0, u "<init>"), (0, u "()V"), (35, .class_ 44), (1, u "java/util/Objects"), (61, .class_ 108), (1, u "jdk/internal/util/Preconditions"), (2, .methodref 106 112), (0, .nameAndType 113 114), (0, u "checkFromToIndex"), (0, u "(IIILjava/util/function/BiFunction;)I"), (60, u "(III)I")] 8

def k12m0 : Method := { name := "<init>", desc := "()V", sig := { parameters := [], returnType := none }, accessFlags := 2, code := none }
def k12c1 : Code := { maxStack := 4, maxLocals := 3, code := jdk_31_method_18_code, exceptionTable := #[], attributes := #[] }
def k12m1 : Method := { name := "checkFromToIndex", desc := "(III)I", sig := { parameters := [.int, .int, .int], returnType := some .int }, accessFlags := 9, code := some k12c1 }
/-- java/util/Objects -/
def k12 : Class := { plain "java/util/Objects" (some 0) with
  accessFlags := 49
  interfaces := #[]
  cf := some (fileOf pool12 42 #[] #[{ accessFlags := 2, nameIndex := 5, descriptorIndex := 6, attributes := #[] }, { accessFlags := 9, nameIndex := 113, descriptorIndex := 175, attributes := #[] }] 49 2 #[] #[])
  fields := #[]
  methods := #[k12m0, k12m1]
  instanceTypes := #[]
  staticTypes := #[]
  resolved := Array.replicate 184 none
  statics := none }

def pool13 : Array CpInfo := pool [(1, .class_ 2), (0, u "java/lang/Character"), (18, u "value"), (0, u "C"), (19, .class_ 44), (1, u "java/lang/Object"), (3, .class_ 50), (1, u "java/lang/Character$CharacterCache"), (24, .integer 55296), (0, .integer 56320), (0, .integer 57344), (2, u "isHighSurrogate"), (0, u "(C)Z"), (2, u "isLowSurrogate"), (199, u "$assertionsDisabled"), (0, u "Z"), (21, .class_ 309), (1, u "java/lang/Character$UnicodeBlock"), (73, u "TYPE"), (0, u "Ljava/lang/Class;"), (0, .class_ 386), (0, u "java/io/Serializable"), (0, .class_ 388), (0, u "java/lang/Comparable"), (0, .class_ 390), (0, u "java/lang/constant/Constable"), (0, u "MIN_RADIX"), (0, u "I"), (2, u "MAX_RADIX"), (1, u "MIN_VALUE"), (1, u "MAX_VALUE"), (3, u "UNASSIGNED"), (0, u "B"), (0, u "UPPERCASE_LETTER"), (1, u "LOWERCASE_LETTER"), (0, u "TITLECASE_LETTER"), (1, u "MODIFIER_LETTER"), (1, u "OTHER_LETTER"), (1, u "NON_SPACING_MARK"), (1, u "ENCLOSING_MARK"), (1, u "COMBINING_SPACING_MARK"), (1, u "DECIMAL_DIGIT_NUMBER"), (1, u "LETTER_NUMBER"), (1, u "OTHER_NUMBER"), (1, u "SPACE_SEPARATOR"), (1, u "LINE_SEPARATOR"), (1, u "PARAGRAPH_SEPARATOR"), (1, u "CONTROL"), (1, u "FORMAT"), (1, u "PRIVATE_USE"), (1, u "SURROGATE"), (1, u "DASH_PUNCTUATION"), (1, u "START_PUNCTUATION"), (1, u "END_PUNCTUATION"), (1, u "CONNECTOR_PUNCTUATION"), (1, u "OTHER_PUNCTUATION"), (1, u "MATH_SYMBOL"), (1, u "CURRENCY_SYMBOL"), (1, u "MODIFIER_SYMBOL"), (1, u "OTHER_SYMBOL"), (1, u "INITIAL_QUOTE_PUNCTUATION"), (1, u "FINAL_QUOTE_PUNCTUATION"), (1, u "ERROR"), (1, u "DIRECTIONALITY_UNDEFINED"), (0, u "DIRECTIONALITY_LEFT_TO_RIGHT"), (0, u "DIRECTIONALITY_RIGHT_TO_LEFT"), (0, u "DIRECTIONALITY_RIGHT_TO_LEFT_ARABIC"), (0, u "DIRECTIONALITY_EUROPEAN_NUMBER"), (0, u "DIRECTIONALITY_EUROPEAN_NUMBER_SEPARATOR"), (0, u "DIRECTIONALITY_EUROPEAN_NUMBER_TERMINATOR"), (0, u "DIRECTIONALITY_ARABIC_NUMBER"), (0, u "DIRECTIONALITY_COMMON_NUMBER_SEPARATOR"), (0, u "DIRECTIONALITY_NONSPACING_MARK"), (0, u "DIRECTIONALITY_BOUNDARY_NEUTRAL"), (0, u "DIRECTIONALITY_PARAGRAPH_SEPARATOR"), (0, u "DIRECTIONALITY_SEGMENT_SEPARATOR"), (0, u "DIRECTIONALITY_WHITESPACE"), (0, u "DIRECTIONALITY_OTHER_NEUTRALS"), (0, u "DIRECTIONALITY_LEFT_TO_RIGHT_EMBEDDING"), (0, u "DIRECTIONALITY_LEFT_TO_RIGHT_OVERRIDE"), (0, u "DIRECTIONALITY_RIGHT_TO_LEFT_EMBEDDING"), (0, u "DIRECTIONALITY_RIGHT_TO_LEFT_OVERRIDE"), (1, u "DIRECTIONALITY_POP_DIRECTIONAL_FORMAT"), (0, u "DIRECTIONALITY_LEFT_TO_RIGHT_ISOLATE"), (0, u "DIRECTIONALITY_RIGHT_TO_LEFT_ISOLATE"), (0, u "DIRECTIONALITY_FIRST_STRONG_ISOLATE"), (0, u "DIRECTIONALITY_POP_DIRECTIONAL_ISOLATE"), (0, u "MIN_HIGH_SURROGATE"), (0, u "MAX_HIGH_SURROGATE"), (1, u "MIN_LOW_SURROGATE"), (0, u "MAX_LOW_SURROGATE"), (1, u "MIN_SURROGATE"), (0, u "MAX_SURROGATE"), (0, u "MIN_SUPPLEMENTARY_CODE_POINT"), (0, u "MIN_CODE_POINT"), (0, u "MAX_CODE_POINT"), (1, u "serialVersionUID"), (0, u "J"), (2, u "SIZE"), (0, u "BYTES"), (88, .class_ 596), (0, u "java/lang/Character$UnicodeScript"), (0, .class_ 598), (0, u "java/lang/Character$Subset")] 5

def k13c0 : Code := { maxStack := 2, maxLocals := 1, code := jdk_89_method_14_code, exceptionTable := #[], attributes := #[] }
def k13m0 : Method := { name := "isHighSurrogate", desc := "(C)Z", sig := { parameters := [.char], returnType := some .boolean }, accessFlags := 9, code := some k13c0 }
def k13c1 : Code := { maxStack := 2, maxLocals := 1, code := jdk_89_method_15_code, exceptionTable := #[], attributes := #[] }
def k13m1 : Method := { name := "isLowSurrogate", desc := "(C)Z", sig := { parameters := [.char], returnType := some .boolean }, accessFlags := 9, code := some k13c1 }
/-- java/lang/Character -/
def k13 : Class := { plain "java/lang/Character" (some 0) with
  accessFlags := 49
  interfaces := #[2, 3, 5]
  cf := some (fileOf pool13 1 #[.nestMembers #[48, 595, 307, 597]] #[{ accessFlags := 9, nameIndex := 80, descriptorIndex := 81, attributes := #[] }, { accessFlags := 9, nameIndex := 84, descriptorIndex := 81, attributes := #[] }] 49 42 #[385, 387, 389] #[{ accessFlags := 25, nameIndex := 391, descriptorIndex := 392, attributes := #[] }, { accessFlags := 25, nameIndex := 395, descriptorIndex := 392, attributes := #[] }, { accessFlags := 25, nameIndex := 397, descriptorIndex := 22, attributes := #[] }, { accessFlags := 25, nameIndex := 399, descriptorIndex := 22, attributes := #[] }, { accessFlags := 25, nameIndex := 383, descriptorIndex := 384, attributes := #[] }, { accessFlags := 25, nameIndex := 403, descriptorIndex := 404, attributes := #[] }, { accessFlags := 25, nameIndex := 405, descriptorIndex := 404, attributes := #[] }, { accessFlags := 25, nameIndex := 407, descriptorIndex := 404, attributes := #[] }, { accessFlags := 25, nameIndex := 408, descriptorIndex := 404, attributes := #[] }, { accessFlags := 25, nameIndex := 410, descriptorIndex := 404, attributes := #[] }, { accessFlags := 25, nameIndex := 412, descriptorIndex := 404, attributes := #[] }, { accessFlags := 25, nameIndex := 414, descriptorIndex := 404, attributes := #[] }, { accessFlags := 25, nameIndex := 416, descriptorIndex := 404, attributes := #[] }, { accessFlags := 25, nameIndex := 418, descriptorIndex := 404, attributes := #[] }, { accessFlags := 25, nameIndex := 420, descriptorIndex := 404, attributes := #[] }, { accessFlags := 25, nameIndex := 422, descriptorIndex := 404, attributes := #[] }, { accessFlags := 25, nameIndex := 424, descriptorIndex := 404, attributes := #[] }, { accessFlags := 25, nameIndex := 426, descriptorIndex := 404, attributes := #[] }, { accessFlags := 25, nameIndex := 428, descriptorIndex := 404, attributes := #[] }, { accessFlags := 25, nameIndex := 430, descriptorIndex := 404, attributes := #[] }, { accessFlags := 25, nameIndex := 432, descriptorIndex := 404, attributes := #[] }, { accessFlags := 25, nameIndex := 434, descriptorIndex := 404, attributes := #[] }, { accessFlags := 25, nameIndex := 436, descriptorIndex := 404, attributes := #[] }, { accessFlags := 25, nameIndex := 438, descriptorIndex := 404, attributes := #[] }, { accessFlags := 25, nameIndex := 440, descriptorIndex := 404, attributes := #[] }, { accessFlags := 25, nameIndex := 442, descriptorIndex := 404, attributes := #[] }, { accessFlags := 25, nameIndex := 444, descriptorIndex := 404, attributes := #[] }, { accessFlags := 25, nameIndex := 446, descriptorIndex := 404, attributes := #[] }, { accessFlags := 25, nameIndex := 448, descriptorIndex := 404, attributes := #[] }, { accessFlags := 25, nameIndex := 450, descriptorIndex := 404, attributes := #[] }, { accessFlags := 25, nameIndex := 452, descriptorIndex := 404, attributes := #[] }, { accessFlags := 25, nameIndex := 454, descriptorIndex := 404, attributes := #[] }, { accessFlags := 25, nameIndex := 456, descriptorIndex := 404, attributes := #[] }, { accessFlags := 25, nameIndex := 458, descriptorIndex := 404, attributes := #[] }, { accessFlags := 25, nameIndex := 460, descriptorIndex := 404, attributes := #[] }, { accessFlags := 24, nameIndex := 462, descriptorIndex := 392, attributes := #[] }, { accessFlags := 25, nameIndex := 464, descriptorIndex := 404, attributes := #[] }, { accessFlags := 25, nameIndex := 465, descriptorIndex := 404, attributes := #[] }, { accessFlags := 25, nameIndex := 466, descriptorIndex := 404, attributes := #[] }, { accessFlags := 25, nameIndex := 467, descriptorIndex := 404, attributes := #[] }, { accessFlags := 25, nameIndex := 468, descriptorIndex := 404, attributes := #[] }, { accessFlags := 25, nameIndex := 469, descriptorIndex := 404, attributes := #[] }, { accessFlags := 25, nameIndex := 470, descriptorIndex := 404, attributes := #[] }, { accessFlags := 25, nameIndex := 471, descriptorIndex := 404, attributes := #[] }, { accessFlags := 25, nameIndex := 472, descriptorIndex := 404, attributes := #[] }, { accessFlags := 25, nameIndex := 473, descriptorIndex := 404, attributes := #[] }, { accessFlags := 25, nameIndex := 474, descriptorIndex := 404, attributes := #[] }, { accessFlags := 25, nameIndex := 475, descriptorIndex := 404, attributes := #[] }, { accessFlags := 25, nameIndex := 476, descriptorIndex := 404, attributes := #[] }, { accessFlags := 25, nameIndex := 477, descriptorIndex := 404, attributes := #[] }, { accessFlags := 25, nameIndex := 478, descriptorIndex := 404, attributes := #[] }, { accessFlags := 25, nameIndex := 479, descriptorIndex := 404, attributes := #[] }, { accessFlags := 25, nameIndex := 480, descriptorIndex := 404, attributes := #[] }, { accessFlags := 25, nameIndex := 481, descriptorIndex := 404, attributes := #[] }, { accessFlags := 25, nameIndex := 482, descriptorIndex := 404, attributes := #[] }, { accessFlags := 25, nameIndex := 484, descriptorIndex := 404, attributes := #[] }, { accessFlags := 25, nameIndex := 485, descriptorIndex := 404, attributes := #[] }, { accessFlags := 25, nameIndex := 486, descriptorIndex := 404, attributes := #[] }, { accessFlags := 25, nameIndex := 487, descriptorIndex := 404, attributes := #[] }, { accessFlags := 25, nameIndex := 488, descriptorIndex := 404, attributes := #[] }, { accessFlags := 25, nameIndex := 489, descriptorIndex := 22, attributes := #[] }, { accessFlags := 25, nameIndex := 490, descriptorIndex := 22, attributes := #[] }, { accessFlags := 25, nameIndex := 492, descriptorIndex := 22, attributes := #[] }, { accessFlags := 25, nameIndex := 493, descriptorIndex := 22, attributes := #[] }, { accessFlags := 25, nameIndex := 495, descriptorIndex := 22, attributes := #[] }, { accessFlags := 25, nameIndex := 496, descriptorIndex := 22, attributes := #[] }, { accessFlags := 25, nameIndex := 497, descriptorIndex := 392, attributes := #[] }, { accessFlags := 25, nameIndex := 498, descriptorIndex := 392, attributes := #[] }, { accessFlags := 25, nameIndex := 499, descriptorIndex := 392, attributes := #[] }, { accessFlags := 18, nameIndex := 21, descriptorIndex := 22, attributes := #[] }, { accessFlags := 26, nameIndex := 501, descriptorIndex := 502, attributes := #[] }, { accessFlags := 25, nameIndex := 505, descriptorIndex := 392, attributes := #[] }, { accessFlags := 25, nameIndex := 506, descriptorIndex := 392, attributes := #[] }, { accessFlags := 4120, nameIndex := 284, descriptorIndex := 285, attributes := #[] }])
  fields := #[{ name := "MIN_RADIX", type := .int, accessFlags := 25, slot := 0, constantValue := 0 }, { name := "MAX_RADIX", type := .int, accessFlags := 25, slot := 1, constantValue := 0 }, { name := "MIN_VALUE", type := .char, accessFlags := 25, slot := 2, constantValue := 0 }, { name := "MAX_VALUE", type := .char, accessFlags := 25, slot := 3, constantValue := 0 }, { name := "TYPE", type := (.object "java/lang/Class"), accessFlags := 25, slot := 4, constantValue := 0 }, { name := "UNASSIGNED", type := .byte, accessFlags := 25, slot := 5, constantValue := 0 }, { name := "UPPERCASE_LETTER", type := .byte, accessFlags := 25, slot := 6, constantValue := 0 }, { name := "LOWERCASE_LETTER", type := .byte, accessFlags := 25, slot := 7, constantValue := 0 }, { name := "TITLECASE_LETTER", type := .byte, accessFlags := 25, slot := 8, constantValue := 0 }, { name := "MODIFIER_LETTER", type := .byte, accessFlags := 25, slot := 9, constantValue := 0 }, { name := "OTHER_LETTER", type := .byte, accessFlags := 25, slot := 10, constantValue := 0 }, { name := "NON_SPACING_MARK", type := .byte, accessFlags := 25, slot := 11, constantValue := 0 }, { name := "ENCLOSING_MARK", type := .byte, accessFlags := 25, slot := 12, constantValue := 0 }, { name := "COMBINING_SPACING_MARK", type := .byte, accessFlags := 25, slot := 13, constantValue := 0 }, { name := "DECIMAL_DIGIT_NUMBER", type := .byte, accessFlags := 25, slot := 14, constantValue := 0 }, { name := "LETTER_NUMBER", type := .byte, accessFlags := 25, slot := 15, constantValue := 0 }, { name := "OTHER_NUMBER", type := .byte, accessFlags := 25, slot := 16, constantValue := 0 }, { name := "SPACE_SEPARATOR", type := .byte, accessFlags := 25, slot := 17, constantValue := 0 }, { name := "LINE_SEPARATOR", type := .byte, accessFlags := 25, slot := 18, constantValue := 0 }, { name := "PARAGRAPH_SEPARATOR", type := .byte, accessFlags := 25, slot := 19, constantValue := 0 }, { name := "CONTROL", type := .byte, accessFlags := 25, slot := 20, constantValue := 0 }, { name := "FORMAT", type := .byte, accessFlags := 25, slot := 21, constantValue := 0 }, { name := "PRIVATE_USE", type := .byte, accessFlags := 25, slot := 22, constantValue := 0 }, { name := "SURROGATE", type := .byte, accessFlags := 25, slot := 23, constantValue := 0 }, { name := "DASH_PUNCTUATION", type := .byte, accessFlags := 25, slot := 24, constantValue := 0 }, { name := "START_PUNCTUATION", type := .byte, accessFlags := 25, slot := 25, constantValue := 0 }, { name := "END_PUNCTUATION", type := .byte, accessFlags := 25, slot := 26, constantValue := 0 }, { name := "CONNECTOR_PUNCTUATION", type := .byte, accessFlags := 25, slot := 27, constantValue := 0 }, { name := "OTHER_PUNCTUATION", type := .byte, accessFlags := 25, slot := 28, constantValue := 0 }, { name := "MATH_SYMBOL", type := .byte, accessFlags := 25, slot := 29, constantValue := 0 }, { name := "CURRENCY_SYMBOL", type := .byte, accessFlags := 25, slot := 30, constantValue := 0 }, { name := "MODIFIER_SYMBOL", type := .byte, accessFlags := 25, slot := 31, constantValue := 0 }, { name := "OTHER_SYMBOL", type := .byte, accessFlags := 25, slot := 32, constantValue := 0 }, { name := "INITIAL_QUOTE_PUNCTUATION", type := .byte, accessFlags := 25, slot := 33, constantValue := 0 }, { name := "FINAL_QUOTE_PUNCTUATION", type := .byte, accessFlags := 25, slot := 34, constantValue := 0 }, { name := "ERROR", type := .int, accessFlags := 24, slot := 35, constantValue := 0 }, { name := "DIRECTIONALITY_UNDEFINED", type := .byte, accessFlags := 25, slot := 36, constantValue := 0 }, { name := "DIRECTIONALITY_LEFT_TO_RIGHT", type := .byte, accessFlags := 25, slot := 37, constantValue := 0 }, { name := "DIRECTIONALITY_RIGHT_TO_LEFT", type := .byte, accessFlags := 25, slot := 38, constantValue := 0 }, { name := "DIRECTIONALITY_RIGHT_TO_LEFT_ARABIC", type := .byte, accessFlags := 25, slot := 39, constantValue := 0 }, { name := "DIRECTIONALITY_EUROPEAN_NUMBER", type := .byte, accessFlags := 25, slot := 40, constantValue := 0 }, { name := "DIRECTIONALITY_EUROPEAN_NUMBER_SEPARATOR", type := .byte, accessFlags := 25, slot := 41, constantValue := 0 }, { name := "DIRECTIONALITY_EUROPEAN_NUMBER_TERMINATOR", type := .byte, accessFlags := 25, slot := 42, constantValue := 0 }, { name := "DIRECTIONALITY_ARABIC_NUMBER", type := .byte, accessFlags := 25, slot := 43, constantValue := 0 }, { name := "DIRECTIONALITY_COMMON_NUMBER_SEPARATOR", type := .byte, accessFlags := 25, slot := 44, constantValue := 0 }, { name := "DIRECTIONALITY_NONSPACING_MARK", type := .byte, accessFlags := 25, slot := 45, constantValue := 0 }, { name := "DIRECTIONALITY_BOUNDARY_NEUTRAL", type := .byte, accessFlags := 25, slot := 46, constantValue := 0 }, { name := "DIRECTIONALITY_PARAGRAPH_SEPARATOR", type := .byte, accessFlags := 25, slot := 47, constantValue := 0 }, { name := "DIRECTIONALITY_SEGMENT_SEPARATOR", type := .byte, accessFlags := 25, slot := 48, constantValue := 0 }, { name := "DIRECTIONALITY_WHITESPACE", type := .byte, accessFlags := 25, slot := 49, constantValue := 0 }, { name := "DIRECTIONALITY_OTHER_NEUTRALS", type := .byte, accessFlags := 25, slot := 50, constantValue := 0 }, { name := "DIRECTIONALITY_LEFT_TO_RIGHT_EMBEDDING", type := .byte, accessFlags := 25, slot := 51, constantValue := 0 }, { name := "DIRECTIONALITY_LEFT_TO_RIGHT_OVERRIDE", type := .byte, accessFlags := 25, slot := 52, constantValue := 0 }, { name := "DIRECTIONALITY_RIGHT_TO_LEFT_EMBEDDING", type := .byte, accessFlags := 25, slot := 53, constantValue := 0 }, { name := "DIRECTIONALITY_RIGHT_TO_LEFT_OVERRIDE", type := .byte, accessFlags := 25, slot := 54, constantValue := 0 }, { name := "DIRECTIONALITY_POP_DIRECTIONAL_FORMAT", type := .byte, accessFlags := 25, slot := 55, constantValue := 0 }, { name := "DIRECTIONALITY_LEFT_TO_RIGHT_ISOLATE", type := .byte, accessFlags := 25, slot := 56, constantValue := 0 }, { name := "DIRECTIONALITY_RIGHT_TO_LEFT_ISOLATE", type := .byte, accessFlags := 25, slot := 57, constantValue := 0 }, { name := "DIRECTIONALITY_FIRST_STRONG_ISOLATE", type := .byte, accessFlags := 25, slot := 58, constantValue := 0 }, { name := "DIRECTIONALITY_POP_DIRECTIONAL_ISOLATE", type := .byte, accessFlags := 25, slot := 59, constantValue := 0 }, { name := "MIN_HIGH_SURROGATE", type := .char, accessFlags := 25, slot := 60, constantValue := 0 }, { name := "MAX_HIGH_SURROGATE", type := .char, accessFlags := 25, slot := 61, constantValue := 0 }, { name := "MIN_LOW_SURROGATE", type := .char, accessFlags := 25, slot := 62, constantValue := 0 }, { name := "MAX_LOW_SURROGATE", type := .char, accessFlags := 25, slot := 63, constantValue := 0 }, { name := "MIN_SURROGATE", type := .char, accessFlags := 25, slot := 64, constantValue := 0 }, { name := "MAX_SURROGATE", type := .char, accessFlags := 25, slot := 65, constantValue := 0 }, { name := "MIN_SUPPLEMENTARY_CODE_POINT", type := .int, accessFlags := 25, slot := 66, constantValue := 0 }, { name := "MIN_CODE_POINT", type := .int, accessFlags := 25, slot := 67, constantValue := 0 }, { name := "MAX_CODE_POINT", type := .int, accessFlags := 25, slot := 68, constantValue := 0 }, { name := "value", type := .char, accessFlags := 18, slot := 0, constantValue := 0 }, { name := "serialVersionUID", type := .long, accessFlags := 26, slot := 69, constantValue := 0 }, { name := "SIZE", type := .int, accessFlags := 25, slot := 70, constantValue := 0 }, { name := "BYTES", type := .int, accessFlags := 25, slot := 71, constantValue := 0 }, { name := "$assertionsDisabled", type := .boolean, accessFlags := 4120, slot := 72, constantValue := 0 }]
  methods := #[k13m0, k13m1]
  instanceTypes := #[.char]
  staticTypes := #[.int, .int, .char, .char, (.object "java/lang/Class"), .byte, .byte, .byte, .byte, .byte, .byte, .byte, .byte, .byte, .byte, .byte, .byte, .byte, .byte, .byte, .byte, .byte, .byte, .byte, .byte, .byte, .byte, .byte, .byte, .byte, .byte, .byte, .byte, .byte, .byte, .int, .byte, .byte, .byte, .byte, .byte, .byte, .byte, .byte, .byte, .byte, .byte, .byte, .byte, .byte, .byte, .byte, .byte, .byte, .byte, .byte, .byte, .byte, .byte, .byte, .char, .char, .char, .char, .char, .char, .int, .int, .int, .long, .int, .int, .boolean]
  resolved := Array.replicate 604 none
  statics := none }

def pool14 : Array CpInfo := pool [(9, u "<init>"), (6, .class_ 18), (1, u "java/lang/Object"), (0, u "()V"), (1, .class_ 23), (1, u "jdk/internal/util/ArraysSupport"), (0, u "LOG2_ARRAY_LONG_INDEX_SCALE"), (0, u "I"), (2, u "U"), (0, u "Ljdk/internal/misc/Unsafe;"), (8, u "BIG_ENDIAN"), (0, u "Z"), (8, u "LOG2_BYTE_BIT_SIZE"), (4, u "LOG2_ARRAY_INT_INDEX_SCALE"), (54, u "JLA"), (0, u "Ljdk/internal/access/JavaLangAccess;"), (11, u "LOG2_ARRAY_BOOLEAN_INDEX_SCALE"), (9, u "LOG2_ARRAY_BYTE_INDEX_SCALE"), (5, u "LOG2_ARRAY_CHAR_INDEX_SCALE"), (5, u "LOG2_ARRAY_SHORT_INDEX_SCALE"), (18, u "LOG2_ARRAY_FLOAT_INDEX_SCALE"), (24, u "LOG2_ARRAY_DOUBLE_INDEX_SCALE"), (89, u "T_BOOLEAN"), (2, u "T_CHAR"), (1, u "T_FLOAT"), (1, u "T_DOUBLE"), (1, u "T_BYTE"), (1, u "T_SHORT"), (1, u "T_INT"), (1, u "T_LONG"), (1, u "SOFT_MAX_ARRAY_LENGTH")] 83

def k14m0 : Method := { name := "<init>", desc := "()V", sig := { parameters := [], returnType := none }, accessFlags := 2, code := none }
/-- jdk/internal/util/ArraysSupport -/
def k14 : Class := { plain "jdk/internal/util/ArraysSupport" (some 0) with
  accessFlags := 33
  interfaces := #[]
  cf := some (fileOf pool14 21 #[] #[{ accessFlags := 2, nameIndex := 9, descriptorIndex := 19, attributes := #[] }] 33 16 #[] #[{ accessFlags := 24, nameIndex := 28, descriptorIndex := 29, attributes := #[] }, { accessFlags := 26, nameIndex := 38, descriptorIndex := 39, attributes := #[] }, { accessFlags := 25, nameIndex := 121, descriptorIndex := 25, attributes := #[] }, { accessFlags := 25, nameIndex := 131, descriptorIndex := 25, attributes := #[] }, { accessFlags := 25, nameIndex := 137, descriptorIndex := 25, attributes := #[] }, { accessFlags := 25, nameIndex := 143, descriptorIndex := 25, attributes := #[] }, { accessFlags := 25, nameIndex := 53, descriptorIndex := 25, attributes := #[] }, { accessFlags := 25, nameIndex := 24, descriptorIndex := 25, attributes := #[] }, { accessFlags := 25, nameIndex := 162, descriptorIndex := 25, attributes := #[] }, { accessFlags := 25, nameIndex := 187, descriptorIndex := 25, attributes := #[] }, { accessFlags := 26, nameIndex := 48, descriptorIndex := 25, attributes := #[] }, { accessFlags := 25, nameIndex := 277, descriptorIndex := 25, attributes := #[] }, { accessFlags := 25, nameIndex := 280, descriptorIndex := 25, attributes := #[] }, { accessFlags := 25, nameIndex := 282, descriptorIndex := 25, attributes := #[] }, { accessFlags := 25, nameIndex := 284, descriptorIndex := 25, attributes := #[] }, { accessFlags := 25, nameIndex := 286, descriptorIndex := 25, attributes := #[] }, { accessFlags := 25, nameIndex := 288, descriptorIndex := 25, attributes := #[] }, { accessFlags := 25, nameIndex := 290, descriptorIndex := 25, attributes := #[] }, { accessFlags := 25, nameIndex := 292, descriptorIndex := 25, attributes := #[] }, { accessFlags := 26, nameIndex := 108, descriptorIndex := 109, attributes := #[] }, { accessFlags := 25, nameIndex := 294, descriptorIndex := 25, attributes := #[] }])
  fields := #[{ name := "U", type := (.object "jdk/internal/misc/Unsafe"), accessFlags := 24, slot := 0, constantValue := 0 }, { name := "BIG_ENDIAN", type := .boolean, accessFlags := 26, slot := 1, constantValue := 0 }, { name := "LOG2_ARRAY_BOOLEAN_INDEX_SCALE", type := .int, accessFlags := 25, slot := 2, constantValue := 0 }, { name := "LOG2_ARRAY_BYTE_INDEX_SCALE", type := .int, accessFlags := 25, slot := 3, constantValue := 0 }, { name := "LOG2_ARRAY_CHAR_INDEX_SCALE", type := .int, accessFlags := 25, slot := 4, constantValue := 0 }, { name := "LOG2_ARRAY_SHORT_INDEX_SCALE", type := .int, accessFlags := 25, slot := 5, constantValue := 0 }, { name := "LOG2_ARRAY_INT_INDEX_SCALE", type := .int, accessFlags := 25, slot := 6, constantValue := 0 }, { name := "LOG2_ARRAY_LONG_INDEX_SCALE", type := .int, accessFlags := 25, slot := 7, constantValue := 0 }, { name := "LOG2_ARRAY_FLOAT_INDEX_SCALE", type := .int, accessFlags := 25, slot := 8, constantValue := 0 }, { name := "LOG2_ARRAY_DOUBLE_INDEX_SCALE", type := .int, accessFlags := 25, slot := 9, constantValue := 0 }, { name := "LOG2_BYTE_BIT_SIZE", type := .int, accessFlags := 26, slot := 10, constantValue := 0 }, { name := "T_BOOLEAN", type := .int, accessFlags := 25, slot := 11, constantValue := 0 }, { name := "T_CHAR", type := .int, accessFlags := 25, slot := 12, constantValue := 0 }, { name := "T_FLOAT", type := .int, accessFlags := 25, slot := 13, constantValue := 0 }, { name := "T_DOUBLE", type := .int, accessFlags := 25, slot := 14, constantValue := 0 }, { name := "T_BYTE", type := .int, accessFlags := 25, slot := 15, constantValue := 0 }, { name := "T_SHORT", type := .int, accessFlags := 25, slot := 16, constantValue := 0 }, { name := "T_INT", type := .int, accessFlags := 25, slot := 17, constantValue := 0 }, { name := "T_LONG", type := .int, accessFlags := 25, slot := 18, constantValue := 0 }, { name := "JLA", type := (.object "jdk/internal/access/JavaLangAccess"), accessFlags := 26, slot := 19, constantValue := 0 }, { name := "SOFT_MAX_ARRAY_LENGTH", type := .int, accessFlags := 25, slot := 20, constantValue := 0 }]
  methods := #[k14m0]
  instanceTypes := #[]
  staticTypes := #[(.object "jdk/internal/misc/Unsafe"), .boolean, .int, .int, .int, .int, .int, .int, .int, .int, .int, .int, .int, .int, .int, .int, .int, .int, .int, (.object "jdk/internal/access/JavaLangAccess"), .int]
  resolved := Array.replicate 378 none
  statics := none }

def pool15 : Array CpInfo := pool [(1, u "java/lang/Cloneable"), (0, .class_ 1), (0, u "java/lang/Object"), (0, .class_ 3)] 3

/-- java/lang/Cloneable -/
def k15 : Class := { plain "java/lang/Cloneable" (some 0) with
  accessFlags := 1537
  interfaces := #[]
  cf := some (fileOf pool15 2 #[] #[] 1537 4 #[] #[])
  fields := #[]
  methods := #[]
  instanceTypes := #[]
  staticTypes := #[]
  resolved := Array.replicate 8 none
  statics := none }

/-- the primitive byte -/
def k16 : Class := { plain "byte" none with kind := .primitive 'B', accessFlags := 0x411 }
/-- [B -/
def k17 : Class := { plain "[B" (some 0) with kind := .array 16 .byte, interfaces := #[15, 2], accessFlags := 1041 }

/-- the primitive char -/
def k18 : Class := { plain "char" none with kind := .primitive 'C', accessFlags := 0x411 }
/-- [C -/
def k19 : Class := { plain "[C" (some 0) with kind := .array 18 .char, interfaces := #[15, 2], accessFlags := 1041 }

/-- the primitive int -/
def k20 : Class := { plain "int" none with kind := .primitive 'I', accessFlags := 0x411 }
/-- [I -/
def k21 : Class := { plain "[I" (some 0) with kind := .array 20 .int, interfaces := #[15, 2], accessFlags := 1041 }

def heap : Heap := #[{ cls := 7, slots := #[.long 0, .int 1, .null, .int 0, .null, .int 0, .int 0], vm := .statics 7 },
  { cls := 8, slots := #[.int 0, .int 8, .int 0, .int 1], vm := .statics 8 },
  { cls := 11, slots := #[.null, .null, .null], vm := .statics 11 }]
def classes : Array Class := #[k0, k1, k2, k3, k4, k5, k6, k7, k8, k9, k10, k11, k12, k13, k14, k15, k16, k17, k18, k19, k20, k21]
def interned : List (Array UInt16 × Addr) := []
def slotsUsed : Nat := 14
def theMethod : MethodId := ⟨1, 4⟩
def args0 : Array Value := #[.int 66000, .int 77, .int 5, .int 6, .int 7]
def aboutOver (below : List Frame) : State where
  vm := { classes := classes, interned := interned.toArray }
  heap := heap
  slotsUsed := slotsUsed
  threads := #[{ frames := .invoking theMethod args0 :: below }]
def below0 : List Frame := [.native { method := ⟨0, 0⟩, args := #[] }]
def about1 : State := aboutOver below0
def p0 : Program := .bare "" "" ""
def e0 : Env := launch0.env 0 0 0
theorem w_frames : about1.frames = Frame.invoking theMethod args0 :: below0 := rfl
set_option maxRecDepth 65536 in
theorem w_args : argsFit about1.vm theMethod args0 = true := by decide +kernel
set_option maxRecDepth 65536 in
theorem w_heap : heapFits about1 = true := by decide +kernel
set_option maxRecDepth 65536 in
theorem w_runnable : about1.curStatus? = some .runnable := by decide +kernel
set_option maxRecDepth 65536 in
theorem w_alone : about1.alone = true := by decide +kernel
set_option maxRecDepth 65536 in
theorem w_named : about1.methodNamed? x = some theMethod := by decide +kernel
set_option maxRecDepth 65536 in
theorem w_hears : about1.hears theMethod below0 = true := by decide +kernel
set_option maxRecDepth 65536 in
theorem w_ripe : about1.ripe theMethod args0 below0 = true := by decide +kernel
theorem w_running : about1.status = .running := rfl
set_option maxRecDepth 65536 in
theorem w_room : about1.hasRoom e0.platform room_1 = true :=
  launch0.hasRoom_least _ room_1 (by decide +kernel) (by decide +kernel) (by decide +kernel) (by decide +kernel) (by decide +kernel) (by decide +kernel)
theorem allAtoms_all (ts : List Jvm.Cond) (a : Array Jvm.Value) (st : Jvm.State) : (allAtoms ts).before a st = ts.all (fun c => c.before a st) := by
  induction ts with
  | nil => rfl
  | cons c t ih =>
    show (Jvm.Cond.and c (allAtoms t)).before a st = _
    rw [Jvm.Cond.before_and, ih, List.all_cons]
def words1 : List Jvm.Cond := Jvm.Cond.code x code maxLocals ret :: tables_1
/-- a 'code' word, met by the world's own term for the bytes: nothing is compared byte by byte -/
theorem code_word {y : MethodName} {bytes : ByteArray} {mx : Nat} {rt : Option FieldType} {a : Array Value} {s : State} {m : MethodId} {meth : Method} {c : Code} (h1 : s.methodNamed? y = some m) (h2 : s.vm.method? m = some meth) (h3 : meth.code = some c) (h4 : c.code = bytes)
    (h5 : (c.maxLocals == mx && c.exceptionTable.isEmpty && decide (c.maxStack ≤ mostOperands) && decide (meth.sig.returnType = rt) && !meth.locks && decide (parseMethodDescriptor y.desc = some meth.sig)) = true) : (Jvm.Cond.code y bytes mx rt).before a s = true := by
  simp only [Bool.and_eq_true, beq_iff_eq, Bool.not_eq_true', decide_eq_true_eq] at h5
  obtain ⟨⟨⟨⟨⟨g1, g2⟩, g3⟩, g4⟩, g5⟩, g6⟩ := h5
  simp [Cond.before, Cond.holds, Cond.value, h1, h2, h3, h4, g1, g2, g3, g4, g5, g6]
def isCode : Jvm.Cond → Bool
  | .code _ _ _ _ => true
  | _ => false
theorem all_split {L : List Jvm.Cond} {P : Jvm.Cond → Bool} (h1 : L.all (fun c => isCode c || P c) = true) (h2 : ∀ c ∈ L.filter isCode, P c = true) : L.all P = true := by
  refine List.all_eq_true.mpr fun c hc => ?_
  have h := List.all_eq_true.mp h1 c hc
  rcases Bool.eq_false_or_eq_true (isCode c) with hi | hi
  · exact h2 c (List.mem_filter.mpr ⟨hc, hi⟩)
  · simpa [hi] using h
set_option maxRecDepth 65536 in
theorem w_c0 : (Jvm.Cond.code x code maxLocals ret).before args0 about1 = true := code_word (m := ⟨1, 4⟩) (meth := k1m4) (c := k1c4) (by decide +kernel) rfl rfl rfl (by decide +kernel)
set_option maxRecDepth 65536 in
theorem w_c1 : (Jvm.Cond.code ({ cls := "com/example/subsume/subsume/model/LinesCharacterPinLaw", name := "draw", desc := "(I)C" } : Jvm.MethodName) method_2_code (3 : Nat) (Option.some Jvm.ClassFile.FieldType.char)).before args0 about1 = true := code_word (m := ⟨1, 1⟩) (meth := k1m1) (c := k1c1) (by decide +kernel) rfl rfl rfl (by decide +kernel)
set_option maxRecDepth 65536 in
theorem w_c2 : (Jvm.Cond.code ({ cls := "java/lang/String", name := "<init>", desc := "([C)V" } : Jvm.MethodName) jdk_42_method_3_code (2 : Nat) (Option.none : Option Jvm.ClassFile.FieldType)).before args0 about1 = true := code_word (m := ⟨7, 1⟩) (meth := k7m1) (c := k7c1) (by decide +kernel) rfl rfl rfl (by decide +kernel)
set_option maxRecDepth 65536 in
theorem w_c3 : (Jvm.Cond.code ({ cls := "java/lang/String", name := "<init>", desc := "([CIILjava/lang/Void;)V" } : Jvm.MethodName) jdk_42_method_149_code (6 : Nat) (Option.none : Option Jvm.ClassFile.FieldType)).before args0 about1 = true := code_word (m := ⟨7, 5⟩) (meth := k7m5) (c := k7c5) (by decide +kernel) rfl rfl rfl (by decide +kernel)
set_option maxRecDepth 65536 in
theorem w_c4 : (Jvm.Cond.code ({ cls := "java/lang/Object", name := "<init>", desc := "()V" } : Jvm.MethodName) object_method_1_code (1 : Nat) (Option.none : Option Jvm.ClassFile.FieldType)).before args0 about1 = true := code_word (m := ⟨0, 0⟩) (meth := k0m0) (c := k0c0) (by decide +kernel) rfl rfl rfl (by decide +kernel)
set_option maxRecDepth 65536 in
theorem w_c5 : (Jvm.Cond.code ({ cls := "java/lang/StringUTF16", name := "compress", desc := "([CII)[B" } : Jvm.MethodName) jdk_52_method_16_code (6 : Nat) (Option.some (Jvm.ClassFile.FieldType.array Jvm.ClassFile.FieldType.byte))).before args0 about1 = true := code_word (m := ⟨8, 10⟩) (meth := k8m10) (c := k8c10) (by decide +kernel) rfl rfl rfl (by decide +kernel)
set_option maxRecDepth 65536 in
theorem w_c6 : (Jvm.Cond.code ({ cls := "java/lang/StringUTF16", name := "compress", desc := "([CI[BII)I" } : Jvm.MethodName) jdk_52_method_21_code (7 : Nat) (Option.some Jvm.ClassFile.FieldType.int)).before args0 about1 = true := code_word (m := ⟨8, 11⟩) (meth := k8m11) (c := k8c11) (by decide +kernel) rfl rfl rfl (by decide +kernel)
set_option maxRecDepth 65536 in
theorem w_c7 : (Jvm.Cond.code ({ cls := "java/lang/StringUTF16", name := "coderFromArrayLen", desc := "([BI)B" } : Jvm.MethodName) jdk_52_method_15_code (2 : Nat) (Option.some Jvm.ClassFile.FieldType.byte)).before args0 about1 = true := code_word (m := ⟨8, 9⟩) (meth := k8m9) (c := k8c9) (by decide +kernel) rfl rfl rfl (by decide +kernel)
set_option maxRecDepth 65536 in
theorem w_c8 : (Jvm.Cond.code ({ cls := "com/example/subsume/subsume/model/Lines", name := "<init>", desc := "(Ljava/lang/String;)V" } : Jvm.MethodName) prog_16_method_1_code (5 : Nat) (Option.none : Option Jvm.ClassFile.FieldType)).before args0 about1 = true := code_word (m := ⟨9, 0⟩) (meth := k9m0) (c := k9c0) (by decide +kernel) rfl rfl rfl (by decide +kernel)
set_option maxRecDepth 65536 in
theorem w_c9 : (Jvm.Cond.code ({ cls := "java/lang/String", name := "length", desc := "()I" } : Jvm.MethodName) jdk_42_method_54_code (1 : Nat) (Option.some Jvm.ClassFile.FieldType.int)).before args0 about1 = true := code_word (m := ⟨7, 2⟩) (meth := k7m2) (c := k7c2) (by decide +kernel) rfl rfl rfl (by decide +kernel)
set_option maxRecDepth 65536 in
theorem w_c10 : (Jvm.Cond.code ({ cls := "java/lang/String", name := "coder", desc := "()B" } : Jvm.MethodName) jdk_42_method_152_code (1 : Nat) (Option.some Jvm.ClassFile.FieldType.byte)).before args0 about1 = true := code_word (m := ⟨7, 6⟩) (meth := k7m6) (c := k7c6) (by decide +kernel) rfl rfl rfl (by decide +kernel)
set_option maxRecDepth 65536 in
theorem w_c11 : (Jvm.Cond.code ({ cls := "java/lang/String", name := "charAt", desc := "(I)C" } : Jvm.MethodName) jdk_42_method_56_code (2 : Nat) (Option.some Jvm.ClassFile.FieldType.char)).before args0 about1 = true := code_word (m := ⟨7, 3⟩) (meth := k7m3) (c := k7c3) (by decide +kernel) rfl rfl rfl (by decide +kernel)
set_option maxRecDepth 65536 in
theorem w_c12 : (Jvm.Cond.code ({ cls := "java/lang/String", name := "isLatin1", desc := "()Z" } : Jvm.MethodName) jdk_42_method_154_code (1 : Nat) (Option.some Jvm.ClassFile.FieldType.boolean)).before args0 about1 = true := code_word (m := ⟨7, 7⟩) (meth := k7m7) (c := k7c7) (by decide +kernel) rfl rfl rfl (by decide +kernel)
set_option maxRecDepth 65536 in
theorem w_c13 : (Jvm.Cond.code ({ cls := "java/lang/StringLatin1", name := "charAt", desc := "([BI)C" } : Jvm.MethodName) jdk_43_method_2_code (2 : Nat) (Option.some Jvm.ClassFile.FieldType.char)).before args0 about1 = true := code_word (m := ⟨10, 1⟩) (meth := k10m1) (c := k10c1) (by decide +kernel) rfl rfl rfl (by decide +kernel)
set_option maxRecDepth 65536 in
theorem w_c14 : (Jvm.Cond.code ({ cls := "java/lang/String", name := "checkIndex", desc := "(II)V" } : Jvm.MethodName) jdk_42_method_155_code (2 : Nat) (Option.none : Option Jvm.ClassFile.FieldType)).before args0 about1 = true := code_word (m := ⟨7, 8⟩) (meth := k7m8) (c := k7c8) (by decide +kernel) rfl rfl rfl (by decide +kernel)
set_option maxRecDepth 65536 in
theorem w_c15 : (Jvm.Cond.code ({ cls := "jdk/internal/util/Preconditions", name := "checkIndex", desc := "(IILjava/util/function/BiFunction;)I" } : Jvm.MethodName) jdk_41_method_11_code (3 : Nat) (Option.some Jvm.ClassFile.FieldType.int)).before args0 about1 = true := code_word (m := ⟨11, 1⟩) (meth := k11m1) (c := k11c1) (by decide +kernel) rfl rfl rfl (by decide +kernel)
set_option maxRecDepth 65536 in
theorem w_c16 : (Jvm.Cond.code ({ cls := "com/example/subsume/subsume/model/Lines", name := "character", desc := "(I)I" } : Jvm.MethodName) prog_16_method_2_code (2 : Nat) (Option.some Jvm.ClassFile.FieldType.int)).before args0 about1 = true := code_word (m := ⟨9, 1⟩) (meth := k9m1) (c := k9c1) (by decide +kernel) rfl rfl rfl (by decide +kernel)
set_option maxRecDepth 65536 in
theorem w_c17 : (Jvm.Cond.code ({ cls := "java/lang/String", name := "codePointCount", desc := "(II)I" } : Jvm.MethodName) jdk_42_method_59_code (3 : Nat) (Option.some Jvm.ClassFile.FieldType.int)).before args0 about1 = true := code_word (m := ⟨7, 4⟩) (meth := k7m4) (c := k7c4) (by decide +kernel) rfl rfl rfl (by decide +kernel)
set_option maxRecDepth 65536 in
theorem w_c18 : (Jvm.Cond.code ({ cls := "java/util/Objects", name := "checkFromToIndex", desc := "(III)I" } : Jvm.MethodName) jdk_31_method_18_code (3 : Nat) (Option.some Jvm.ClassFile.FieldType.int)).before args0 about1 = true := code_word (m := ⟨12, 1⟩) (meth := k12m1) (c := k12c1) (by decide +kernel) rfl rfl rfl (by decide +kernel)
set_option maxRecDepth 65536 in
theorem w_c19 : (Jvm.Cond.code ({ cls := "jdk/internal/util/Preconditions", name := "checkFromToIndex", desc := "(IIILjava/util/function/BiFunction;)I" } : Jvm.MethodName) jdk_41_method_12_code (4 : Nat) (Option.some Jvm.ClassFile.FieldType.int)).before args0 about1 = true := code_word (m := ⟨11, 2⟩) (meth := k11m2) (c := k11c2) (by decide +kernel) rfl rfl rfl (by decide +kernel)
set_option maxRecDepth 65536 in
theorem w_c20 : (Jvm.Cond.code ({ cls := "com/example/subsume/subsume/model/LinesCharacterPinLaw", name := "high", desc := "(C)Z" } : Jvm.MethodName) method_3_code (1 : Nat) (Option.some Jvm.ClassFile.FieldType.boolean)).before args0 about1 = true := code_word (m := ⟨1, 2⟩) (meth := k1m2) (c := k1c2) (by decide +kernel) rfl rfl rfl (by decide +kernel)
set_option maxRecDepth 65536 in
theorem w_c21 : (Jvm.Cond.code ({ cls := "java/lang/StringUTF16", name := "toBytes", desc := "([CII)[B" } : Jvm.MethodName) jdk_52_method_14_code (5 : Nat) (Option.some (Jvm.ClassFile.FieldType.array Jvm.ClassFile.FieldType.byte))).before args0 about1 = true := code_word (m := ⟨8, 8⟩) (meth := k8m8) (c := k8c8) (by decide +kernel) rfl rfl rfl (by decide +kernel)
set_option maxRecDepth 65536 in
theorem w_c22 : (Jvm.Cond.code ({ cls := "java/lang/StringUTF16", name := "newBytesFor", desc := "(I)[B" } : Jvm.MethodName) jdk_52_method_2_code (1 : Nat) (Option.some (Jvm.ClassFile.FieldType.array Jvm.ClassFile.FieldType.byte))).before args0 about1 = true := code_word (m := ⟨8, 1⟩) (meth := k8m1) (c := k8c1) (by decide +kernel) rfl rfl rfl (by decide +kernel)
set_option maxRecDepth 65536 in
theorem w_c23 : (Jvm.Cond.code ({ cls := "java/lang/StringUTF16", name := "newBytesLength", desc := "(I)I" } : Jvm.MethodName) jdk_52_method_3_code (1 : Nat) (Option.some Jvm.ClassFile.FieldType.int)).before args0 about1 = true := code_word (m := ⟨8, 2⟩) (meth := k8m2) (c := k8c2) (by decide +kernel) rfl rfl rfl (by decide +kernel)
set_option maxRecDepth 65536 in
theorem w_c24 : (Jvm.Cond.code ({ cls := "java/lang/StringUTF16", name := "putChar", desc := "([BII)V" } : Jvm.MethodName) jdk_52_method_4_code (3 : Nat) (Option.none : Option Jvm.ClassFile.FieldType)).before args0 about1 = true := code_word (m := ⟨8, 3⟩) (meth := k8m3) (c := k8c3) (by decide +kernel) rfl rfl rfl (by decide +kernel)
set_option maxRecDepth 65536 in
theorem w_c25 : (Jvm.Cond.code ({ cls := "java/lang/StringUTF16", name := "getChar", desc := "([BI)C" } : Jvm.MethodName) jdk_52_method_5_code (2 : Nat) (Option.some Jvm.ClassFile.FieldType.char)).before args0 about1 = true := code_word (m := ⟨8, 4⟩) (meth := k8m4) (c := k8c4) (by decide +kernel) rfl rfl rfl (by decide +kernel)
set_option maxRecDepth 65536 in
theorem w_c26 : (Jvm.Cond.code ({ cls := "java/lang/StringUTF16", name := "charAt", desc := "([BI)C" } : Jvm.MethodName) jdk_52_method_83_code (2 : Nat) (Option.some Jvm.ClassFile.FieldType.char)).before args0 about1 = true := code_word (m := ⟨8, 12⟩) (meth := k8m12) (c := k8c12) (by decide +kernel) rfl rfl rfl (by decide +kernel)
set_option maxRecDepth 65536 in
theorem w_c27 : (Jvm.Cond.code ({ cls := "java/lang/StringUTF16", name := "checkIndex", desc := "(I[B)V" } : Jvm.MethodName) jdk_52_method_91_code (2 : Nat) (Option.none : Option Jvm.ClassFile.FieldType)).before args0 about1 = true := code_word (m := ⟨8, 13⟩) (meth := k8m13) (c := k8c13) (by decide +kernel) rfl rfl rfl (by decide +kernel)
set_option maxRecDepth 65536 in
theorem w_c28 : (Jvm.Cond.code ({ cls := "java/lang/StringUTF16", name := "length", desc := "([B)I" } : Jvm.MethodName) jdk_52_method_6_code (1 : Nat) (Option.some Jvm.ClassFile.FieldType.int)).before args0 about1 = true := code_word (m := ⟨8, 5⟩) (meth := k8m5) (c := k8c5) (by decide +kernel) rfl rfl rfl (by decide +kernel)
set_option maxRecDepth 65536 in
theorem w_c29 : (Jvm.Cond.code ({ cls := "java/lang/StringUTF16", name := "codePointCount", desc := "([BII)I" } : Jvm.MethodName) jdk_52_method_12_code (3 : Nat) (Option.some Jvm.ClassFile.FieldType.int)).before args0 about1 = true := code_word (m := ⟨8, 7⟩) (meth := k8m7) (c := k8c7) (by decide +kernel) rfl rfl rfl (by decide +kernel)
set_option maxRecDepth 65536 in
theorem w_c30 : (Jvm.Cond.code ({ cls := "java/lang/StringUTF16", name := "codePointCount", desc := "([BIIZ)I" } : Jvm.MethodName) jdk_52_method_11_code (6 : Nat) (Option.some Jvm.ClassFile.FieldType.int)).before args0 about1 = true := code_word (m := ⟨8, 6⟩) (meth := k8m6) (c := k8c6) (by decide +kernel) rfl rfl rfl (by decide +kernel)
set_option maxRecDepth 65536 in
theorem w_c31 : (Jvm.Cond.code ({ cls := "java/lang/Character", name := "isHighSurrogate", desc := "(C)Z" } : Jvm.MethodName) jdk_89_method_14_code (1 : Nat) (Option.some Jvm.ClassFile.FieldType.boolean)).before args0 about1 = true := code_word (m := ⟨13, 0⟩) (meth := k13m0) (c := k13c0) (by decide +kernel) rfl rfl rfl (by decide +kernel)
set_option maxRecDepth 65536 in
theorem w_c32 : (Jvm.Cond.code ({ cls := "java/lang/Character", name := "isLowSurrogate", desc := "(C)Z" } : Jvm.MethodName) jdk_89_method_15_code (1 : Nat) (Option.some Jvm.ClassFile.FieldType.boolean)).before args0 about1 = true := code_word (m := ⟨13, 1⟩) (meth := k13m1) (c := k13c1) (by decide +kernel) rfl rfl rfl (by decide +kernel)
set_option maxRecDepth 65536 in
theorem w_c33 : (Jvm.Cond.code ({ cls := "com/example/subsume/subsume/model/LinesCharacterPinLaw", name := "low", desc := "(C)Z" } : Jvm.MethodName) method_4_code (1 : Nat) (Option.some Jvm.ClassFile.FieldType.boolean)).before args0 about1 = true := code_word (m := ⟨1, 3⟩) (meth := k1m3) (c := k1c3) (by decide +kernel) rfl rfl rfl (by decide +kernel)
def codes1 : List Jvm.Cond := [Jvm.Cond.code x code maxLocals ret, Jvm.Cond.code ({ cls := "com/example/subsume/subsume/model/LinesCharacterPinLaw", name := "draw", desc := "(I)C" } : Jvm.MethodName) method_2_code (3 : Nat) (Option.some Jvm.ClassFile.FieldType.char), Jvm.Cond.code ({ cls := "java/lang/String", name := "<init>", desc := "([C)V" } : Jvm.MethodName) jdk_42_method_3_code (2 : Nat) (Option.none : Option Jvm.ClassFile.FieldType), Jvm.Cond.code ({ cls := "java/lang/String", name := "<init>", desc := "([CIILjava/lang/Void;)V" } : Jvm.MethodName) jdk_42_method_149_code (6 : Nat) (Option.none : Option Jvm.ClassFile.FieldType), Jvm.Cond.code ({ cls := "java/lang/Object", name := "<init>", desc := "()V" } : Jvm.MethodName) object_method_1_code (1 : Nat) (Option.none : Option Jvm.ClassFile.FieldType), Jvm.Cond.code ({ cls := "java/lang/StringUTF16", name := "compress", desc := "([CII)[B" } : Jvm.MethodName) jdk_52_method_16_code (6 : Nat) (Option.some (Jvm.ClassFile.FieldType.array Jvm.ClassFile.FieldType.byte)), Jvm.Cond.code ({ cls := "java/lang/StringUTF16", name := "compress", desc := "([CI[BII)I" } : Jvm.MethodName) jdk_52_method_21_code (7 : Nat) (Option.some Jvm.ClassFile.FieldType.int), Jvm.Cond.code ({ cls := "java/lang/StringUTF16", name := "coderFromArrayLen", desc := "([BI)B" } : Jvm.MethodName) jdk_52_method_15_code (2 : Nat) (Option.some Jvm.ClassFile.FieldType.byte), Jvm.Cond.code ({ cls := "com/example/subsume/subsume/model/Lines", name := "<init>", desc := "(Ljava/lang/String;)V" } : Jvm.MethodName) prog_16_method_1_code (5 : Nat) (Option.none : Option Jvm.ClassFile.FieldType), Jvm.Cond.code ({ cls := "java/lang/String", name := "length", desc := "()I" } : Jvm.MethodName) jdk_42_method_54_code (1 : Nat) (Option.some Jvm.ClassFile.FieldType.int), Jvm.Cond.code ({ cls := "java/lang/String", name := "coder", desc := "()B" } : Jvm.MethodName) jdk_42_method_152_code (1 : Nat) (Option.some Jvm.ClassFile.FieldType.byte), Jvm.Cond.code ({ cls := "java/lang/String", name := "charAt", desc := "(I)C" } : Jvm.MethodName) jdk_42_method_56_code (2 : Nat) (Option.some Jvm.ClassFile.FieldType.char), Jvm.Cond.code ({ cls := "java/lang/String", name := "isLatin1", desc := "()Z" } : Jvm.MethodName) jdk_42_method_154_code (1 : Nat) (Option.some Jvm.ClassFile.FieldType.boolean), Jvm.Cond.code ({ cls := "java/lang/StringLatin1", name := "charAt", desc := "([BI)C" } : Jvm.MethodName) jdk_43_method_2_code (2 : Nat) (Option.some Jvm.ClassFile.FieldType.char), Jvm.Cond.code ({ cls := "java/lang/String", name := "checkIndex", desc := "(II)V" } : Jvm.MethodName) jdk_42_method_155_code (2 : Nat) (Option.none : Option Jvm.ClassFile.FieldType), Jvm.Cond.code ({ cls := "jdk/internal/util/Preconditions", name := "checkIndex", desc := "(IILjava/util/function/BiFunction;)I" } : Jvm.MethodName) jdk_41_method_11_code (3 : Nat) (Option.some Jvm.ClassFile.FieldType.int), Jvm.Cond.code ({ cls := "com/example/subsume/subsume/model/Lines", name := "character", desc := "(I)I" } : Jvm.MethodName) prog_16_method_2_code (2 : Nat) (Option.some Jvm.ClassFile.FieldType.int), Jvm.Cond.code ({ cls := "java/lang/String", name := "codePointCount", desc := "(II)I" } : Jvm.MethodName) jdk_42_method_59_code (3 : Nat) (Option.some Jvm.ClassFile.FieldType.int), Jvm.Cond.code ({ cls := "java/util/Objects", name := "checkFromToIndex", desc := "(III)I" } : Jvm.MethodName) jdk_31_method_18_code (3 : Nat) (Option.some Jvm.ClassFile.FieldType.int), Jvm.Cond.code ({ cls := "jdk/internal/util/Preconditions", name := "checkFromToIndex", desc := "(IIILjava/util/function/BiFunction;)I" } : Jvm.MethodName) jdk_41_method_12_code (4 : Nat) (Option.some Jvm.ClassFile.FieldType.int), Jvm.Cond.code ({ cls := "com/example/subsume/subsume/model/LinesCharacterPinLaw", name := "high", desc := "(C)Z" } : Jvm.MethodName) method_3_code (1 : Nat) (Option.some Jvm.ClassFile.FieldType.boolean), Jvm.Cond.code ({ cls := "java/lang/StringUTF16", name := "toBytes", desc := "([CII)[B" } : Jvm.MethodName) jdk_52_method_14_code (5 : Nat) (Option.some (Jvm.ClassFile.FieldType.array Jvm.ClassFile.FieldType.byte)), Jvm.Cond.code ({ cls := "java/lang/StringUTF16", name := "newBytesFor", desc := "(I)[B" } : Jvm.MethodName) jdk_52_method_2_code (1 : Nat) (Option.some (Jvm.ClassFile.FieldType.array Jvm.ClassFile.FieldType.byte)), Jvm.Cond.code ({ cls := "java/lang/StringUTF16", name := "newBytesLength", desc := "(I)I" } : Jvm.MethodName) jdk_52_method_3_code (1 : Nat) (Option.some Jvm.ClassFile.FieldType.int), Jvm.Cond.code ({ cls := "java/lang/StringUTF16", name := "putChar", desc := "([BII)V" } : Jvm.MethodName) jdk_52_method_4_code (3 : Nat) (Option.none : Option Jvm.ClassFile.FieldType), Jvm.Cond.code ({ cls := "java/lang/StringUTF16", name := "getChar", desc := "([BI)C" } : Jvm.MethodName) jdk_52_method_5_code (2 : Nat) (Option.some Jvm.ClassFile.FieldType.char), Jvm.Cond.code ({ cls := "java/lang/StringUTF16", name := "charAt", desc := "([BI)C" } : Jvm.MethodName) jdk_52_method_83_code (2 : Nat) (Option.some Jvm.ClassFile.FieldType.char), Jvm.Cond.code ({ cls := "java/lang/StringUTF16", name := "checkIndex", desc := "(I[B)V" } : Jvm.MethodName) jdk_52_method_91_code (2 : Nat) (Option.none : Option Jvm.ClassFile.FieldType), Jvm.Cond.code ({ cls := "java/lang/StringUTF16", name := "length", desc := "([B)I" } : Jvm.MethodName) jdk_52_method_6_code (1 : Nat) (Option.some Jvm.ClassFile.FieldType.int), Jvm.Cond.code ({ cls := "java/lang/StringUTF16", name := "codePointCount", desc := "([BII)I" } : Jvm.MethodName) jdk_52_method_12_code (3 : Nat) (Option.some Jvm.ClassFile.FieldType.int), Jvm.Cond.code ({ cls := "java/lang/StringUTF16", name := "codePointCount", desc := "([BIIZ)I" } : Jvm.MethodName) jdk_52_method_11_code (6 : Nat) (Option.some Jvm.ClassFile.FieldType.int), Jvm.Cond.code ({ cls := "java/lang/Character", name := "isHighSurrogate", desc := "(C)Z" } : Jvm.MethodName) jdk_89_method_14_code (1 : Nat) (Option.some Jvm.ClassFile.FieldType.boolean), Jvm.Cond.code ({ cls := "java/lang/Character", name := "isLowSurrogate", desc := "(C)Z" } : Jvm.MethodName) jdk_89_method_15_code (1 : Nat) (Option.some Jvm.ClassFile.FieldType.boolean), Jvm.Cond.code ({ cls := "com/example/subsume/subsume/model/LinesCharacterPinLaw", name := "low", desc := "(C)Z" } : Jvm.MethodName) method_4_code (1 : Nat) (Option.some Jvm.ClassFile.FieldType.boolean)]
set_option maxRecDepth 65536 in
theorem codes_eq : words1.filter isCode = codes1 := rfl
theorem w_codes : ∀ c ∈ words1.filter isCode, c.before args0 about1 = true := by
  rw [codes_eq]
  intro c hc
  simp only [codes1, List.mem_cons, List.not_mem_nil, or_false] at hc
  rcases hc with rfl | rfl | rfl | rfl | rfl | rfl | rfl | rfl | rfl | rfl | rfl | rfl | rfl | rfl | rfl | rfl | rfl | rfl | rfl | rfl | rfl | rfl | rfl | rfl | rfl | rfl | rfl | rfl | rfl | rfl | rfl | rfl | rfl | rfl
  · exact w_c0
  · exact w_c1
  · exact w_c2
  · exact w_c3
  · exact w_c4
  · exact w_c5
  · exact w_c6
  · exact w_c7
  · exact w_c8
  · exact w_c9
  · exact w_c10
  · exact w_c11
  · exact w_c12
  · exact w_c13
  · exact w_c14
  · exact w_c15
  · exact w_c16
  · exact w_c17
  · exact w_c18
  · exact w_c19
  · exact w_c20
  · exact w_c21
  · exact w_c22
  · exact w_c23
  · exact w_c24
  · exact w_c25
  · exact w_c26
  · exact w_c27
  · exact w_c28
  · exact w_c29
  · exact w_c30
  · exact w_c31
  · exact w_c32
  · exact w_c33
set_option maxRecDepth 65536 in
theorem w_t1 : (words1.take 24).all (fun c => isCode c || c.before args0 about1) = true := by decide +kernel
set_option maxRecDepth 65536 in
theorem w_t2 : ((words1.drop 24).take 24).all (fun c => isCode c || c.before args0 about1) = true := by decide +kernel
set_option maxRecDepth 65536 in
theorem w_t3 : (((words1.drop 24).drop 24).take 24).all (fun c => isCode c || c.before args0 about1) = true := by decide +kernel
set_option maxRecDepth 65536 in
theorem w_t4 : ((((words1.drop 24).drop 24).drop 24).take 24).all (fun c => isCode c || c.before args0 about1) = true := by decide +kernel
set_option maxRecDepth 65536 in
theorem w_t5 : (((((words1.drop 24).drop 24).drop 24).drop 24).take 24).all (fun c => isCode c || c.before args0 about1) = true := by decide +kernel
set_option maxRecDepth 65536 in
theorem w_t6 : ((((((words1.drop 24).drop 24).drop 24).drop 24).drop 24).take 24).all (fun c => isCode c || c.before args0 about1) = true := by decide +kernel
set_option maxRecDepth 65536 in
theorem w_t7 : ((((((words1.drop 24).drop 24).drop 24).drop 24).drop 24).drop 24).all (fun c => isCode c || c.before args0 about1) = true := by decide +kernel
theorem w_tables : (allAtoms (Jvm.Cond.code x code maxLocals ret :: tables_1)).before args0 about1 = true := by
  rw [allAtoms_all]
  show words1.all (fun c => c.before args0 about1) = true
  refine all_split ?_ w_codes
  rw [← List.take_append_drop 24 words1, List.all_append, w_t1, ← List.take_append_drop 24 (words1.drop 24), List.all_append, w_t2, ← List.take_append_drop 24 ((words1.drop 24).drop 24), List.all_append, w_t3, ← List.take_append_drop 24 (((words1.drop 24).drop 24).drop 24), List.all_append, w_t4, ← List.take_append_drop 24 ((((words1.drop 24).drop 24).drop 24).drop 24), List.all_append, w_t5, ← List.take_append_drop 24 (((((words1.drop 24).drop 24).drop 24).drop 24).drop 24), List.all_append, w_t6, w_t7]
  rfl
set_option maxRecDepth 65536 in
theorem w_rest : rest_1_c.before args0 about1 = true := by decide +kernel
set_option maxRecDepth 65536 in
theorem w_case : (Jvm.Cond.and given_1 narrow_1).before args0 about1 = true := by decide +kernel
theorem w_applies : (headSpec (Jvm.Cond.code x code maxLocals ret :: tables_1) room_1).applies x e0.platform about1 = true :=
  (Spec.applies_iff w_frames).mpr ⟨w_running, w_runnable, w_alone, w_named, w_hears, w_ripe, w_room, w_tables⟩
theorem atStart : AtStart classFile x code maxLocals ret World_1 tables_1 room_1 Calls_1 rest_1 Pre_1 launch0 p0 e0 about1 theMethod args0 below0 :=
  ⟨lists_1, trivial, launch0.admits_env _ _ _, launch0.least_env, fairChoices_fair.cas, fairChoices_fair.clock, w_frames, w_args, w_heap, w_applies, trivial, w_rest, w_case⟩
end start1
theorem witness_1 : WitnessClaimed_1 := ⟨start1.p0, start1.e0, start1.about1, start1.theMethod, start1.args0, start1.below0, start1.atStart⟩
end Jvm.Pilot.@@N@@
