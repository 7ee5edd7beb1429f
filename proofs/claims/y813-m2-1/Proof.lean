import JvmDerived
import JvmDerived.Pilot.@@N@@Statement
import JvmDerived.Pilot.@@N@@Code
set_option linter.unusedVariables false
set_option linter.unusedSimpArgs false
namespace Jvm.RoadKit
open Sem ClassFile Op Lib Jvm.Stand Jvm.Free Jvm.LawKit
section New
variable {p : Program} {l : Launch} {e : Env} {R : Room} {s : State} {m : MethodId} {args : Array Value} {below : List Frame} {meth : Method} {c : Code} {T : State} {locs : List Loc} {cells slots : Nat}
theorem retI (X : Stand p l e R s m args below meth c T locs cells slots) (hx : p.tables.exec = Jvm.exec) {pc : Nat} {Ls : Array Slot} {z : Int32} {rest : List Value} (hret : meth.sig.returnType = some .int) (hd : decode c.code pc = .ok (.ireturn, 1)) {fs : List Frame}
    (hl : ∀ (f : JFrame) (acts : List Action), f.method = m → f.locked = none → f.entered = [] → (doReturn e (T.setTop f) acts (some (.int z))).1 = T.setFrames fs) : Steps p.tables e below (T.setTop (mkF m pc Ls (.int z :: rest))) (T.setFrames fs) :=
  retOut X hx (w := .int z) (t := .int) hret rfl (Or.inl ⟨rfl, Or.inl rfl, _, rfl⟩) hd hl
end New
end Jvm.RoadKit
namespace Jvm.Own
open Sem ClassFile Op Lib Jvm.Stand Jvm.Free Jvm.LawKit Jvm.RoadKit
/-- from A on the run comes to B -/
abbrev Go (tb : Tables) (e : Env) (below : List Frame) (A B : State) : Prop := ∀ t, Steps tb e below B t → Steps tb e below A t
theorem lremM {p : Program} {l : Launch} {e : Env} {R : Room} {s : State} {m : MethodId} {args : Array Value} {below : List Frame} {meth : Method} {c : Code} {T : State} {locs : List Loc} {cells slots : Nat} {g : JFrame} {target : State} (X : Stand p l e R s m args below meth c T locs cells slots) (hx : p.tables.exec = Jvm.exec) (hg : g.method = m) {x y : Int64} {rest : List Value} (hd : decode c.code g.pc = .ok (.lrem, 1)) (hs : g.stack = .long y :: .long x :: rest) (hy : y ≠ 0)
    (hr : Steps p.tables e below (T.setTop { g with pc := g.pc + 1, stack := .long (x % y) :: rest }) target) : Steps p.tables e below (T.setTop g) target :=
  XS.lrem X.here hx hg hd hs hy (by rw [lrem_mod]; exact hr)
theorem eqInt {s : State} {args : Array Value} {a : Term} {c : Int32} (h : (Cond.eq a (.int c)).value args s none s [] = some true) : a.eval args s none [] s = some (.int c) := by
  obtain ⟨x, y, hx, hy, k1, k2⟩ := cmp_v (Or.inl h)
  cases hy
  obtain ⟨z, rfl⟩ := k2
  simp [Cond.value, hx, Term.eval] at h
  subst h; exact hx
theorem neqInt {s : State} {args : Array Value} {a : Term} {c x : Int32} (hx : a.eval args s none [] s = some (.int x)) (h : (Cond.not (Cond.eq a (.int c))).value args s none s [] = some true) : ¬ x = c := by
  intro q
  have h2 := not_v h
  subst q
  simp [Cond.value, hx, Term.eval] at h2
theorem elAt {s : State} {args : Array Value} {t u : Term} {a w : Addr} {cl : Cell} {ty : FieldType} {i : Int32} (ht : t.eval args s none [] s = some (.ref a)) (A : Arr s s.heap a cl ty) (h : (Cond.eq (.elem t (.int i)) u).value args s none s [] = some true) (hu : u.eval args s none [] s = some (.ref w)) {j : Nat} (hj : i.toNatClampNeg = j) : cl.slots[j]? = some (.ref w) := by
  obtain ⟨x, y, hx, hy, k1, k2⟩ := cmp_v (Or.inl h)
  rw [hu] at hy; cases hy
  have hr : x.isRef = true := k2.2
  have e := gotT (eq_R hx hu hr rfl) h
  subst e
  have q := (elem_in hx ht (Term.int_eval i) A.1).2
  rw [hj] at q; exact q
theorem arvOf {s : State} {args : Array Value} {t : Term} {a : Addr} {cl : Cell} {ty : FieldType} {z : Int32} {vs : List Value} {dv : Value} (hf : Fit s) (ev : t.eval args s none [] s = some (.ref a)) (A : Arr s s.heap a cl ty) (hl : (Term.length t).eval args s none [] s = some (.int z)) (hz : ¬ z < 0) (hn : z.toNatClampNeg = vs.length) (H : HasL cl 0 vs) : Arv s s.heap a cl.cls ty z vs dv := by
  have ha : s.arrayAt? a = some cl := Arr.fin (Vm.Alike.refl _) A
  by_cases q : cl.slots.size < 2 ^ 31
  · rw [len_f ev ha q] at hl
    cases hl
    exact Arv.start hf A q rfl hz hn H
  · simp [Term.eval, ev, ha, q] at hl
theorem selPriv {s : State} {args : Array Value} {C : String} {z y : MethodName} (w : (Cond.selects C z z).before args s = true) (hc : z.cls = y.cls) (hp : s.PrivateAt y) (hi : (Cond.instanceMethod y).before args s = true) (hy : y.cls ≠ "java/lang/invoke/MethodHandle" ∧ y.cls ≠ "java/lang/invoke/VarHandle") : (Cond.selects y.cls y y).before args s = true := by
  obtain ⟨c2, r2, m2, -, -, q3, -, kP, hkP, hkPi⟩ := Cond.selects_spec w
  exact selects_self_of_private (hc ▸ findClass_of_methodNamed q3) hkP hkPi hp hi hy
end Jvm.Own
namespace Jvm.Pilot.@@N@@
open Jvm Jvm.ClassFile Sem Op Lib Jvm.Free Jvm.Stand Jvm.LawKit Jvm.RoadKit Jvm.Own Bundle Jvm.Pilot.@@N@@.Jvm.D
theorem own_w {Z : State} {a0 : Array Value} (hw : ∀ d ∈ tables_1, d.before a0 Z = true) (i : Nat) {d : Jvm.Cond} (h : tables_1[i]? = some d) : d.before a0 Z = true := hw _ (List.mem_of_getElem? h)
theorem own_255 (i : Nat) : (255#32).getLsbD i = decide (i < 8) := by
  rw [BitVec.getLsbD_ofNat, show (255 : Nat) = 2 ^ 8 - 1 from rfl, Nat.testBit_two_pow_sub_one]
  by_cases h : i < 8 <;> simp [h]
  omega
def own_h (c w b : Int32) : Int32 := (c ||| (w <<< (8 : Int32))) ||| (b <<< (24 : Int32))
theorem own_low (c w b : Int32) : (own_h (c &&& 255) (w &&& 255) (b &&& 255)) &&& 255 = c &&& 255 := by
  apply Int32.toBitVec_inj.mp
  unfold own_h
  apply BitVec.eq_of_getLsbD_eq
  intro i hi
  simp [own_255]
  by_cases h : i < 8
  · have : i < 24 := by omega
    simp [h, this]
  · simp [h]
theorem own_sec (c w b : Int32) : (((own_h (c &&& 255) (w &&& 255) (b &&& 255)).toUInt32 >>> (8 : UInt32)).toInt32) &&& 255 = w &&& 255 := by
  apply Int32.toBitVec_inj.mp
  unfold own_h
  apply BitVec.eq_of_getLsbD_eq
  intro i hi
  simp [own_255]
  by_cases h : i < 8
  · have h1 : 8 + i < 24 := by omega
    have h2 : 8 + i < 32 := by omega
    have h3 : ¬ (8 + i < 8) := by omega
    simp [h, h1, h2, h3]
  · simp [h]
theorem own_thi (c w b : Int32) : (((own_h (c &&& 255) (w &&& 255) (b &&& 255)).toUInt32 >>> (16 : UInt32)).toInt32) &&& 255 = 0 := by
  apply Int32.toBitVec_inj.mp
  unfold own_h
  apply BitVec.eq_of_getLsbD_eq
  intro i hi
  simp [own_255]
  intro h
  omega
theorem own_top (c w b : Int32) : (((own_h (c &&& 255) (w &&& 255) (b &&& 255)).toUInt32 >>> (24 : UInt32)).toInt32) = b &&& 255 := by
  apply Int32.toBitVec_inj.mp
  unfold own_h
  apply BitVec.eq_of_getLsbD_eq
  intro i hi
  simp [own_255]
  by_cases h : i < 8
  · have h1 : ¬ (24 + i - 8 < 8) := by omega
    have h2 : ¬ (24 + i < 8) := by omega
    have h3 : 24 + i < 32 := by omega
    simp [h, h1, h2, h3]
  · have h1 : ¬ (24 + i < 32) := by omega
    have h2 : ¬ (24 + i < 8) := by omega
    simp [h, h1, h2]

def own_En (Z : State) (nm : String) (c : Int32) : Prop := ∃ a : Addr, Sta Z Z.heap "com/example/boot_sealer/bootsealer/rp2350/ItemType" nm "Lcom/example/boot_sealer/bootsealer/rp2350/ItemType;" (.ref a) ∧ Exa Z Z.heap a "com/example/boot_sealer/bootsealer/rp2350/ItemType" ∧ Fld Z Z.heap a "com/example/boot_sealer/bootsealer/rp2350/ItemType" "code" "I" (.int c)
def own_All (Z : State) : Prop := own_En Z "VECTOR_TABLE" 3 ∧ own_En Z "ROLLING_WINDOW_DELTA" 5 ∧ own_En Z "LOAD_MAP" 6 ∧ own_En Z "SIGNATURE" 9 ∧ own_En Z "PARTITION_TABLE" 10 ∧ own_En Z "SALT" 12 ∧ own_En Z "NEXT_BLOCK_OFFSET" 65 ∧ own_En Z "IMAGE_TYPE" 66 ∧ own_En Z "ENTRY_POINT" 68 ∧ own_En Z "HASH_DEF" 71 ∧ own_En Z "VERSION" 72 ∧ own_En Z "HASH_VALUE" 75
def own_cd (p : Int32) : Int32 := if p = 0 then 3 else if p = 1 then 5 else if p = 2 then 6 else if p = 3 then 9 else if p = 4 then 10 else if p = 5 then 12 else if p = 6 then 65 else if p = 7 then 66 else if p = 8 then 68 else if p = 9 then 71 else if p = 10 then 72 else 75
theorem own_cd_m (p : Int32) : own_cd p &&& 255 = own_cd p := by
  unfold own_cd
  repeat (split; · decide)
  decide
theorem own_l1 (p w b : Int32) : (own_h (own_cd p) (w &&& 255) (b &&& 255)) &&& 255 = own_cd p := by
  have := own_low (own_cd p) w b; rwa [own_cd_m] at this
theorem own_l2 (p w b : Int32) : (((own_h (own_cd p) (w &&& 255) (b &&& 255)).toUInt32 >>> (8 : UInt32)).toInt32) &&& 255 = w &&& 255 := by
  have := own_sec (own_cd p) w b; rwa [own_cd_m] at this
theorem own_l3 (p w b : Int32) : (((own_h (own_cd p) (w &&& 255) (b &&& 255)).toUInt32 >>> (16 : UInt32)).toInt32) &&& 255 = 0 := by
  have := own_thi (own_cd p) w b; rwa [own_cd_m] at this
theorem own_l4 (p w b : Int32) : (((own_h (own_cd p) (w &&& 255) (b &&& 255)).toUInt32 >>> (24 : UInt32)).toInt32) = b &&& 255 := by
  have := own_top (own_cd p) w b; rwa [own_cd_m] at this

theorem d1_0 : decode method_2_code 0 = .ok (.iload_n 0, 1) := by decide +kernel
theorem d1_1 : decode method_2_code 1 = .ok (.ifCond .ne 7, 3) := by decide +kernel
theorem d1_4 : decode method_2_code 4 = .ok (.getstatic 7, 3) := by decide +kernel
theorem d1_7 : decode method_2_code 7 = .ok (.areturn, 1) := by decide +kernel
theorem d1_8 : decode method_2_code 8 = .ok (.iload_n 0, 1) := by decide +kernel
theorem d1_9 : decode method_2_code 9 = .ok (.iconst 1, 1) := by decide +kernel
theorem d1_10 : decode method_2_code 10 = .ok (.if_icmp .ne 7, 3) := by decide +kernel
theorem d1_13 : decode method_2_code 13 = .ok (.getstatic 13, 3) := by decide +kernel
theorem d1_16 : decode method_2_code 16 = .ok (.areturn, 1) := by decide +kernel
theorem d1_17 : decode method_2_code 17 = .ok (.iload_n 0, 1) := by decide +kernel
theorem d1_18 : decode method_2_code 18 = .ok (.iconst 2, 1) := by decide +kernel
theorem d1_19 : decode method_2_code 19 = .ok (.if_icmp .ne 7, 3) := by decide +kernel
theorem d1_22 : decode method_2_code 22 = .ok (.getstatic 16, 3) := by decide +kernel
theorem d1_25 : decode method_2_code 25 = .ok (.areturn, 1) := by decide +kernel
theorem d1_26 : decode method_2_code 26 = .ok (.iload_n 0, 1) := by decide +kernel
theorem d1_27 : decode method_2_code 27 = .ok (.iconst 3, 1) := by decide +kernel
theorem d1_28 : decode method_2_code 28 = .ok (.if_icmp .ne 7, 3) := by decide +kernel
theorem d1_31 : decode method_2_code 31 = .ok (.getstatic 19, 3) := by decide +kernel
theorem d1_34 : decode method_2_code 34 = .ok (.areturn, 1) := by decide +kernel
theorem d1_35 : decode method_2_code 35 = .ok (.iload_n 0, 1) := by decide +kernel
theorem d1_36 : decode method_2_code 36 = .ok (.iconst 4, 1) := by decide +kernel
theorem d1_37 : decode method_2_code 37 = .ok (.if_icmp .ne 7, 3) := by decide +kernel
theorem d1_40 : decode method_2_code 40 = .ok (.getstatic 22, 3) := by decide +kernel
theorem d1_43 : decode method_2_code 43 = .ok (.areturn, 1) := by decide +kernel
theorem d1_44 : decode method_2_code 44 = .ok (.iload_n 0, 1) := by decide +kernel
theorem d1_45 : decode method_2_code 45 = .ok (.iconst 5, 1) := by decide +kernel
theorem d1_46 : decode method_2_code 46 = .ok (.if_icmp .ne 7, 3) := by decide +kernel
theorem d1_49 : decode method_2_code 49 = .ok (.getstatic 25, 3) := by decide +kernel
theorem d1_52 : decode method_2_code 52 = .ok (.areturn, 1) := by decide +kernel
theorem d1_53 : decode method_2_code 53 = .ok (.iload_n 0, 1) := by decide +kernel
theorem d1_54 : decode method_2_code 54 = .ok (.bipush 6, 2) := by decide +kernel
theorem d1_56 : decode method_2_code 56 = .ok (.if_icmp .ne 7, 3) := by decide +kernel
theorem d1_59 : decode method_2_code 59 = .ok (.getstatic 28, 3) := by decide +kernel
theorem d1_62 : decode method_2_code 62 = .ok (.areturn, 1) := by decide +kernel
theorem d1_63 : decode method_2_code 63 = .ok (.iload_n 0, 1) := by decide +kernel
theorem d1_64 : decode method_2_code 64 = .ok (.bipush 7, 2) := by decide +kernel
theorem d1_66 : decode method_2_code 66 = .ok (.if_icmp .ne 7, 3) := by decide +kernel
theorem d1_69 : decode method_2_code 69 = .ok (.getstatic 31, 3) := by decide +kernel
theorem d1_72 : decode method_2_code 72 = .ok (.areturn, 1) := by decide +kernel
theorem d1_73 : decode method_2_code 73 = .ok (.iload_n 0, 1) := by decide +kernel
theorem d1_74 : decode method_2_code 74 = .ok (.bipush 8, 2) := by decide +kernel
theorem d1_76 : decode method_2_code 76 = .ok (.if_icmp .ne 7, 3) := by decide +kernel
theorem d1_79 : decode method_2_code 79 = .ok (.getstatic 34, 3) := by decide +kernel
theorem d1_82 : decode method_2_code 82 = .ok (.areturn, 1) := by decide +kernel
theorem d1_83 : decode method_2_code 83 = .ok (.iload_n 0, 1) := by decide +kernel
theorem d1_84 : decode method_2_code 84 = .ok (.bipush 9, 2) := by decide +kernel
theorem d1_86 : decode method_2_code 86 = .ok (.if_icmp .ne 7, 3) := by decide +kernel
theorem d1_89 : decode method_2_code 89 = .ok (.getstatic 37, 3) := by decide +kernel
theorem d1_92 : decode method_2_code 92 = .ok (.areturn, 1) := by decide +kernel
theorem d1_93 : decode method_2_code 93 = .ok (.iload_n 0, 1) := by decide +kernel
theorem d1_94 : decode method_2_code 94 = .ok (.bipush 10, 2) := by decide +kernel
theorem d1_96 : decode method_2_code 96 = .ok (.if_icmp .ne 7, 3) := by decide +kernel
theorem d1_99 : decode method_2_code 99 = .ok (.getstatic 40, 3) := by decide +kernel
theorem d1_102 : decode method_2_code 102 = .ok (.areturn, 1) := by decide +kernel
theorem d1_103 : decode method_2_code 103 = .ok (.getstatic 43, 3) := by decide +kernel
theorem d1_106 : decode method_2_code 106 = .ok (.areturn, 1) := by decide +kernel
theorem pn1 : plainFor (⟨"com/example/boot_sealer/bootsealer/rp2350/ItemTypeHeaderPinLaw", "pick", "(I)Lcom/example/boot_sealer/bootsealer/rp2350/ItemType;"⟩ : MethodName) = true := plainFor_of_name (by first | (simp [plainName, overriddenIn]; done) | decide +kernel)
theorem ef_rm1 (m : MethodId) (p1 : Int32) : entryFrame m #[(.int p1)] 1 = mkF m 0 #[.val (.int p1)] [] := by first | (simp [entryFrame, mkF, argsToLocals, Value.category]; done) | rfl
def Q1 (Z : State) (p1 : Int32) (h0 : Heap) (n0 : Nat) (v : Option Value) (h : Heap) (L : List Loc) : Prop := ∃ (b : Addr), v = some (.ref b) ∧ Fr n0 L ∧ (h = h0) ∧ (Exa Z Z.heap b "com/example/boot_sealer/bootsealer/rp2350/ItemType") ∧ (Fld Z Z.heap b "com/example/boot_sealer/bootsealer/rp2350/ItemType" "code" "I" (.int (own_cd p1)))
set_option maxRecDepth 65536 in
set_option maxHeartbeats 40000000 in
theorem rm1 (l : Launch) (Z : State) (a0 : Array Value) (hw : ∀ d ∈ tables_1, d.before a0 Z = true) (ws : List Jvm.Cond) (p1 : Int32) (h0 : Heap) (n0 : Nat) (Z0 : n0 ≤ h0.size) (O1 : Old Z n0 h0) (HA : own_All Z) :
    MetFree l (⟨"com/example/boot_sealer/bootsealer/rp2350/ItemTypeHeaderPinLaw", "pick", "(I)Lcom/example/boot_sealer/bootsealer/rp2350/ItemType;"⟩ : MethodName) (head1 (Jvm.Cond.code (⟨"com/example/boot_sealer/bootsealer/rp2350/ItemTypeHeaderPinLaw", "pick", "(I)Lcom/example/boot_sealer/bootsealer/rp2350/ItemType;"⟩ : MethodName) method_2_code 1 (some (.object "com/example/boot_sealer/bootsealer/rp2350/ItemType")) :: ws) ({ frames := 0, cells := 0, slots := 0, locals := 0 } : Room)) (fun a U => a = #[(.int p1)] ∧ Z.Warmed39 U.vm ∧ U.heap = h0) (fun _ _ _ _ _ => True) (fun _ U o U' => ∃ v L, o = .returned v ∧ Q1 Z p1 h0 n0 v U'.heap L ∧ FrameEnd U o U' L ({ frames := 0, cells := 0, slots := 0, locals := 0 } : Room).cells ({ frames := 0, cells := 0, slots := 0, locals := 0 } : Room).slots) := by
  refine MetFree.of_bodySF pn1 hisR ?_
  intro p e s m args below meth c s₁ Bd hml0 hP hK
  obtain ⟨rfl, hZ, hh⟩ := hP
  have hx := Bd.exec
  have hby := Bd.bytes
  have hml : c.maxLocals = 1 := hml0
  have hown : s.vm.findClass "com/example/boot_sealer/bootsealer/rp2350/ItemTypeHeaderPinLaw" = some m.cls := findClass_of_methodNamed Bd.named
  have hnm := (name_of_methodNamed Bd.named Bd.method).1
  have X0 : Stand p l e ({ frames := 0, cells := 0, slots := 0, locals := 0 } : Room) s m #[(.int p1)] below meth c s₁ [] 0 0 := Stand.of_body Bd
  have e0 : s₁.heap = h0 := by rw [← hh, Bd.state]; rfl
  have N0 := Fr.nil n0
  have p0 : Go p.tables e below (s₁.setTop (entryFrame m #[(.int p1)] 1)) (s₁.setTop (mkF m 0 #[.val (.int p1)] [])) := fun t k => castTop (ef_rm1 m p1) k
  obtain ⟨⟨w0, S0, E0, C0⟩, ⟨w1, S1, E1, C1⟩, ⟨w2, S2, E2, C2⟩, ⟨w3, S3, E3, C3⟩, ⟨w4, S4, E4, C4⟩, ⟨w5, S5, E5, C5⟩, ⟨w6, S6, E6, C6⟩, ⟨w7, S7, E7, C7⟩, ⟨w8, S8, E8, C8⟩, ⟨w9, S9, E9, C9⟩, ⟨w10, S10, E10, C10⟩, ⟨w11, S11, E11, C11⟩⟩ := HA
  have p101 : Go p.tables e below _ (s₁.setTop (mkF m 1 #[.val (.int p1)] [(.int p1)])) := fun t k => p0 t (by
    show Steps p.tables e below (s₁.setTop (mkF m 0 #[.val (.int p1)] [])) _
    refine XS.iloadN X0.here hx rfl (hb hby d1_0) rfl ?_
    show Steps p.tables e below (s₁.setTop (mkF m 1 #[.val (.int p1)] [(.int p1)])) _
    exact k)
  by_cases c102 : p1 = (0 : Int32)
  · have p103 : Go p.tables e below _ (s₁.setTop (mkF m 4 #[.val (.int p1)] [])) := fun t k => p101 t (by
      show Steps p.tables e below (s₁.setTop (mkF m 1 #[.val (.int p1)] [(.int p1)])) _
      refine XS.ifNo X0.here hx rfl (hb hby d1_1) rfl ((if0 _ _).trans (teq c102).2) ?_
      show Steps p.tables e below (s₁.setTop (mkF m 4 #[.val (.int p1)] [])) _
      exact k)
    obtain ⟨T104, X104, e104, st104⟩ := getS2 X0 hx hZ hown (host := "") (Or.inl (own_w hw 5 rfl)) Via.refl e0 (S0.ext O1.2) (g := (mkF m 4 #[.val (.int p1)] [])) rfl (hb hby d1_4)
    have p105 : Go p.tables e below _ (T104.setTop (mkF m 7 #[.val (.int p1)] [(.ref w0)])) := fun t k => p103 t (st104 t k)
    obtain ⟨fs, hr, hrun, hended, hW, hsame⟩ := X104.leave (v := some (.ref w0)) (fun h => by rw [Bd.returns] at h; cases h)
    refine ⟨_, _, p105 _ (retOut X104 hx (w := (.ref w0)) (i := .areturn) Bd.returns rfl (Or.inr (Or.inr (Or.inr (Or.inr ⟨rfl, rfl, rfl⟩)))) (hb hby d1_7) hr), hrun, hended, _, _, rfl, ?_, ⟨_, rfl⟩, hW, hsame.mono (by decide) (by decide)⟩
    show Q1 Z p1 h0 n0 _ T104.heap _
    rw [e104]
    exact ⟨w0, rfl, N0, rfl, E0, by simpa [own_cd, c102] using C0⟩
  · have p106 : Go p.tables e below _ (s₁.setTop (mkF m 8 #[.val (.int p1)] [])) := fun t k => p101 t (by
      show Steps p.tables e below (s₁.setTop (mkF m 1 #[.val (.int p1)] [(.int p1)])) _
      refine XS.ifYes X0.here hx rfl (pc0 := 1) (pc' := 8) rfl (hb hby d1_1) rfl ((if0 _ _).trans (feq c102).2) (by decide) (by decide) ?_
      show Steps p.tables e below (s₁.setTop (mkF m 8 #[.val (.int p1)] [])) _
      exact k)
    have p107 : Go p.tables e below _ (s₁.setTop (mkF m 10 #[.val (.int p1)] [(.int (1 : Int32)), (.int p1)])) := fun t k => p106 t (by
      show Steps p.tables e below (s₁.setTop (mkF m 8 #[.val (.int p1)] [])) _
      refine XS.iloadN X0.here hx rfl (hb hby d1_8) rfl ?_
      show Steps p.tables e below (s₁.setTop (mkF m 9 #[.val (.int p1)] [(.int p1)])) _
      refine XS.iconst X0.here hx rfl (hb hby d1_9) ?_
      show Steps p.tables e below (s₁.setTop (mkF m 10 #[.val (.int p1)] [(.int (1 : Int32)), (.int p1)])) _
      exact k)
    by_cases c108 : p1 = (1 : Int32)
    · have p109 : Go p.tables e below _ (s₁.setTop (mkF m 13 #[.val (.int p1)] [])) := fun t k => p107 t (by
        show Steps p.tables e below (s₁.setTop (mkF m 10 #[.val (.int p1)] [(.int (1 : Int32)), (.int p1)])) _
        refine XS.icmpNo X0.here hx rfl (hb hby d1_10) rfl (teq c108).2 ?_
        show Steps p.tables e below (s₁.setTop (mkF m 13 #[.val (.int p1)] [])) _
        exact k)
      obtain ⟨T110, X110, e110, st110⟩ := getS2 X0 hx hZ hown (host := "") (Or.inl (own_w hw 18 rfl)) Via.refl e0 (S1.ext O1.2) (g := (mkF m 13 #[.val (.int p1)] [])) rfl (hb hby d1_13)
      have p111 : Go p.tables e below _ (T110.setTop (mkF m 16 #[.val (.int p1)] [(.ref w1)])) := fun t k => p109 t (st110 t k)
      obtain ⟨fs, hr, hrun, hended, hW, hsame⟩ := X110.leave (v := some (.ref w1)) (fun h => by rw [Bd.returns] at h; cases h)
      refine ⟨_, _, p111 _ (retOut X110 hx (w := (.ref w1)) (i := .areturn) Bd.returns rfl (Or.inr (Or.inr (Or.inr (Or.inr ⟨rfl, rfl, rfl⟩)))) (hb hby d1_16) hr), hrun, hended, _, _, rfl, ?_, ⟨_, rfl⟩, hW, hsame.mono (by decide) (by decide)⟩
      show Q1 Z p1 h0 n0 _ T110.heap _
      rw [e110]
      exact ⟨w1, rfl, N0, rfl, E1, by simpa [own_cd, c102, c108] using C1⟩
    · have p112 : Go p.tables e below _ (s₁.setTop (mkF m 17 #[.val (.int p1)] [])) := fun t k => p107 t (by
        show Steps p.tables e below (s₁.setTop (mkF m 10 #[.val (.int p1)] [(.int (1 : Int32)), (.int p1)])) _
        refine XS.icmpYes X0.here hx rfl (pc0 := 10) (pc' := 17) rfl (hb hby d1_10) rfl (feq c108).2 (by decide) (by decide) ?_
        show Steps p.tables e below (s₁.setTop (mkF m 17 #[.val (.int p1)] [])) _
        exact k)
      have p113 : Go p.tables e below _ (s₁.setTop (mkF m 19 #[.val (.int p1)] [(.int (2 : Int32)), (.int p1)])) := fun t k => p112 t (by
        show Steps p.tables e below (s₁.setTop (mkF m 17 #[.val (.int p1)] [])) _
        refine XS.iloadN X0.here hx rfl (hb hby d1_17) rfl ?_
        show Steps p.tables e below (s₁.setTop (mkF m 18 #[.val (.int p1)] [(.int p1)])) _
        refine XS.iconst X0.here hx rfl (hb hby d1_18) ?_
        show Steps p.tables e below (s₁.setTop (mkF m 19 #[.val (.int p1)] [(.int (2 : Int32)), (.int p1)])) _
        exact k)
      by_cases c114 : p1 = (2 : Int32)
      · have p115 : Go p.tables e below _ (s₁.setTop (mkF m 22 #[.val (.int p1)] [])) := fun t k => p113 t (by
          show Steps p.tables e below (s₁.setTop (mkF m 19 #[.val (.int p1)] [(.int (2 : Int32)), (.int p1)])) _
          refine XS.icmpNo X0.here hx rfl (hb hby d1_19) rfl (teq c114).2 ?_
          show Steps p.tables e below (s₁.setTop (mkF m 22 #[.val (.int p1)] [])) _
          exact k)
        obtain ⟨T116, X116, e116, st116⟩ := getS2 X0 hx hZ hown (host := "") (Or.inl (own_w hw 36 rfl)) Via.refl e0 (S2.ext O1.2) (g := (mkF m 22 #[.val (.int p1)] [])) rfl (hb hby d1_22)
        have p117 : Go p.tables e below _ (T116.setTop (mkF m 25 #[.val (.int p1)] [(.ref w2)])) := fun t k => p115 t (st116 t k)
        obtain ⟨fs, hr, hrun, hended, hW, hsame⟩ := X116.leave (v := some (.ref w2)) (fun h => by rw [Bd.returns] at h; cases h)
        refine ⟨_, _, p117 _ (retOut X116 hx (w := (.ref w2)) (i := .areturn) Bd.returns rfl (Or.inr (Or.inr (Or.inr (Or.inr ⟨rfl, rfl, rfl⟩)))) (hb hby d1_25) hr), hrun, hended, _, _, rfl, ?_, ⟨_, rfl⟩, hW, hsame.mono (by decide) (by decide)⟩
        show Q1 Z p1 h0 n0 _ T116.heap _
        rw [e116]
        exact ⟨w2, rfl, N0, rfl, E2, by simpa [own_cd, c102, c108, c114] using C2⟩
      · have p118 : Go p.tables e below _ (s₁.setTop (mkF m 26 #[.val (.int p1)] [])) := fun t k => p113 t (by
          show Steps p.tables e below (s₁.setTop (mkF m 19 #[.val (.int p1)] [(.int (2 : Int32)), (.int p1)])) _
          refine XS.icmpYes X0.here hx rfl (pc0 := 19) (pc' := 26) rfl (hb hby d1_19) rfl (feq c114).2 (by decide) (by decide) ?_
          show Steps p.tables e below (s₁.setTop (mkF m 26 #[.val (.int p1)] [])) _
          exact k)
        have p119 : Go p.tables e below _ (s₁.setTop (mkF m 28 #[.val (.int p1)] [(.int (3 : Int32)), (.int p1)])) := fun t k => p118 t (by
          show Steps p.tables e below (s₁.setTop (mkF m 26 #[.val (.int p1)] [])) _
          refine XS.iloadN X0.here hx rfl (hb hby d1_26) rfl ?_
          show Steps p.tables e below (s₁.setTop (mkF m 27 #[.val (.int p1)] [(.int p1)])) _
          refine XS.iconst X0.here hx rfl (hb hby d1_27) ?_
          show Steps p.tables e below (s₁.setTop (mkF m 28 #[.val (.int p1)] [(.int (3 : Int32)), (.int p1)])) _
          exact k)
        by_cases c120 : p1 = (3 : Int32)
        · have p121 : Go p.tables e below _ (s₁.setTop (mkF m 31 #[.val (.int p1)] [])) := fun t k => p119 t (by
            show Steps p.tables e below (s₁.setTop (mkF m 28 #[.val (.int p1)] [(.int (3 : Int32)), (.int p1)])) _
            refine XS.icmpNo X0.here hx rfl (hb hby d1_28) rfl (teq c120).2 ?_
            show Steps p.tables e below (s₁.setTop (mkF m 31 #[.val (.int p1)] [])) _
            exact k)
          obtain ⟨T122, X122, e122, st122⟩ := getS2 X0 hx hZ hown (host := "") (Or.inl (own_w hw 28 rfl)) Via.refl e0 (S3.ext O1.2) (g := (mkF m 31 #[.val (.int p1)] [])) rfl (hb hby d1_31)
          have p123 : Go p.tables e below _ (T122.setTop (mkF m 34 #[.val (.int p1)] [(.ref w3)])) := fun t k => p121 t (st122 t k)
          obtain ⟨fs, hr, hrun, hended, hW, hsame⟩ := X122.leave (v := some (.ref w3)) (fun h => by rw [Bd.returns] at h; cases h)
          refine ⟨_, _, p123 _ (retOut X122 hx (w := (.ref w3)) (i := .areturn) Bd.returns rfl (Or.inr (Or.inr (Or.inr (Or.inr ⟨rfl, rfl, rfl⟩)))) (hb hby d1_34) hr), hrun, hended, _, _, rfl, ?_, ⟨_, rfl⟩, hW, hsame.mono (by decide) (by decide)⟩
          show Q1 Z p1 h0 n0 _ T122.heap _
          rw [e122]
          exact ⟨w3, rfl, N0, rfl, E3, by simpa [own_cd, c102, c108, c114, c120] using C3⟩
        · have p124 : Go p.tables e below _ (s₁.setTop (mkF m 35 #[.val (.int p1)] [])) := fun t k => p119 t (by
            show Steps p.tables e below (s₁.setTop (mkF m 28 #[.val (.int p1)] [(.int (3 : Int32)), (.int p1)])) _
            refine XS.icmpYes X0.here hx rfl (pc0 := 28) (pc' := 35) rfl (hb hby d1_28) rfl (feq c120).2 (by decide) (by decide) ?_
            show Steps p.tables e below (s₁.setTop (mkF m 35 #[.val (.int p1)] [])) _
            exact k)
          have p125 : Go p.tables e below _ (s₁.setTop (mkF m 37 #[.val (.int p1)] [(.int (4 : Int32)), (.int p1)])) := fun t k => p124 t (by
            show Steps p.tables e below (s₁.setTop (mkF m 35 #[.val (.int p1)] [])) _
            refine XS.iloadN X0.here hx rfl (hb hby d1_35) rfl ?_
            show Steps p.tables e below (s₁.setTop (mkF m 36 #[.val (.int p1)] [(.int p1)])) _
            refine XS.iconst X0.here hx rfl (hb hby d1_36) ?_
            show Steps p.tables e below (s₁.setTop (mkF m 37 #[.val (.int p1)] [(.int (4 : Int32)), (.int p1)])) _
            exact k)
          by_cases c126 : p1 = (4 : Int32)
          · have p127 : Go p.tables e below _ (s₁.setTop (mkF m 40 #[.val (.int p1)] [])) := fun t k => p125 t (by
              show Steps p.tables e below (s₁.setTop (mkF m 37 #[.val (.int p1)] [(.int (4 : Int32)), (.int p1)])) _
              refine XS.icmpNo X0.here hx rfl (hb hby d1_37) rfl (teq c126).2 ?_
              show Steps p.tables e below (s₁.setTop (mkF m 40 #[.val (.int p1)] [])) _
              exact k)
            obtain ⟨T128, X128, e128, st128⟩ := getS2 X0 hx hZ hown (host := "") (Or.inl (own_w hw 32 rfl)) Via.refl e0 (S4.ext O1.2) (g := (mkF m 40 #[.val (.int p1)] [])) rfl (hb hby d1_40)
            have p129 : Go p.tables e below _ (T128.setTop (mkF m 43 #[.val (.int p1)] [(.ref w4)])) := fun t k => p127 t (st128 t k)
            obtain ⟨fs, hr, hrun, hended, hW, hsame⟩ := X128.leave (v := some (.ref w4)) (fun h => by rw [Bd.returns] at h; cases h)
            refine ⟨_, _, p129 _ (retOut X128 hx (w := (.ref w4)) (i := .areturn) Bd.returns rfl (Or.inr (Or.inr (Or.inr (Or.inr ⟨rfl, rfl, rfl⟩)))) (hb hby d1_43) hr), hrun, hended, _, _, rfl, ?_, ⟨_, rfl⟩, hW, hsame.mono (by decide) (by decide)⟩
            show Q1 Z p1 h0 n0 _ T128.heap _
            rw [e128]
            exact ⟨w4, rfl, N0, rfl, E4, by simpa [own_cd, c102, c108, c114, c120, c126] using C4⟩
          · have p130 : Go p.tables e below _ (s₁.setTop (mkF m 44 #[.val (.int p1)] [])) := fun t k => p125 t (by
              show Steps p.tables e below (s₁.setTop (mkF m 37 #[.val (.int p1)] [(.int (4 : Int32)), (.int p1)])) _
              refine XS.icmpYes X0.here hx rfl (pc0 := 37) (pc' := 44) rfl (hb hby d1_37) rfl (feq c126).2 (by decide) (by decide) ?_
              show Steps p.tables e below (s₁.setTop (mkF m 44 #[.val (.int p1)] [])) _
              exact k)
            have p131 : Go p.tables e below _ (s₁.setTop (mkF m 46 #[.val (.int p1)] [(.int (5 : Int32)), (.int p1)])) := fun t k => p130 t (by
              show Steps p.tables e below (s₁.setTop (mkF m 44 #[.val (.int p1)] [])) _
              refine XS.iloadN X0.here hx rfl (hb hby d1_44) rfl ?_
              show Steps p.tables e below (s₁.setTop (mkF m 45 #[.val (.int p1)] [(.int p1)])) _
              refine XS.iconst X0.here hx rfl (hb hby d1_45) ?_
              show Steps p.tables e below (s₁.setTop (mkF m 46 #[.val (.int p1)] [(.int (5 : Int32)), (.int p1)])) _
              exact k)
            by_cases c132 : p1 = (5 : Int32)
            · have p133 : Go p.tables e below _ (s₁.setTop (mkF m 49 #[.val (.int p1)] [])) := fun t k => p131 t (by
                show Steps p.tables e below (s₁.setTop (mkF m 46 #[.val (.int p1)] [(.int (5 : Int32)), (.int p1)])) _
                refine XS.icmpNo X0.here hx rfl (hb hby d1_46) rfl (teq c132).2 ?_
                show Steps p.tables e below (s₁.setTop (mkF m 49 #[.val (.int p1)] [])) _
                exact k)
              obtain ⟨T134, X134, e134, st134⟩ := getS2 X0 hx hZ hown (host := "") (Or.inl (own_w hw 34 rfl)) Via.refl e0 (S5.ext O1.2) (g := (mkF m 49 #[.val (.int p1)] [])) rfl (hb hby d1_49)
              have p135 : Go p.tables e below _ (T134.setTop (mkF m 52 #[.val (.int p1)] [(.ref w5)])) := fun t k => p133 t (st134 t k)
              obtain ⟨fs, hr, hrun, hended, hW, hsame⟩ := X134.leave (v := some (.ref w5)) (fun h => by rw [Bd.returns] at h; cases h)
              refine ⟨_, _, p135 _ (retOut X134 hx (w := (.ref w5)) (i := .areturn) Bd.returns rfl (Or.inr (Or.inr (Or.inr (Or.inr ⟨rfl, rfl, rfl⟩)))) (hb hby d1_52) hr), hrun, hended, _, _, rfl, ?_, ⟨_, rfl⟩, hW, hsame.mono (by decide) (by decide)⟩
              show Q1 Z p1 h0 n0 _ T134.heap _
              rw [e134]
              exact ⟨w5, rfl, N0, rfl, E5, by simpa [own_cd, c102, c108, c114, c120, c126, c132] using C5⟩
            · have p136 : Go p.tables e below _ (s₁.setTop (mkF m 53 #[.val (.int p1)] [])) := fun t k => p131 t (by
                show Steps p.tables e below (s₁.setTop (mkF m 46 #[.val (.int p1)] [(.int (5 : Int32)), (.int p1)])) _
                refine XS.icmpYes X0.here hx rfl (pc0 := 46) (pc' := 53) rfl (hb hby d1_46) rfl (feq c132).2 (by decide) (by decide) ?_
                show Steps p.tables e below (s₁.setTop (mkF m 53 #[.val (.int p1)] [])) _
                exact k)
              have p137 : Go p.tables e below _ (s₁.setTop (mkF m 56 #[.val (.int p1)] [(.int (6 : Int32)), (.int p1)])) := fun t k => p136 t (by
                show Steps p.tables e below (s₁.setTop (mkF m 53 #[.val (.int p1)] [])) _
                refine XS.iloadN X0.here hx rfl (hb hby d1_53) rfl ?_
                show Steps p.tables e below (s₁.setTop (mkF m 54 #[.val (.int p1)] [(.int p1)])) _
                refine XS.bipush X0.here hx rfl (hb hby d1_54) ?_
                show Steps p.tables e below (s₁.setTop (mkF m 56 #[.val (.int p1)] [(.int (6 : Int32)), (.int p1)])) _
                exact k)
              by_cases c138 : p1 = (6 : Int32)
              · have p139 : Go p.tables e below _ (s₁.setTop (mkF m 59 #[.val (.int p1)] [])) := fun t k => p137 t (by
                  show Steps p.tables e below (s₁.setTop (mkF m 56 #[.val (.int p1)] [(.int (6 : Int32)), (.int p1)])) _
                  refine XS.icmpNo X0.here hx rfl (hb hby d1_56) rfl (teq c138).2 ?_
                  show Steps p.tables e below (s₁.setTop (mkF m 59 #[.val (.int p1)] [])) _
                  exact k)
                obtain ⟨T140, X140, e140, st140⟩ := getS2 X0 hx hZ hown (host := "") (Or.inl (own_w hw 24 rfl)) Via.refl e0 (S6.ext O1.2) (g := (mkF m 59 #[.val (.int p1)] [])) rfl (hb hby d1_59)
                have p141 : Go p.tables e below _ (T140.setTop (mkF m 62 #[.val (.int p1)] [(.ref w6)])) := fun t k => p139 t (st140 t k)
                obtain ⟨fs, hr, hrun, hended, hW, hsame⟩ := X140.leave (v := some (.ref w6)) (fun h => by rw [Bd.returns] at h; cases h)
                refine ⟨_, _, p141 _ (retOut X140 hx (w := (.ref w6)) (i := .areturn) Bd.returns rfl (Or.inr (Or.inr (Or.inr (Or.inr ⟨rfl, rfl, rfl⟩)))) (hb hby d1_62) hr), hrun, hended, _, _, rfl, ?_, ⟨_, rfl⟩, hW, hsame.mono (by decide) (by decide)⟩
                show Q1 Z p1 h0 n0 _ T140.heap _
                rw [e140]
                exact ⟨w6, rfl, N0, rfl, E6, by simpa [own_cd, c102, c108, c114, c120, c126, c132, c138] using C6⟩
              · have p142 : Go p.tables e below _ (s₁.setTop (mkF m 63 #[.val (.int p1)] [])) := fun t k => p137 t (by
                  show Steps p.tables e below (s₁.setTop (mkF m 56 #[.val (.int p1)] [(.int (6 : Int32)), (.int p1)])) _
                  refine XS.icmpYes X0.here hx rfl (pc0 := 56) (pc' := 63) rfl (hb hby d1_56) rfl (feq c138).2 (by decide) (by decide) ?_
                  show Steps p.tables e below (s₁.setTop (mkF m 63 #[.val (.int p1)] [])) _
                  exact k)
                have p143 : Go p.tables e below _ (s₁.setTop (mkF m 66 #[.val (.int p1)] [(.int (7 : Int32)), (.int p1)])) := fun t k => p142 t (by
                  show Steps p.tables e below (s₁.setTop (mkF m 63 #[.val (.int p1)] [])) _
                  refine XS.iloadN X0.here hx rfl (hb hby d1_63) rfl ?_
                  show Steps p.tables e below (s₁.setTop (mkF m 64 #[.val (.int p1)] [(.int p1)])) _
                  refine XS.bipush X0.here hx rfl (hb hby d1_64) ?_
                  show Steps p.tables e below (s₁.setTop (mkF m 66 #[.val (.int p1)] [(.int (7 : Int32)), (.int p1)])) _
                  exact k)
                by_cases c144 : p1 = (7 : Int32)
                · have p145 : Go p.tables e below _ (s₁.setTop (mkF m 69 #[.val (.int p1)] [])) := fun t k => p143 t (by
                    show Steps p.tables e below (s₁.setTop (mkF m 66 #[.val (.int p1)] [(.int (7 : Int32)), (.int p1)])) _
                    refine XS.icmpNo X0.here hx rfl (hb hby d1_66) rfl (teq c144).2 ?_
                    show Steps p.tables e below (s₁.setTop (mkF m 69 #[.val (.int p1)] [])) _
                    exact k)
                  obtain ⟨T146, X146, e146, st146⟩ := getS2 X0 hx hZ hown (host := "") (Or.inl (own_w hw 26 rfl)) Via.refl e0 (S7.ext O1.2) (g := (mkF m 69 #[.val (.int p1)] [])) rfl (hb hby d1_69)
                  have p147 : Go p.tables e below _ (T146.setTop (mkF m 72 #[.val (.int p1)] [(.ref w7)])) := fun t k => p145 t (st146 t k)
                  obtain ⟨fs, hr, hrun, hended, hW, hsame⟩ := X146.leave (v := some (.ref w7)) (fun h => by rw [Bd.returns] at h; cases h)
                  refine ⟨_, _, p147 _ (retOut X146 hx (w := (.ref w7)) (i := .areturn) Bd.returns rfl (Or.inr (Or.inr (Or.inr (Or.inr ⟨rfl, rfl, rfl⟩)))) (hb hby d1_72) hr), hrun, hended, _, _, rfl, ?_, ⟨_, rfl⟩, hW, hsame.mono (by decide) (by decide)⟩
                  show Q1 Z p1 h0 n0 _ T146.heap _
                  rw [e146]
                  exact ⟨w7, rfl, N0, rfl, E7, by simpa [own_cd, c102, c108, c114, c120, c126, c132, c138, c144] using C7⟩
                · have p148 : Go p.tables e below _ (s₁.setTop (mkF m 73 #[.val (.int p1)] [])) := fun t k => p143 t (by
                    show Steps p.tables e below (s₁.setTop (mkF m 66 #[.val (.int p1)] [(.int (7 : Int32)), (.int p1)])) _
                    refine XS.icmpYes X0.here hx rfl (pc0 := 66) (pc' := 73) rfl (hb hby d1_66) rfl (feq c144).2 (by decide) (by decide) ?_
                    show Steps p.tables e below (s₁.setTop (mkF m 73 #[.val (.int p1)] [])) _
                    exact k)
                  have p149 : Go p.tables e below _ (s₁.setTop (mkF m 76 #[.val (.int p1)] [(.int (8 : Int32)), (.int p1)])) := fun t k => p148 t (by
                    show Steps p.tables e below (s₁.setTop (mkF m 73 #[.val (.int p1)] [])) _
                    refine XS.iloadN X0.here hx rfl (hb hby d1_73) rfl ?_
                    show Steps p.tables e below (s₁.setTop (mkF m 74 #[.val (.int p1)] [(.int p1)])) _
                    refine XS.bipush X0.here hx rfl (hb hby d1_74) ?_
                    show Steps p.tables e below (s₁.setTop (mkF m 76 #[.val (.int p1)] [(.int (8 : Int32)), (.int p1)])) _
                    exact k)
                  by_cases c150 : p1 = (8 : Int32)
                  · have p151 : Go p.tables e below _ (s₁.setTop (mkF m 79 #[.val (.int p1)] [])) := fun t k => p149 t (by
                      show Steps p.tables e below (s₁.setTop (mkF m 76 #[.val (.int p1)] [(.int (8 : Int32)), (.int p1)])) _
                      refine XS.icmpNo X0.here hx rfl (hb hby d1_76) rfl (teq c150).2 ?_
                      show Steps p.tables e below (s₁.setTop (mkF m 79 #[.val (.int p1)] [])) _
                      exact k)
                    obtain ⟨T152, X152, e152, st152⟩ := getS2 X0 hx hZ hown (host := "") (Or.inl (own_w hw 20 rfl)) Via.refl e0 (S8.ext O1.2) (g := (mkF m 79 #[.val (.int p1)] [])) rfl (hb hby d1_79)
                    have p153 : Go p.tables e below _ (T152.setTop (mkF m 82 #[.val (.int p1)] [(.ref w8)])) := fun t k => p151 t (st152 t k)
                    obtain ⟨fs, hr, hrun, hended, hW, hsame⟩ := X152.leave (v := some (.ref w8)) (fun h => by rw [Bd.returns] at h; cases h)
                    refine ⟨_, _, p153 _ (retOut X152 hx (w := (.ref w8)) (i := .areturn) Bd.returns rfl (Or.inr (Or.inr (Or.inr (Or.inr ⟨rfl, rfl, rfl⟩)))) (hb hby d1_82) hr), hrun, hended, _, _, rfl, ?_, ⟨_, rfl⟩, hW, hsame.mono (by decide) (by decide)⟩
                    show Q1 Z p1 h0 n0 _ T152.heap _
                    rw [e152]
                    exact ⟨w8, rfl, N0, rfl, E8, by simpa [own_cd, c102, c108, c114, c120, c126, c132, c138, c144, c150] using C8⟩
                  · have p154 : Go p.tables e below _ (s₁.setTop (mkF m 83 #[.val (.int p1)] [])) := fun t k => p149 t (by
                      show Steps p.tables e below (s₁.setTop (mkF m 76 #[.val (.int p1)] [(.int (8 : Int32)), (.int p1)])) _
                      refine XS.icmpYes X0.here hx rfl (pc0 := 76) (pc' := 83) rfl (hb hby d1_76) rfl (feq c150).2 (by decide) (by decide) ?_
                      show Steps p.tables e below (s₁.setTop (mkF m 83 #[.val (.int p1)] [])) _
                      exact k)
                    have p155 : Go p.tables e below _ (s₁.setTop (mkF m 86 #[.val (.int p1)] [(.int (9 : Int32)), (.int p1)])) := fun t k => p154 t (by
                      show Steps p.tables e below (s₁.setTop (mkF m 83 #[.val (.int p1)] [])) _
                      refine XS.iloadN X0.here hx rfl (hb hby d1_83) rfl ?_
                      show Steps p.tables e below (s₁.setTop (mkF m 84 #[.val (.int p1)] [(.int p1)])) _
                      refine XS.bipush X0.here hx rfl (hb hby d1_84) ?_
                      show Steps p.tables e below (s₁.setTop (mkF m 86 #[.val (.int p1)] [(.int (9 : Int32)), (.int p1)])) _
                      exact k)
                    by_cases c156 : p1 = (9 : Int32)
                    · have p157 : Go p.tables e below _ (s₁.setTop (mkF m 89 #[.val (.int p1)] [])) := fun t k => p155 t (by
                        show Steps p.tables e below (s₁.setTop (mkF m 86 #[.val (.int p1)] [(.int (9 : Int32)), (.int p1)])) _
                        refine XS.icmpNo X0.here hx rfl (hb hby d1_86) rfl (teq c156).2 ?_
                        show Steps p.tables e below (s₁.setTop (mkF m 89 #[.val (.int p1)] [])) _
                        exact k)
                      obtain ⟨T158, X158, e158, st158⟩ := getS2 X0 hx hZ hown (host := "") (Or.inl (own_w hw 38 rfl)) Via.refl e0 (S9.ext O1.2) (g := (mkF m 89 #[.val (.int p1)] [])) rfl (hb hby d1_89)
                      have p159 : Go p.tables e below _ (T158.setTop (mkF m 92 #[.val (.int p1)] [(.ref w9)])) := fun t k => p157 t (st158 t k)
                      obtain ⟨fs, hr, hrun, hended, hW, hsame⟩ := X158.leave (v := some (.ref w9)) (fun h => by rw [Bd.returns] at h; cases h)
                      refine ⟨_, _, p159 _ (retOut X158 hx (w := (.ref w9)) (i := .areturn) Bd.returns rfl (Or.inr (Or.inr (Or.inr (Or.inr ⟨rfl, rfl, rfl⟩)))) (hb hby d1_92) hr), hrun, hended, _, _, rfl, ?_, ⟨_, rfl⟩, hW, hsame.mono (by decide) (by decide)⟩
                      show Q1 Z p1 h0 n0 _ T158.heap _
                      rw [e158]
                      exact ⟨w9, rfl, N0, rfl, E9, by simpa [own_cd, c102, c108, c114, c120, c126, c132, c138, c144, c150, c156] using C9⟩
                    · have p160 : Go p.tables e below _ (s₁.setTop (mkF m 93 #[.val (.int p1)] [])) := fun t k => p155 t (by
                        show Steps p.tables e below (s₁.setTop (mkF m 86 #[.val (.int p1)] [(.int (9 : Int32)), (.int p1)])) _
                        refine XS.icmpYes X0.here hx rfl (pc0 := 86) (pc' := 93) rfl (hb hby d1_86) rfl (feq c156).2 (by decide) (by decide) ?_
                        show Steps p.tables e below (s₁.setTop (mkF m 93 #[.val (.int p1)] [])) _
                        exact k)
                      have p161 : Go p.tables e below _ (s₁.setTop (mkF m 96 #[.val (.int p1)] [(.int (10 : Int32)), (.int p1)])) := fun t k => p160 t (by
                        show Steps p.tables e below (s₁.setTop (mkF m 93 #[.val (.int p1)] [])) _
                        refine XS.iloadN X0.here hx rfl (hb hby d1_93) rfl ?_
                        show Steps p.tables e below (s₁.setTop (mkF m 94 #[.val (.int p1)] [(.int p1)])) _
                        refine XS.bipush X0.here hx rfl (hb hby d1_94) ?_
                        show Steps p.tables e below (s₁.setTop (mkF m 96 #[.val (.int p1)] [(.int (10 : Int32)), (.int p1)])) _
                        exact k)
                      by_cases c162 : p1 = (10 : Int32)
                      · have p163 : Go p.tables e below _ (s₁.setTop (mkF m 99 #[.val (.int p1)] [])) := fun t k => p161 t (by
                          show Steps p.tables e below (s₁.setTop (mkF m 96 #[.val (.int p1)] [(.int (10 : Int32)), (.int p1)])) _
                          refine XS.icmpNo X0.here hx rfl (hb hby d1_96) rfl (teq c162).2 ?_
                          show Steps p.tables e below (s₁.setTop (mkF m 99 #[.val (.int p1)] [])) _
                          exact k)
                        obtain ⟨T164, X164, e164, st164⟩ := getS2 X0 hx hZ hown (host := "") (Or.inl (own_w hw 30 rfl)) Via.refl e0 (S10.ext O1.2) (g := (mkF m 99 #[.val (.int p1)] [])) rfl (hb hby d1_99)
                        have p165 : Go p.tables e below _ (T164.setTop (mkF m 102 #[.val (.int p1)] [(.ref w10)])) := fun t k => p163 t (st164 t k)
                        obtain ⟨fs, hr, hrun, hended, hW, hsame⟩ := X164.leave (v := some (.ref w10)) (fun h => by rw [Bd.returns] at h; cases h)
                        refine ⟨_, _, p165 _ (retOut X164 hx (w := (.ref w10)) (i := .areturn) Bd.returns rfl (Or.inr (Or.inr (Or.inr (Or.inr ⟨rfl, rfl, rfl⟩)))) (hb hby d1_102) hr), hrun, hended, _, _, rfl, ?_, ⟨_, rfl⟩, hW, hsame.mono (by decide) (by decide)⟩
                        show Q1 Z p1 h0 n0 _ T164.heap _
                        rw [e164]
                        exact ⟨w10, rfl, N0, rfl, E10, by simpa [own_cd, c102, c108, c114, c120, c126, c132, c138, c144, c150, c156, c162] using C10⟩
                      · have p166 : Go p.tables e below _ (s₁.setTop (mkF m 103 #[.val (.int p1)] [])) := fun t k => p161 t (by
                          show Steps p.tables e below (s₁.setTop (mkF m 96 #[.val (.int p1)] [(.int (10 : Int32)), (.int p1)])) _
                          refine XS.icmpYes X0.here hx rfl (pc0 := 96) (pc' := 103) rfl (hb hby d1_96) rfl (feq c162).2 (by decide) (by decide) ?_
                          show Steps p.tables e below (s₁.setTop (mkF m 103 #[.val (.int p1)] [])) _
                          exact k)
                        obtain ⟨T167, X167, e167, st167⟩ := getS2 X0 hx hZ hown (host := "") (Or.inl (own_w hw 22 rfl)) Via.refl e0 (S11.ext O1.2) (g := (mkF m 103 #[.val (.int p1)] [])) rfl (hb hby d1_103)
                        have p168 : Go p.tables e below _ (T167.setTop (mkF m 106 #[.val (.int p1)] [(.ref w11)])) := fun t k => p166 t (st167 t k)
                        obtain ⟨fs, hr, hrun, hended, hW, hsame⟩ := X167.leave (v := some (.ref w11)) (fun h => by rw [Bd.returns] at h; cases h)
                        refine ⟨_, _, p168 _ (retOut X167 hx (w := (.ref w11)) (i := .areturn) Bd.returns rfl (Or.inr (Or.inr (Or.inr (Or.inr ⟨rfl, rfl, rfl⟩)))) (hb hby d1_106) hr), hrun, hended, _, _, rfl, ?_, ⟨_, rfl⟩, hW, hsame.mono (by decide) (by decide)⟩
                        show Q1 Z p1 h0 n0 _ T167.heap _
                        rw [e167]
                        exact ⟨w11, rfl, N0, rfl, E11, by simpa [own_cd, c102, c108, c114, c120, c126, c132, c138, c144, c150, c156, c162] using C11⟩
theorem d2_0 : decode prog_37_method_5_code 0 = .ok (.aload_n 0, 1) := by decide +kernel
theorem d2_1 : decode prog_37_method_5_code 1 = .ok (.getfield 65, 3) := by decide +kernel
theorem d2_4 : decode prog_37_method_5_code 4 = .ok (.iload_n 1, 1) := by decide +kernel
theorem d2_5 : decode prog_37_method_5_code 5 = .ok (.bipush 8, 2) := by decide +kernel
theorem d2_7 : decode prog_37_method_5_code 7 = .ok (.ishl, 1) := by decide +kernel
theorem d2_8 : decode prog_37_method_5_code 8 = .ok (.ior, 1) := by decide +kernel
theorem d2_9 : decode prog_37_method_5_code 9 = .ok (.iload_n 2, 1) := by decide +kernel
theorem d2_10 : decode prog_37_method_5_code 10 = .ok (.bipush 24, 2) := by decide +kernel
theorem d2_12 : decode prog_37_method_5_code 12 = .ok (.ishl, 1) := by decide +kernel
theorem d2_13 : decode prog_37_method_5_code 13 = .ok (.ior, 1) := by decide +kernel
theorem d2_14 : decode prog_37_method_5_code 14 = .ok (.ireturn, 1) := by decide +kernel
theorem pn2 : plainFor (⟨"com/example/boot_sealer/bootsealer/rp2350/ItemType", "header", "(II)I"⟩ : MethodName) = true := plainFor_of_name (by first | (simp [plainName, overriddenIn]; done) | decide +kernel)
theorem ef_rm2 (m : MethodId) (a1 : Addr) (p2 : Int32) (p3 : Int32) (c1 : Int32) : entryFrame m #[(.ref a1), (.int p2), (.int p3)] 3 = mkF m 0 #[.val (.ref a1), .val (.int p2), .val (.int p3)] [] := by first | (simp [entryFrame, mkF, argsToLocals, Value.category]; done) | rfl
def Q2 (Z : State) (a1 : Addr) (p2 : Int32) (p3 : Int32) (c1 : Int32) (h0 : Heap) (n0 : Nat) (v : Option Value) (h : Heap) (L : List Loc) : Prop := v = some (.int (own_h c1 p2 p3)) ∧ Fr n0 L ∧ (h = h0)
set_option maxRecDepth 65536 in
set_option maxHeartbeats 40000000 in
theorem rm2 (l : Launch) (Z : State) (a0 : Array Value) (hw : ∀ d ∈ tables_1, d.before a0 Z = true) (ws : List Jvm.Cond) (a1 : Addr) (p2 : Int32) (p3 : Int32) (c1 : Int32) (h0 : Heap) (n0 : Nat) (Z0 : n0 ≤ h0.size) (F1 : Fld Z h0 a1 "com/example/boot_sealer/bootsealer/rp2350/ItemType" "code" "I" (.int c1)) :
    MetFree l (⟨"com/example/boot_sealer/bootsealer/rp2350/ItemType", "header", "(II)I"⟩ : MethodName) (head1 (Jvm.Cond.code (⟨"com/example/boot_sealer/bootsealer/rp2350/ItemType", "header", "(II)I"⟩ : MethodName) prog_37_method_5_code 3 (some .int) :: ws) ({ frames := 0, cells := 0, slots := 0, locals := 0 } : Room)) (fun a U => a = #[(.ref a1), (.int p2), (.int p3)] ∧ Z.Warmed39 U.vm ∧ U.heap = h0) (fun _ _ _ _ _ => True) (fun _ U o U' => ∃ v L, o = .returned v ∧ Q2 Z a1 p2 p3 c1 h0 n0 v U'.heap L ∧ FrameEnd U o U' L ({ frames := 0, cells := 0, slots := 0, locals := 0 } : Room).cells ({ frames := 0, cells := 0, slots := 0, locals := 0 } : Room).slots) := by
  refine MetFree.of_bodySF pn2 hisR ?_
  intro p e s m args below meth c s₁ Bd hml0 hP hK
  obtain ⟨rfl, hZ, hh⟩ := hP
  have hx := Bd.exec
  have hby := Bd.bytes
  have hml : c.maxLocals = 3 := hml0
  have hown : s.vm.findClass "com/example/boot_sealer/bootsealer/rp2350/ItemType" = some m.cls := findClass_of_methodNamed Bd.named
  have hnm := (name_of_methodNamed Bd.named Bd.method).1
  have X0 : Stand p l e ({ frames := 0, cells := 0, slots := 0, locals := 0 } : Room) s m #[(.ref a1), (.int p2), (.int p3)] below meth c s₁ [] 0 0 := Stand.of_body Bd
  have e0 : s₁.heap = h0 := by rw [← hh, Bd.state]; rfl
  have N0 := Fr.nil n0
  have p0 : Go p.tables e below (s₁.setTop (entryFrame m #[(.ref a1), (.int p2), (.int p3)] 3)) (s₁.setTop (mkF m 0 #[.val (.ref a1), .val (.int p2), .val (.int p3)] [])) := fun t k => castTop (ef_rm2 m a1 p2 p3 c1) k
  have p101 : Go p.tables e below _ (s₁.setTop (mkF m 1 #[.val (.ref a1), .val (.int p2), .val (.int p3)] [(.ref a1)])) := fun t k => p0 t (by
    show Steps p.tables e below (s₁.setTop (mkF m 0 #[.val (.ref a1), .val (.int p2), .val (.int p3)] [])) _
    refine XS.aloadN X0.here hx rfl (hb hby d2_0) rfl rfl ?_
    show Steps p.tables e below (s₁.setTop (mkF m 1 #[.val (.ref a1), .val (.int p2), .val (.int p3)] [(.ref a1)])) _
    exact k)
  obtain ⟨T102, X102, e102, st102⟩ := getF X0 hx hZ hown (host := "") (Or.inl (own_w hw 13 rfl)) Via.refl e0 F1 (g := (mkF m 1 #[.val (.ref a1), .val (.int p2), .val (.int p3)] [(.ref a1)])) rfl rfl (hb hby d2_1)
  have p103 : Go p.tables e below _ (T102.setTop (mkF m 4 #[.val (.ref a1), .val (.int p2), .val (.int p3)] [(.int c1)])) := fun t k => p101 t (st102 t k)
  have p104 : Go p.tables e below _ (T102.setTop (mkF m 14 #[.val (.ref a1), .val (.int p2), .val (.int p3)] [(.int ((c1 ||| (p2 <<< (8 : Int32))) ||| (p3 <<< (24 : Int32))))])) := fun t k => p103 t (by
    show Steps p.tables e below (T102.setTop (mkF m 4 #[.val (.ref a1), .val (.int p2), .val (.int p3)] [(.int c1)])) _
    refine XS.iloadN X102.here hx rfl (hb hby d2_4) rfl ?_
    show Steps p.tables e below (T102.setTop (mkF m 5 #[.val (.ref a1), .val (.int p2), .val (.int p3)] [(.int p2), (.int c1)])) _
    refine XS.bipush X102.here hx rfl (hb hby d2_5) ?_
    show Steps p.tables e below (T102.setTop (mkF m 7 #[.val (.ref a1), .val (.int p2), .val (.int p3)] [(.int (8 : Int32)), (.int p2), (.int c1)])) _
    refine XS.ishl X102.here hx rfl (hb hby d2_7) rfl ?_
    show Steps p.tables e below (T102.setTop (mkF m 8 #[.val (.ref a1), .val (.int p2), .val (.int p3)] [(.int (p2 <<< (8 : Int32))), (.int c1)])) _
    refine XS.ior X102.here hx rfl (hb hby d2_8) rfl ?_
    show Steps p.tables e below (T102.setTop (mkF m 9 #[.val (.ref a1), .val (.int p2), .val (.int p3)] [(.int (c1 ||| (p2 <<< (8 : Int32))))])) _
    refine XS.iloadN X102.here hx rfl (hb hby d2_9) rfl ?_
    show Steps p.tables e below (T102.setTop (mkF m 10 #[.val (.ref a1), .val (.int p2), .val (.int p3)] [(.int p3), (.int (c1 ||| (p2 <<< (8 : Int32))))])) _
    refine XS.bipush X102.here hx rfl (hb hby d2_10) ?_
    show Steps p.tables e below (T102.setTop (mkF m 12 #[.val (.ref a1), .val (.int p2), .val (.int p3)] [(.int (24 : Int32)), (.int p3), (.int (c1 ||| (p2 <<< (8 : Int32))))])) _
    refine XS.ishl X102.here hx rfl (hb hby d2_12) rfl ?_
    show Steps p.tables e below (T102.setTop (mkF m 13 #[.val (.ref a1), .val (.int p2), .val (.int p3)] [(.int (p3 <<< (24 : Int32))), (.int (c1 ||| (p2 <<< (8 : Int32))))])) _
    refine XS.ior X102.here hx rfl (hb hby d2_13) rfl ?_
    show Steps p.tables e below (T102.setTop (mkF m 14 #[.val (.ref a1), .val (.int p2), .val (.int p3)] [(.int ((c1 ||| (p2 <<< (8 : Int32))) ||| (p3 <<< (24 : Int32))))])) _
    exact k)
  obtain ⟨fs, hr, hrun, hended, hW, hsame⟩ := X102.leave (v := some (.int ((c1 ||| (p2 <<< (8 : Int32))) ||| (p3 <<< (24 : Int32))))) (fun h => by rw [Bd.returns] at h; cases h)
  refine ⟨_, _, p104 _ (retI X102 hx Bd.returns (hb hby d2_14) hr), hrun, hended, _, _, rfl, ?_, ⟨_, rfl⟩, hW, hsame.mono (by decide) (by decide)⟩
  show Q2 Z a1 p2 p3 c1 h0 n0 _ T102.heap _
  rw [e102]
  exact ⟨rfl, N0, rfl⟩
theorem d3_0 : decode method_3_code 0 = .ok (.iload_n 0, 1) := by decide +kernel
theorem d3_1 : decode method_3_code 1 = .ok (.ifCond .ne 5, 3) := by decide +kernel
theorem d3_4 : decode method_3_code 4 = .ok (.iconst 3, 1) := by decide +kernel
theorem d3_5 : decode method_3_code 5 = .ok (.ireturn, 1) := by decide +kernel
theorem d3_6 : decode method_3_code 6 = .ok (.iload_n 0, 1) := by decide +kernel
theorem d3_7 : decode method_3_code 7 = .ok (.iconst 1, 1) := by decide +kernel
theorem d3_8 : decode method_3_code 8 = .ok (.if_icmp .ne 5, 3) := by decide +kernel
theorem d3_11 : decode method_3_code 11 = .ok (.iconst 5, 1) := by decide +kernel
theorem d3_12 : decode method_3_code 12 = .ok (.ireturn, 1) := by decide +kernel
theorem d3_13 : decode method_3_code 13 = .ok (.iload_n 0, 1) := by decide +kernel
theorem d3_14 : decode method_3_code 14 = .ok (.iconst 2, 1) := by decide +kernel
theorem d3_15 : decode method_3_code 15 = .ok (.if_icmp .ne 6, 3) := by decide +kernel
theorem d3_18 : decode method_3_code 18 = .ok (.bipush 6, 2) := by decide +kernel
theorem d3_20 : decode method_3_code 20 = .ok (.ireturn, 1) := by decide +kernel
theorem d3_21 : decode method_3_code 21 = .ok (.iload_n 0, 1) := by decide +kernel
theorem d3_22 : decode method_3_code 22 = .ok (.iconst 3, 1) := by decide +kernel
theorem d3_23 : decode method_3_code 23 = .ok (.if_icmp .ne 6, 3) := by decide +kernel
theorem d3_26 : decode method_3_code 26 = .ok (.bipush 9, 2) := by decide +kernel
theorem d3_28 : decode method_3_code 28 = .ok (.ireturn, 1) := by decide +kernel
theorem d3_29 : decode method_3_code 29 = .ok (.iload_n 0, 1) := by decide +kernel
theorem d3_30 : decode method_3_code 30 = .ok (.iconst 4, 1) := by decide +kernel
theorem d3_31 : decode method_3_code 31 = .ok (.if_icmp .ne 6, 3) := by decide +kernel
theorem d3_34 : decode method_3_code 34 = .ok (.bipush 10, 2) := by decide +kernel
theorem d3_36 : decode method_3_code 36 = .ok (.ireturn, 1) := by decide +kernel
theorem d3_37 : decode method_3_code 37 = .ok (.iload_n 0, 1) := by decide +kernel
theorem d3_38 : decode method_3_code 38 = .ok (.iconst 5, 1) := by decide +kernel
theorem d3_39 : decode method_3_code 39 = .ok (.if_icmp .ne 6, 3) := by decide +kernel
theorem d3_42 : decode method_3_code 42 = .ok (.bipush 12, 2) := by decide +kernel
theorem d3_44 : decode method_3_code 44 = .ok (.ireturn, 1) := by decide +kernel
theorem d3_45 : decode method_3_code 45 = .ok (.iload_n 0, 1) := by decide +kernel
theorem d3_46 : decode method_3_code 46 = .ok (.bipush 6, 2) := by decide +kernel
theorem d3_48 : decode method_3_code 48 = .ok (.if_icmp .ne 6, 3) := by decide +kernel
theorem d3_51 : decode method_3_code 51 = .ok (.bipush 65, 2) := by decide +kernel
theorem d3_53 : decode method_3_code 53 = .ok (.ireturn, 1) := by decide +kernel
theorem d3_54 : decode method_3_code 54 = .ok (.iload_n 0, 1) := by decide +kernel
theorem d3_55 : decode method_3_code 55 = .ok (.bipush 7, 2) := by decide +kernel
theorem d3_57 : decode method_3_code 57 = .ok (.if_icmp .ne 6, 3) := by decide +kernel
theorem d3_60 : decode method_3_code 60 = .ok (.bipush 66, 2) := by decide +kernel
theorem d3_62 : decode method_3_code 62 = .ok (.ireturn, 1) := by decide +kernel
theorem d3_63 : decode method_3_code 63 = .ok (.iload_n 0, 1) := by decide +kernel
theorem d3_64 : decode method_3_code 64 = .ok (.bipush 8, 2) := by decide +kernel
theorem d3_66 : decode method_3_code 66 = .ok (.if_icmp .ne 6, 3) := by decide +kernel
theorem d3_69 : decode method_3_code 69 = .ok (.bipush 68, 2) := by decide +kernel
theorem d3_71 : decode method_3_code 71 = .ok (.ireturn, 1) := by decide +kernel
theorem d3_72 : decode method_3_code 72 = .ok (.iload_n 0, 1) := by decide +kernel
theorem d3_73 : decode method_3_code 73 = .ok (.bipush 9, 2) := by decide +kernel
theorem d3_75 : decode method_3_code 75 = .ok (.if_icmp .ne 6, 3) := by decide +kernel
theorem d3_78 : decode method_3_code 78 = .ok (.bipush 71, 2) := by decide +kernel
theorem d3_80 : decode method_3_code 80 = .ok (.ireturn, 1) := by decide +kernel
theorem d3_81 : decode method_3_code 81 = .ok (.iload_n 0, 1) := by decide +kernel
theorem d3_82 : decode method_3_code 82 = .ok (.bipush 10, 2) := by decide +kernel
theorem d3_84 : decode method_3_code 84 = .ok (.if_icmp .ne 6, 3) := by decide +kernel
theorem d3_87 : decode method_3_code 87 = .ok (.bipush 72, 2) := by decide +kernel
theorem d3_89 : decode method_3_code 89 = .ok (.ireturn, 1) := by decide +kernel
theorem d3_90 : decode method_3_code 90 = .ok (.bipush 75, 2) := by decide +kernel
theorem d3_92 : decode method_3_code 92 = .ok (.ireturn, 1) := by decide +kernel
theorem pn3 : plainFor (⟨"com/example/boot_sealer/bootsealer/rp2350/ItemTypeHeaderPinLaw", "expectedCode", "(I)I"⟩ : MethodName) = true := plainFor_of_name (by first | (simp [plainName, overriddenIn]; done) | decide +kernel)
theorem ef_rm3 (m : MethodId) (p1 : Int32) : entryFrame m #[(.int p1)] 1 = mkF m 0 #[.val (.int p1)] [] := by first | (simp [entryFrame, mkF, argsToLocals, Value.category]; done) | rfl
def Q3 (Z : State) (p1 : Int32) (h0 : Heap) (n0 : Nat) (v : Option Value) (h : Heap) (L : List Loc) : Prop := v = some (.int (own_cd p1)) ∧ Fr n0 L ∧ (h = h0)
set_option maxRecDepth 65536 in
set_option maxHeartbeats 40000000 in
theorem rm3 (l : Launch) (Z : State) (a0 : Array Value) (hw : ∀ d ∈ tables_1, d.before a0 Z = true) (ws : List Jvm.Cond) (p1 : Int32) (h0 : Heap) (n0 : Nat) (Z0 : n0 ≤ h0.size) :
    MetFree l (⟨"com/example/boot_sealer/bootsealer/rp2350/ItemTypeHeaderPinLaw", "expectedCode", "(I)I"⟩ : MethodName) (head1 (Jvm.Cond.code (⟨"com/example/boot_sealer/bootsealer/rp2350/ItemTypeHeaderPinLaw", "expectedCode", "(I)I"⟩ : MethodName) method_3_code 1 (some .int) :: ws) ({ frames := 0, cells := 0, slots := 0, locals := 0 } : Room)) (fun a U => a = #[(.int p1)] ∧ Z.Warmed39 U.vm ∧ U.heap = h0) (fun _ _ _ _ _ => True) (fun _ U o U' => ∃ v L, o = .returned v ∧ Q3 Z p1 h0 n0 v U'.heap L ∧ FrameEnd U o U' L ({ frames := 0, cells := 0, slots := 0, locals := 0 } : Room).cells ({ frames := 0, cells := 0, slots := 0, locals := 0 } : Room).slots) := by
  refine MetFree.of_bodySF pn3 hisR ?_
  intro p e s m args below meth c s₁ Bd hml0 hP hK
  obtain ⟨rfl, hZ, hh⟩ := hP
  have hx := Bd.exec
  have hby := Bd.bytes
  have hml : c.maxLocals = 1 := hml0
  have hown : s.vm.findClass "com/example/boot_sealer/bootsealer/rp2350/ItemTypeHeaderPinLaw" = some m.cls := findClass_of_methodNamed Bd.named
  have hnm := (name_of_methodNamed Bd.named Bd.method).1
  have X0 : Stand p l e ({ frames := 0, cells := 0, slots := 0, locals := 0 } : Room) s m #[(.int p1)] below meth c s₁ [] 0 0 := Stand.of_body Bd
  have e0 : s₁.heap = h0 := by rw [← hh, Bd.state]; rfl
  have N0 := Fr.nil n0
  have p0 : Go p.tables e below (s₁.setTop (entryFrame m #[(.int p1)] 1)) (s₁.setTop (mkF m 0 #[.val (.int p1)] [])) := fun t k => castTop (ef_rm3 m p1) k
  have p101 : Go p.tables e below _ (s₁.setTop (mkF m 1 #[.val (.int p1)] [(.int p1)])) := fun t k => p0 t (by
    show Steps p.tables e below (s₁.setTop (mkF m 0 #[.val (.int p1)] [])) _
    refine XS.iloadN X0.here hx rfl (hb hby d3_0) rfl ?_
    show Steps p.tables e below (s₁.setTop (mkF m 1 #[.val (.int p1)] [(.int p1)])) _
    exact k)
  by_cases c102 : p1 = (0 : Int32)
  · have p103 : Go p.tables e below _ (s₁.setTop (mkF m 4 #[.val (.int p1)] [])) := fun t k => p101 t (by
      show Steps p.tables e below (s₁.setTop (mkF m 1 #[.val (.int p1)] [(.int p1)])) _
      refine XS.ifNo X0.here hx rfl (hb hby d3_1) rfl ((if0 _ _).trans (teq c102).2) ?_
      show Steps p.tables e below (s₁.setTop (mkF m 4 #[.val (.int p1)] [])) _
      exact k)
    have p104 : Go p.tables e below _ (s₁.setTop (mkF m 5 #[.val (.int p1)] [(.int (3 : Int32))])) := fun t k => p103 t (by
      show Steps p.tables e below (s₁.setTop (mkF m 4 #[.val (.int p1)] [])) _
      refine XS.iconst X0.here hx rfl (hb hby d3_4) ?_
      show Steps p.tables e below (s₁.setTop (mkF m 5 #[.val (.int p1)] [(.int (3 : Int32))])) _
      exact k)
    obtain ⟨fs, hr, hrun, hended, hW, hsame⟩ := X0.leave (v := some (.int (3 : Int32))) (fun h => by rw [Bd.returns] at h; cases h)
    refine ⟨_, _, p104 _ (retI X0 hx Bd.returns (hb hby d3_5) hr), hrun, hended, _, _, rfl, ?_, ⟨_, rfl⟩, hW, hsame.mono (by decide) (by decide)⟩
    show Q3 Z p1 h0 n0 _ s₁.heap _
    rw [e0]
    exact ⟨by simp [own_cd, c102], N0, rfl⟩
  · have p105 : Go p.tables e below _ (s₁.setTop (mkF m 6 #[.val (.int p1)] [])) := fun t k => p101 t (by
      show Steps p.tables e below (s₁.setTop (mkF m 1 #[.val (.int p1)] [(.int p1)])) _
      refine XS.ifYes X0.here hx rfl (pc0 := 1) (pc' := 6) rfl (hb hby d3_1) rfl ((if0 _ _).trans (feq c102).2) (by decide) (by decide) ?_
      show Steps p.tables e below (s₁.setTop (mkF m 6 #[.val (.int p1)] [])) _
      exact k)
    have p106 : Go p.tables e below _ (s₁.setTop (mkF m 8 #[.val (.int p1)] [(.int (1 : Int32)), (.int p1)])) := fun t k => p105 t (by
      show Steps p.tables e below (s₁.setTop (mkF m 6 #[.val (.int p1)] [])) _
      refine XS.iloadN X0.here hx rfl (hb hby d3_6) rfl ?_
      show Steps p.tables e below (s₁.setTop (mkF m 7 #[.val (.int p1)] [(.int p1)])) _
      refine XS.iconst X0.here hx rfl (hb hby d3_7) ?_
      show Steps p.tables e below (s₁.setTop (mkF m 8 #[.val (.int p1)] [(.int (1 : Int32)), (.int p1)])) _
      exact k)
    by_cases c107 : p1 = (1 : Int32)
    · have p108 : Go p.tables e below _ (s₁.setTop (mkF m 11 #[.val (.int p1)] [])) := fun t k => p106 t (by
        show Steps p.tables e below (s₁.setTop (mkF m 8 #[.val (.int p1)] [(.int (1 : Int32)), (.int p1)])) _
        refine XS.icmpNo X0.here hx rfl (hb hby d3_8) rfl (teq c107).2 ?_
        show Steps p.tables e below (s₁.setTop (mkF m 11 #[.val (.int p1)] [])) _
        exact k)
      have p109 : Go p.tables e below _ (s₁.setTop (mkF m 12 #[.val (.int p1)] [(.int (5 : Int32))])) := fun t k => p108 t (by
        show Steps p.tables e below (s₁.setTop (mkF m 11 #[.val (.int p1)] [])) _
        refine XS.iconst X0.here hx rfl (hb hby d3_11) ?_
        show Steps p.tables e below (s₁.setTop (mkF m 12 #[.val (.int p1)] [(.int (5 : Int32))])) _
        exact k)
      obtain ⟨fs, hr, hrun, hended, hW, hsame⟩ := X0.leave (v := some (.int (5 : Int32))) (fun h => by rw [Bd.returns] at h; cases h)
      refine ⟨_, _, p109 _ (retI X0 hx Bd.returns (hb hby d3_12) hr), hrun, hended, _, _, rfl, ?_, ⟨_, rfl⟩, hW, hsame.mono (by decide) (by decide)⟩
      show Q3 Z p1 h0 n0 _ s₁.heap _
      rw [e0]
      exact ⟨by simp [own_cd, c102, c107], N0, rfl⟩
    · have p110 : Go p.tables e below _ (s₁.setTop (mkF m 13 #[.val (.int p1)] [])) := fun t k => p106 t (by
        show Steps p.tables e below (s₁.setTop (mkF m 8 #[.val (.int p1)] [(.int (1 : Int32)), (.int p1)])) _
        refine XS.icmpYes X0.here hx rfl (pc0 := 8) (pc' := 13) rfl (hb hby d3_8) rfl (feq c107).2 (by decide) (by decide) ?_
        show Steps p.tables e below (s₁.setTop (mkF m 13 #[.val (.int p1)] [])) _
        exact k)
      have p111 : Go p.tables e below _ (s₁.setTop (mkF m 15 #[.val (.int p1)] [(.int (2 : Int32)), (.int p1)])) := fun t k => p110 t (by
        show Steps p.tables e below (s₁.setTop (mkF m 13 #[.val (.int p1)] [])) _
        refine XS.iloadN X0.here hx rfl (hb hby d3_13) rfl ?_
        show Steps p.tables e below (s₁.setTop (mkF m 14 #[.val (.int p1)] [(.int p1)])) _
        refine XS.iconst X0.here hx rfl (hb hby d3_14) ?_
        show Steps p.tables e below (s₁.setTop (mkF m 15 #[.val (.int p1)] [(.int (2 : Int32)), (.int p1)])) _
        exact k)
      by_cases c112 : p1 = (2 : Int32)
      · have p113 : Go p.tables e below _ (s₁.setTop (mkF m 18 #[.val (.int p1)] [])) := fun t k => p111 t (by
          show Steps p.tables e below (s₁.setTop (mkF m 15 #[.val (.int p1)] [(.int (2 : Int32)), (.int p1)])) _
          refine XS.icmpNo X0.here hx rfl (hb hby d3_15) rfl (teq c112).2 ?_
          show Steps p.tables e below (s₁.setTop (mkF m 18 #[.val (.int p1)] [])) _
          exact k)
        have p114 : Go p.tables e below _ (s₁.setTop (mkF m 20 #[.val (.int p1)] [(.int (6 : Int32))])) := fun t k => p113 t (by
          show Steps p.tables e below (s₁.setTop (mkF m 18 #[.val (.int p1)] [])) _
          refine XS.bipush X0.here hx rfl (hb hby d3_18) ?_
          show Steps p.tables e below (s₁.setTop (mkF m 20 #[.val (.int p1)] [(.int (6 : Int32))])) _
          exact k)
        obtain ⟨fs, hr, hrun, hended, hW, hsame⟩ := X0.leave (v := some (.int (6 : Int32))) (fun h => by rw [Bd.returns] at h; cases h)
        refine ⟨_, _, p114 _ (retI X0 hx Bd.returns (hb hby d3_20) hr), hrun, hended, _, _, rfl, ?_, ⟨_, rfl⟩, hW, hsame.mono (by decide) (by decide)⟩
        show Q3 Z p1 h0 n0 _ s₁.heap _
        rw [e0]
        exact ⟨by simp [own_cd, c102, c107, c112], N0, rfl⟩
      · have p115 : Go p.tables e below _ (s₁.setTop (mkF m 21 #[.val (.int p1)] [])) := fun t k => p111 t (by
          show Steps p.tables e below (s₁.setTop (mkF m 15 #[.val (.int p1)] [(.int (2 : Int32)), (.int p1)])) _
          refine XS.icmpYes X0.here hx rfl (pc0 := 15) (pc' := 21) rfl (hb hby d3_15) rfl (feq c112).2 (by decide) (by decide) ?_
          show Steps p.tables e below (s₁.setTop (mkF m 21 #[.val (.int p1)] [])) _
          exact k)
        have p116 : Go p.tables e below _ (s₁.setTop (mkF m 23 #[.val (.int p1)] [(.int (3 : Int32)), (.int p1)])) := fun t k => p115 t (by
          show Steps p.tables e below (s₁.setTop (mkF m 21 #[.val (.int p1)] [])) _
          refine XS.iloadN X0.here hx rfl (hb hby d3_21) rfl ?_
          show Steps p.tables e below (s₁.setTop (mkF m 22 #[.val (.int p1)] [(.int p1)])) _
          refine XS.iconst X0.here hx rfl (hb hby d3_22) ?_
          show Steps p.tables e below (s₁.setTop (mkF m 23 #[.val (.int p1)] [(.int (3 : Int32)), (.int p1)])) _
          exact k)
        by_cases c117 : p1 = (3 : Int32)
        · have p118 : Go p.tables e below _ (s₁.setTop (mkF m 26 #[.val (.int p1)] [])) := fun t k => p116 t (by
            show Steps p.tables e below (s₁.setTop (mkF m 23 #[.val (.int p1)] [(.int (3 : Int32)), (.int p1)])) _
            refine XS.icmpNo X0.here hx rfl (hb hby d3_23) rfl (teq c117).2 ?_
            show Steps p.tables e below (s₁.setTop (mkF m 26 #[.val (.int p1)] [])) _
            exact k)
          have p119 : Go p.tables e below _ (s₁.setTop (mkF m 28 #[.val (.int p1)] [(.int (9 : Int32))])) := fun t k => p118 t (by
            show Steps p.tables e below (s₁.setTop (mkF m 26 #[.val (.int p1)] [])) _
            refine XS.bipush X0.here hx rfl (hb hby d3_26) ?_
            show Steps p.tables e below (s₁.setTop (mkF m 28 #[.val (.int p1)] [(.int (9 : Int32))])) _
            exact k)
          obtain ⟨fs, hr, hrun, hended, hW, hsame⟩ := X0.leave (v := some (.int (9 : Int32))) (fun h => by rw [Bd.returns] at h; cases h)
          refine ⟨_, _, p119 _ (retI X0 hx Bd.returns (hb hby d3_28) hr), hrun, hended, _, _, rfl, ?_, ⟨_, rfl⟩, hW, hsame.mono (by decide) (by decide)⟩
          show Q3 Z p1 h0 n0 _ s₁.heap _
          rw [e0]
          exact ⟨by simp [own_cd, c102, c107, c112, c117], N0, rfl⟩
        · have p120 : Go p.tables e below _ (s₁.setTop (mkF m 29 #[.val (.int p1)] [])) := fun t k => p116 t (by
            show Steps p.tables e below (s₁.setTop (mkF m 23 #[.val (.int p1)] [(.int (3 : Int32)), (.int p1)])) _
            refine XS.icmpYes X0.here hx rfl (pc0 := 23) (pc' := 29) rfl (hb hby d3_23) rfl (feq c117).2 (by decide) (by decide) ?_
            show Steps p.tables e below (s₁.setTop (mkF m 29 #[.val (.int p1)] [])) _
            exact k)
          have p121 : Go p.tables e below _ (s₁.setTop (mkF m 31 #[.val (.int p1)] [(.int (4 : Int32)), (.int p1)])) := fun t k => p120 t (by
            show Steps p.tables e below (s₁.setTop (mkF m 29 #[.val (.int p1)] [])) _
            refine XS.iloadN X0.here hx rfl (hb hby d3_29) rfl ?_
            show Steps p.tables e below (s₁.setTop (mkF m 30 #[.val (.int p1)] [(.int p1)])) _
            refine XS.iconst X0.here hx rfl (hb hby d3_30) ?_
            show Steps p.tables e below (s₁.setTop (mkF m 31 #[.val (.int p1)] [(.int (4 : Int32)), (.int p1)])) _
            exact k)
          by_cases c122 : p1 = (4 : Int32)
          · have p123 : Go p.tables e below _ (s₁.setTop (mkF m 34 #[.val (.int p1)] [])) := fun t k => p121 t (by
              show Steps p.tables e below (s₁.setTop (mkF m 31 #[.val (.int p1)] [(.int (4 : Int32)), (.int p1)])) _
              refine XS.icmpNo X0.here hx rfl (hb hby d3_31) rfl (teq c122).2 ?_
              show Steps p.tables e below (s₁.setTop (mkF m 34 #[.val (.int p1)] [])) _
              exact k)
            have p124 : Go p.tables e below _ (s₁.setTop (mkF m 36 #[.val (.int p1)] [(.int (10 : Int32))])) := fun t k => p123 t (by
              show Steps p.tables e below (s₁.setTop (mkF m 34 #[.val (.int p1)] [])) _
              refine XS.bipush X0.here hx rfl (hb hby d3_34) ?_
              show Steps p.tables e below (s₁.setTop (mkF m 36 #[.val (.int p1)] [(.int (10 : Int32))])) _
              exact k)
            obtain ⟨fs, hr, hrun, hended, hW, hsame⟩ := X0.leave (v := some (.int (10 : Int32))) (fun h => by rw [Bd.returns] at h; cases h)
            refine ⟨_, _, p124 _ (retI X0 hx Bd.returns (hb hby d3_36) hr), hrun, hended, _, _, rfl, ?_, ⟨_, rfl⟩, hW, hsame.mono (by decide) (by decide)⟩
            show Q3 Z p1 h0 n0 _ s₁.heap _
            rw [e0]
            exact ⟨by simp [own_cd, c102, c107, c112, c117, c122], N0, rfl⟩
          · have p125 : Go p.tables e below _ (s₁.setTop (mkF m 37 #[.val (.int p1)] [])) := fun t k => p121 t (by
              show Steps p.tables e below (s₁.setTop (mkF m 31 #[.val (.int p1)] [(.int (4 : Int32)), (.int p1)])) _
              refine XS.icmpYes X0.here hx rfl (pc0 := 31) (pc' := 37) rfl (hb hby d3_31) rfl (feq c122).2 (by decide) (by decide) ?_
              show Steps p.tables e below (s₁.setTop (mkF m 37 #[.val (.int p1)] [])) _
              exact k)
            have p126 : Go p.tables e below _ (s₁.setTop (mkF m 39 #[.val (.int p1)] [(.int (5 : Int32)), (.int p1)])) := fun t k => p125 t (by
              show Steps p.tables e below (s₁.setTop (mkF m 37 #[.val (.int p1)] [])) _
              refine XS.iloadN X0.here hx rfl (hb hby d3_37) rfl ?_
              show Steps p.tables e below (s₁.setTop (mkF m 38 #[.val (.int p1)] [(.int p1)])) _
              refine XS.iconst X0.here hx rfl (hb hby d3_38) ?_
              show Steps p.tables e below (s₁.setTop (mkF m 39 #[.val (.int p1)] [(.int (5 : Int32)), (.int p1)])) _
              exact k)
            by_cases c127 : p1 = (5 : Int32)
            · have p128 : Go p.tables e below _ (s₁.setTop (mkF m 42 #[.val (.int p1)] [])) := fun t k => p126 t (by
                show Steps p.tables e below (s₁.setTop (mkF m 39 #[.val (.int p1)] [(.int (5 : Int32)), (.int p1)])) _
                refine XS.icmpNo X0.here hx rfl (hb hby d3_39) rfl (teq c127).2 ?_
                show Steps p.tables e below (s₁.setTop (mkF m 42 #[.val (.int p1)] [])) _
                exact k)
              have p129 : Go p.tables e below _ (s₁.setTop (mkF m 44 #[.val (.int p1)] [(.int (12 : Int32))])) := fun t k => p128 t (by
                show Steps p.tables e below (s₁.setTop (mkF m 42 #[.val (.int p1)] [])) _
                refine XS.bipush X0.here hx rfl (hb hby d3_42) ?_
                show Steps p.tables e below (s₁.setTop (mkF m 44 #[.val (.int p1)] [(.int (12 : Int32))])) _
                exact k)
              obtain ⟨fs, hr, hrun, hended, hW, hsame⟩ := X0.leave (v := some (.int (12 : Int32))) (fun h => by rw [Bd.returns] at h; cases h)
              refine ⟨_, _, p129 _ (retI X0 hx Bd.returns (hb hby d3_44) hr), hrun, hended, _, _, rfl, ?_, ⟨_, rfl⟩, hW, hsame.mono (by decide) (by decide)⟩
              show Q3 Z p1 h0 n0 _ s₁.heap _
              rw [e0]
              exact ⟨by simp [own_cd, c102, c107, c112, c117, c122, c127], N0, rfl⟩
            · have p130 : Go p.tables e below _ (s₁.setTop (mkF m 45 #[.val (.int p1)] [])) := fun t k => p126 t (by
                show Steps p.tables e below (s₁.setTop (mkF m 39 #[.val (.int p1)] [(.int (5 : Int32)), (.int p1)])) _
                refine XS.icmpYes X0.here hx rfl (pc0 := 39) (pc' := 45) rfl (hb hby d3_39) rfl (feq c127).2 (by decide) (by decide) ?_
                show Steps p.tables e below (s₁.setTop (mkF m 45 #[.val (.int p1)] [])) _
                exact k)
              have p131 : Go p.tables e below _ (s₁.setTop (mkF m 48 #[.val (.int p1)] [(.int (6 : Int32)), (.int p1)])) := fun t k => p130 t (by
                show Steps p.tables e below (s₁.setTop (mkF m 45 #[.val (.int p1)] [])) _
                refine XS.iloadN X0.here hx rfl (hb hby d3_45) rfl ?_
                show Steps p.tables e below (s₁.setTop (mkF m 46 #[.val (.int p1)] [(.int p1)])) _
                refine XS.bipush X0.here hx rfl (hb hby d3_46) ?_
                show Steps p.tables e below (s₁.setTop (mkF m 48 #[.val (.int p1)] [(.int (6 : Int32)), (.int p1)])) _
                exact k)
              by_cases c132 : p1 = (6 : Int32)
              · have p133 : Go p.tables e below _ (s₁.setTop (mkF m 51 #[.val (.int p1)] [])) := fun t k => p131 t (by
                  show Steps p.tables e below (s₁.setTop (mkF m 48 #[.val (.int p1)] [(.int (6 : Int32)), (.int p1)])) _
                  refine XS.icmpNo X0.here hx rfl (hb hby d3_48) rfl (teq c132).2 ?_
                  show Steps p.tables e below (s₁.setTop (mkF m 51 #[.val (.int p1)] [])) _
                  exact k)
                have p134 : Go p.tables e below _ (s₁.setTop (mkF m 53 #[.val (.int p1)] [(.int (65 : Int32))])) := fun t k => p133 t (by
                  show Steps p.tables e below (s₁.setTop (mkF m 51 #[.val (.int p1)] [])) _
                  refine XS.bipush X0.here hx rfl (hb hby d3_51) ?_
                  show Steps p.tables e below (s₁.setTop (mkF m 53 #[.val (.int p1)] [(.int (65 : Int32))])) _
                  exact k)
                obtain ⟨fs, hr, hrun, hended, hW, hsame⟩ := X0.leave (v := some (.int (65 : Int32))) (fun h => by rw [Bd.returns] at h; cases h)
                refine ⟨_, _, p134 _ (retI X0 hx Bd.returns (hb hby d3_53) hr), hrun, hended, _, _, rfl, ?_, ⟨_, rfl⟩, hW, hsame.mono (by decide) (by decide)⟩
                show Q3 Z p1 h0 n0 _ s₁.heap _
                rw [e0]
                exact ⟨by simp [own_cd, c102, c107, c112, c117, c122, c127, c132], N0, rfl⟩
              · have p135 : Go p.tables e below _ (s₁.setTop (mkF m 54 #[.val (.int p1)] [])) := fun t k => p131 t (by
                  show Steps p.tables e below (s₁.setTop (mkF m 48 #[.val (.int p1)] [(.int (6 : Int32)), (.int p1)])) _
                  refine XS.icmpYes X0.here hx rfl (pc0 := 48) (pc' := 54) rfl (hb hby d3_48) rfl (feq c132).2 (by decide) (by decide) ?_
                  show Steps p.tables e below (s₁.setTop (mkF m 54 #[.val (.int p1)] [])) _
                  exact k)
                have p136 : Go p.tables e below _ (s₁.setTop (mkF m 57 #[.val (.int p1)] [(.int (7 : Int32)), (.int p1)])) := fun t k => p135 t (by
                  show Steps p.tables e below (s₁.setTop (mkF m 54 #[.val (.int p1)] [])) _
                  refine XS.iloadN X0.here hx rfl (hb hby d3_54) rfl ?_
                  show Steps p.tables e below (s₁.setTop (mkF m 55 #[.val (.int p1)] [(.int p1)])) _
                  refine XS.bipush X0.here hx rfl (hb hby d3_55) ?_
                  show Steps p.tables e below (s₁.setTop (mkF m 57 #[.val (.int p1)] [(.int (7 : Int32)), (.int p1)])) _
                  exact k)
                by_cases c137 : p1 = (7 : Int32)
                · have p138 : Go p.tables e below _ (s₁.setTop (mkF m 60 #[.val (.int p1)] [])) := fun t k => p136 t (by
                    show Steps p.tables e below (s₁.setTop (mkF m 57 #[.val (.int p1)] [(.int (7 : Int32)), (.int p1)])) _
                    refine XS.icmpNo X0.here hx rfl (hb hby d3_57) rfl (teq c137).2 ?_
                    show Steps p.tables e below (s₁.setTop (mkF m 60 #[.val (.int p1)] [])) _
                    exact k)
                  have p139 : Go p.tables e below _ (s₁.setTop (mkF m 62 #[.val (.int p1)] [(.int (66 : Int32))])) := fun t k => p138 t (by
                    show Steps p.tables e below (s₁.setTop (mkF m 60 #[.val (.int p1)] [])) _
                    refine XS.bipush X0.here hx rfl (hb hby d3_60) ?_
                    show Steps p.tables e below (s₁.setTop (mkF m 62 #[.val (.int p1)] [(.int (66 : Int32))])) _
                    exact k)
                  obtain ⟨fs, hr, hrun, hended, hW, hsame⟩ := X0.leave (v := some (.int (66 : Int32))) (fun h => by rw [Bd.returns] at h; cases h)
                  refine ⟨_, _, p139 _ (retI X0 hx Bd.returns (hb hby d3_62) hr), hrun, hended, _, _, rfl, ?_, ⟨_, rfl⟩, hW, hsame.mono (by decide) (by decide)⟩
                  show Q3 Z p1 h0 n0 _ s₁.heap _
                  rw [e0]
                  exact ⟨by simp [own_cd, c102, c107, c112, c117, c122, c127, c132, c137], N0, rfl⟩
                · have p140 : Go p.tables e below _ (s₁.setTop (mkF m 63 #[.val (.int p1)] [])) := fun t k => p136 t (by
                    show Steps p.tables e below (s₁.setTop (mkF m 57 #[.val (.int p1)] [(.int (7 : Int32)), (.int p1)])) _
                    refine XS.icmpYes X0.here hx rfl (pc0 := 57) (pc' := 63) rfl (hb hby d3_57) rfl (feq c137).2 (by decide) (by decide) ?_
                    show Steps p.tables e below (s₁.setTop (mkF m 63 #[.val (.int p1)] [])) _
                    exact k)
                  have p141 : Go p.tables e below _ (s₁.setTop (mkF m 66 #[.val (.int p1)] [(.int (8 : Int32)), (.int p1)])) := fun t k => p140 t (by
                    show Steps p.tables e below (s₁.setTop (mkF m 63 #[.val (.int p1)] [])) _
                    refine XS.iloadN X0.here hx rfl (hb hby d3_63) rfl ?_
                    show Steps p.tables e below (s₁.setTop (mkF m 64 #[.val (.int p1)] [(.int p1)])) _
                    refine XS.bipush X0.here hx rfl (hb hby d3_64) ?_
                    show Steps p.tables e below (s₁.setTop (mkF m 66 #[.val (.int p1)] [(.int (8 : Int32)), (.int p1)])) _
                    exact k)
                  by_cases c142 : p1 = (8 : Int32)
                  · have p143 : Go p.tables e below _ (s₁.setTop (mkF m 69 #[.val (.int p1)] [])) := fun t k => p141 t (by
                      show Steps p.tables e below (s₁.setTop (mkF m 66 #[.val (.int p1)] [(.int (8 : Int32)), (.int p1)])) _
                      refine XS.icmpNo X0.here hx rfl (hb hby d3_66) rfl (teq c142).2 ?_
                      show Steps p.tables e below (s₁.setTop (mkF m 69 #[.val (.int p1)] [])) _
                      exact k)
                    have p144 : Go p.tables e below _ (s₁.setTop (mkF m 71 #[.val (.int p1)] [(.int (68 : Int32))])) := fun t k => p143 t (by
                      show Steps p.tables e below (s₁.setTop (mkF m 69 #[.val (.int p1)] [])) _
                      refine XS.bipush X0.here hx rfl (hb hby d3_69) ?_
                      show Steps p.tables e below (s₁.setTop (mkF m 71 #[.val (.int p1)] [(.int (68 : Int32))])) _
                      exact k)
                    obtain ⟨fs, hr, hrun, hended, hW, hsame⟩ := X0.leave (v := some (.int (68 : Int32))) (fun h => by rw [Bd.returns] at h; cases h)
                    refine ⟨_, _, p144 _ (retI X0 hx Bd.returns (hb hby d3_71) hr), hrun, hended, _, _, rfl, ?_, ⟨_, rfl⟩, hW, hsame.mono (by decide) (by decide)⟩
                    show Q3 Z p1 h0 n0 _ s₁.heap _
                    rw [e0]
                    exact ⟨by simp [own_cd, c102, c107, c112, c117, c122, c127, c132, c137, c142], N0, rfl⟩
                  · have p145 : Go p.tables e below _ (s₁.setTop (mkF m 72 #[.val (.int p1)] [])) := fun t k => p141 t (by
                      show Steps p.tables e below (s₁.setTop (mkF m 66 #[.val (.int p1)] [(.int (8 : Int32)), (.int p1)])) _
                      refine XS.icmpYes X0.here hx rfl (pc0 := 66) (pc' := 72) rfl (hb hby d3_66) rfl (feq c142).2 (by decide) (by decide) ?_
                      show Steps p.tables e below (s₁.setTop (mkF m 72 #[.val (.int p1)] [])) _
                      exact k)
                    have p146 : Go p.tables e below _ (s₁.setTop (mkF m 75 #[.val (.int p1)] [(.int (9 : Int32)), (.int p1)])) := fun t k => p145 t (by
                      show Steps p.tables e below (s₁.setTop (mkF m 72 #[.val (.int p1)] [])) _
                      refine XS.iloadN X0.here hx rfl (hb hby d3_72) rfl ?_
                      show Steps p.tables e below (s₁.setTop (mkF m 73 #[.val (.int p1)] [(.int p1)])) _
                      refine XS.bipush X0.here hx rfl (hb hby d3_73) ?_
                      show Steps p.tables e below (s₁.setTop (mkF m 75 #[.val (.int p1)] [(.int (9 : Int32)), (.int p1)])) _
                      exact k)
                    by_cases c147 : p1 = (9 : Int32)
                    · have p148 : Go p.tables e below _ (s₁.setTop (mkF m 78 #[.val (.int p1)] [])) := fun t k => p146 t (by
                        show Steps p.tables e below (s₁.setTop (mkF m 75 #[.val (.int p1)] [(.int (9 : Int32)), (.int p1)])) _
                        refine XS.icmpNo X0.here hx rfl (hb hby d3_75) rfl (teq c147).2 ?_
                        show Steps p.tables e below (s₁.setTop (mkF m 78 #[.val (.int p1)] [])) _
                        exact k)
                      have p149 : Go p.tables e below _ (s₁.setTop (mkF m 80 #[.val (.int p1)] [(.int (71 : Int32))])) := fun t k => p148 t (by
                        show Steps p.tables e below (s₁.setTop (mkF m 78 #[.val (.int p1)] [])) _
                        refine XS.bipush X0.here hx rfl (hb hby d3_78) ?_
                        show Steps p.tables e below (s₁.setTop (mkF m 80 #[.val (.int p1)] [(.int (71 : Int32))])) _
                        exact k)
                      obtain ⟨fs, hr, hrun, hended, hW, hsame⟩ := X0.leave (v := some (.int (71 : Int32))) (fun h => by rw [Bd.returns] at h; cases h)
                      refine ⟨_, _, p149 _ (retI X0 hx Bd.returns (hb hby d3_80) hr), hrun, hended, _, _, rfl, ?_, ⟨_, rfl⟩, hW, hsame.mono (by decide) (by decide)⟩
                      show Q3 Z p1 h0 n0 _ s₁.heap _
                      rw [e0]
                      exact ⟨by simp [own_cd, c102, c107, c112, c117, c122, c127, c132, c137, c142, c147], N0, rfl⟩
                    · have p150 : Go p.tables e below _ (s₁.setTop (mkF m 81 #[.val (.int p1)] [])) := fun t k => p146 t (by
                        show Steps p.tables e below (s₁.setTop (mkF m 75 #[.val (.int p1)] [(.int (9 : Int32)), (.int p1)])) _
                        refine XS.icmpYes X0.here hx rfl (pc0 := 75) (pc' := 81) rfl (hb hby d3_75) rfl (feq c147).2 (by decide) (by decide) ?_
                        show Steps p.tables e below (s₁.setTop (mkF m 81 #[.val (.int p1)] [])) _
                        exact k)
                      have p151 : Go p.tables e below _ (s₁.setTop (mkF m 84 #[.val (.int p1)] [(.int (10 : Int32)), (.int p1)])) := fun t k => p150 t (by
                        show Steps p.tables e below (s₁.setTop (mkF m 81 #[.val (.int p1)] [])) _
                        refine XS.iloadN X0.here hx rfl (hb hby d3_81) rfl ?_
                        show Steps p.tables e below (s₁.setTop (mkF m 82 #[.val (.int p1)] [(.int p1)])) _
                        refine XS.bipush X0.here hx rfl (hb hby d3_82) ?_
                        show Steps p.tables e below (s₁.setTop (mkF m 84 #[.val (.int p1)] [(.int (10 : Int32)), (.int p1)])) _
                        exact k)
                      by_cases c152 : p1 = (10 : Int32)
                      · have p153 : Go p.tables e below _ (s₁.setTop (mkF m 87 #[.val (.int p1)] [])) := fun t k => p151 t (by
                          show Steps p.tables e below (s₁.setTop (mkF m 84 #[.val (.int p1)] [(.int (10 : Int32)), (.int p1)])) _
                          refine XS.icmpNo X0.here hx rfl (hb hby d3_84) rfl (teq c152).2 ?_
                          show Steps p.tables e below (s₁.setTop (mkF m 87 #[.val (.int p1)] [])) _
                          exact k)
                        have p154 : Go p.tables e below _ (s₁.setTop (mkF m 89 #[.val (.int p1)] [(.int (72 : Int32))])) := fun t k => p153 t (by
                          show Steps p.tables e below (s₁.setTop (mkF m 87 #[.val (.int p1)] [])) _
                          refine XS.bipush X0.here hx rfl (hb hby d3_87) ?_
                          show Steps p.tables e below (s₁.setTop (mkF m 89 #[.val (.int p1)] [(.int (72 : Int32))])) _
                          exact k)
                        obtain ⟨fs, hr, hrun, hended, hW, hsame⟩ := X0.leave (v := some (.int (72 : Int32))) (fun h => by rw [Bd.returns] at h; cases h)
                        refine ⟨_, _, p154 _ (retI X0 hx Bd.returns (hb hby d3_89) hr), hrun, hended, _, _, rfl, ?_, ⟨_, rfl⟩, hW, hsame.mono (by decide) (by decide)⟩
                        show Q3 Z p1 h0 n0 _ s₁.heap _
                        rw [e0]
                        exact ⟨by simp [own_cd, c102, c107, c112, c117, c122, c127, c132, c137, c142, c147, c152], N0, rfl⟩
                      · have p155 : Go p.tables e below _ (s₁.setTop (mkF m 90 #[.val (.int p1)] [])) := fun t k => p151 t (by
                          show Steps p.tables e below (s₁.setTop (mkF m 84 #[.val (.int p1)] [(.int (10 : Int32)), (.int p1)])) _
                          refine XS.icmpYes X0.here hx rfl (pc0 := 84) (pc' := 90) rfl (hb hby d3_84) rfl (feq c152).2 (by decide) (by decide) ?_
                          show Steps p.tables e below (s₁.setTop (mkF m 90 #[.val (.int p1)] [])) _
                          exact k)
                        have p156 : Go p.tables e below _ (s₁.setTop (mkF m 92 #[.val (.int p1)] [(.int (75 : Int32))])) := fun t k => p155 t (by
                          show Steps p.tables e below (s₁.setTop (mkF m 90 #[.val (.int p1)] [])) _
                          refine XS.bipush X0.here hx rfl (hb hby d3_90) ?_
                          show Steps p.tables e below (s₁.setTop (mkF m 92 #[.val (.int p1)] [(.int (75 : Int32))])) _
                          exact k)
                        obtain ⟨fs, hr, hrun, hended, hW, hsame⟩ := X0.leave (v := some (.int (75 : Int32))) (fun h => by rw [Bd.returns] at h; cases h)
                        refine ⟨_, _, p156 _ (retI X0 hx Bd.returns (hb hby d3_92) hr), hrun, hended, _, _, rfl, ?_, ⟨_, rfl⟩, hW, hsame.mono (by decide) (by decide)⟩
                        show Q3 Z p1 h0 n0 _ s₁.heap _
                        rw [e0]
                        exact ⟨by simp [own_cd, c102, c107, c112, c117, c122, c127, c132, c137, c142, c147, c152], N0, rfl⟩
theorem pd0 : parseMethodDescriptor "(I)Lcom/example/boot_sealer/bootsealer/rp2350/ItemType;" = some ⟨[.int], some (.object "com/example/boot_sealer/bootsealer/rp2350/ItemType")⟩ := by decide +kernel
theorem pd1 : parseMethodDescriptor "(II)I" = some ⟨[.int, .int], some .int⟩ := by decide +kernel
theorem pd2 : parseMethodDescriptor "(I)I" = some ⟨[.int], some .int⟩ := by decide +kernel
theorem pn0 : plainFor (⟨"com/example/boot_sealer/bootsealer/rp2350/ItemTypeHeaderPinLaw", "law", "(III)Z"⟩ : MethodName) = true := plainFor_of_name (by first | (simp [plainName, overriddenIn]; done) | decide +kernel)
theorem ef_rm0 (m : MethodId) (p1 : Int32) (p2 : Int32) (p3 : Int32) : entryFrame m #[(.int p1), (.int p2), (.int p3)] maxLocals = mkF m 0 #[.val (.int p1), .val (.int p2), .val (.int p3), .unset, .unset, .unset, .unset, .unset, .unset, .unset, .unset, .unset] [] := by first | (simp [entryFrame, mkF, argsToLocals, Value.category, maxLocals]; done) | rfl
def Q0 (Z : State) (p1 : Int32) (p2 : Int32) (p3 : Int32) (h0 : Heap) (n0 : Nat) (v : Option Value) (h : Heap) (L : List Loc) : Prop := v = some (.int (1 : Int32)) ∧ Fr n0 L
set_option maxRecDepth 65536 in
set_option maxHeartbeats 40000000 in
theorem rm0 (l : Launch) (Z : State) (a0 : Array Value) (hw : ∀ d ∈ tables_1, d.before a0 Z = true) (ws : List Jvm.Cond) (p1 : Int32) (p2 : Int32) (p3 : Int32) (h0 : Heap) (n0 : Nat) (Z0 : n0 ≤ h0.size) (O1 : Old Z n0 h0) (HA : own_All Z) :
    MetFree l x (head1 (Jvm.Cond.code x code maxLocals ret :: ws) room_1) (fun a U => a = #[(.int p1), (.int p2), (.int p3)] ∧ Z.Warmed39 U.vm ∧ U.heap = h0) (fun _ _ _ _ _ => True) (fun _ U o U' => ∃ v L, o = .returned v ∧ Q0 Z p1 p2 p3 h0 n0 v U'.heap L ∧ FrameEnd U o U' L room_1.cells room_1.slots) := by
  refine MetFree.of_bodySF pn0 hisR ?_
  intro p e s m args below meth c s₁ Bd hml0 hP hK
  obtain ⟨rfl, hZ, hh⟩ := hP
  have hx := Bd.exec
  have hby := Bd.bytes
  have hml : c.maxLocals = 12 := hml0
  have hown : s.vm.findClass "com/example/boot_sealer/bootsealer/rp2350/ItemTypeHeaderPinLaw" = some m.cls := findClass_of_methodNamed Bd.named
  have hnm := (name_of_methodNamed Bd.named Bd.method).1
  have X0 : Stand p l e room_1 s m #[(.int p1), (.int p2), (.int p3)] below meth c s₁ [] 0 0 := Stand.of_body Bd
  have e0 : s₁.heap = h0 := by rw [← hh, Bd.state]; rfl
  have N0 := Fr.nil n0
  have p0 : Go p.tables e below (s₁.setTop (entryFrame m #[(.int p1), (.int p2), (.int p3)] maxLocals)) (s₁.setTop (mkF m 0 #[.val (.int p1), .val (.int p2), .val (.int p3), .unset, .unset, .unset, .unset, .unset, .unset, .unset, .unset, .unset] [])) := fun t k => castTop (ef_rm0 m p1 p2 p3) k
  have p101 : Go p.tables e below _ (s₁.setTop (mkF m 8 #[.val (.int p1), .val (.int p2), .val (.int p3), .val (.int ((p1 &&& (2147483647 : Int32)) % (12 : Int32))), .unset, .unset, .unset, .unset, .unset, .unset, .unset, .unset] [])) := fun t k => p0 t (by
    show Steps p.tables e below (s₁.setTop (mkF m 0 #[.val (.int p1), .val (.int p2), .val (.int p3), .unset, .unset, .unset, .unset, .unset, .unset, .unset, .unset, .unset] [])) _
    refine XS.iloadN X0.here hx rfl (hb hby at_0) rfl ?_
    show Steps p.tables e below (s₁.setTop (mkF m 1 #[.val (.int p1), .val (.int p2), .val (.int p3), .unset, .unset, .unset, .unset, .unset, .unset, .unset, .unset, .unset] [(.int p1)])) _
    refine X0.ldcInt hx hown (mvT hZ (own_w hw 0 rfl)) (g := (mkF m 1 #[.val (.int p1), .val (.int p2), .val (.int p3), .unset, .unset, .unset, .unset, .unset, .unset, .unset, .unset, .unset] [(.int p1)])) rfl (hb hby at_1) _ ?_
    show Steps p.tables e below (s₁.setTop (mkF m 3 #[.val (.int p1), .val (.int p2), .val (.int p3), .unset, .unset, .unset, .unset, .unset, .unset, .unset, .unset, .unset] [(.int (2147483647 : Int32)), (.int p1)])) _
    refine XS.iand X0.here hx rfl (hb hby at_3) rfl ?_
    show Steps p.tables e below (s₁.setTop (mkF m 4 #[.val (.int p1), .val (.int p2), .val (.int p3), .unset, .unset, .unset, .unset, .unset, .unset, .unset, .unset, .unset] [(.int (p1 &&& (2147483647 : Int32)))])) _
    refine XS.bipush X0.here hx rfl (hb hby at_4) ?_
    show Steps p.tables e below (s₁.setTop (mkF m 6 #[.val (.int p1), .val (.int p2), .val (.int p3), .unset, .unset, .unset, .unset, .unset, .unset, .unset, .unset, .unset] [(.int (12 : Int32)), (.int (p1 &&& (2147483647 : Int32)))])) _
    refine Jvm.RoadKit.iremM X0 hx rfl (hb hby at_6) rfl (by decide) ?_
    show Steps p.tables e below (s₁.setTop (mkF m 7 #[.val (.int p1), .val (.int p2), .val (.int p3), .unset, .unset, .unset, .unset, .unset, .unset, .unset, .unset, .unset] [(.int ((p1 &&& (2147483647 : Int32)) % (12 : Int32)))])) _
    refine XS.istoreN X0.here hx rfl (hb hby at_7) rfl (l' := #[.val (.int p1), .val (.int p2), .val (.int p3), .val (.int ((p1 &&& (2147483647 : Int32)) % (12 : Int32))), .unset, .unset, .unset, .unset, .unset, .unset, .unset, .unset]) rfl ?_
    show Steps p.tables e below (s₁.setTop (mkF m 8 #[.val (.int p1), .val (.int p2), .val (.int p3), .val (.int ((p1 &&& (2147483647 : Int32)) % (12 : Int32))), .unset, .unset, .unset, .unset, .unset, .unset, .unset, .unset] [])) _
    exact k)
  obtain ⟨kk, hkk⟩ : ∃ z, z = ((p1 &&& (2147483647 : Int32)) % (12 : Int32)) := ⟨_, rfl⟩
  have p102 : Go p.tables e below (s₁.setTop (entryFrame m #[(.int p1), (.int p2), (.int p3)] maxLocals)) (s₁.setTop (mkF m 8 #[.val (.int p1), .val (.int p2), .val (.int p3), .val (.int kk), .unset, .unset, .unset, .unset, .unset, .unset, .unset, .unset] [])) := by rw [hkk]; exact p101
  have p103 : Go p.tables e below _ (s₁.setTop (mkF m 23 #[.val (.int p1), .val (.int p2), .val (.int p3), .val (.int kk), .val (.int (p2 &&& (255 : Int32))), .val (.int (p3 &&& (255 : Int32))), .unset, .unset, .unset, .unset, .unset, .unset] [(.int kk)])) := fun t k => p102 t (by
    show Steps p.tables e below (s₁.setTop (mkF m 8 #[.val (.int p1), .val (.int p2), .val (.int p3), .val (.int kk), .unset, .unset, .unset, .unset, .unset, .unset, .unset, .unset] [])) _
    refine XS.iloadN X0.here hx rfl (hb hby at_8) rfl ?_
    show Steps p.tables e below (s₁.setTop (mkF m 9 #[.val (.int p1), .val (.int p2), .val (.int p3), .val (.int kk), .unset, .unset, .unset, .unset, .unset, .unset, .unset, .unset] [(.int p2)])) _
    refine XS.sipush X0.here hx rfl (hb hby at_9) ?_
    show Steps p.tables e below (s₁.setTop (mkF m 12 #[.val (.int p1), .val (.int p2), .val (.int p3), .val (.int kk), .unset, .unset, .unset, .unset, .unset, .unset, .unset, .unset] [(.int (255 : Int32)), (.int p2)])) _
    refine XS.iand X0.here hx rfl (hb hby at_12) rfl ?_
    show Steps p.tables e below (s₁.setTop (mkF m 13 #[.val (.int p1), .val (.int p2), .val (.int p3), .val (.int kk), .unset, .unset, .unset, .unset, .unset, .unset, .unset, .unset] [(.int (p2 &&& (255 : Int32)))])) _
    refine XS.istore X0.here hx rfl (hb hby at_13) rfl (l' := #[.val (.int p1), .val (.int p2), .val (.int p3), .val (.int kk), .val (.int (p2 &&& (255 : Int32))), .unset, .unset, .unset, .unset, .unset, .unset, .unset]) rfl ?_
    show Steps p.tables e below (s₁.setTop (mkF m 15 #[.val (.int p1), .val (.int p2), .val (.int p3), .val (.int kk), .val (.int (p2 &&& (255 : Int32))), .unset, .unset, .unset, .unset, .unset, .unset, .unset] [])) _
    refine XS.iloadN X0.here hx rfl (hb hby at_15) rfl ?_
    show Steps p.tables e below (s₁.setTop (mkF m 16 #[.val (.int p1), .val (.int p2), .val (.int p3), .val (.int kk), .val (.int (p2 &&& (255 : Int32))), .unset, .unset, .unset, .unset, .unset, .unset, .unset] [(.int p3)])) _
    refine XS.sipush X0.here hx rfl (hb hby at_16) ?_
    show Steps p.tables e below (s₁.setTop (mkF m 19 #[.val (.int p1), .val (.int p2), .val (.int p3), .val (.int kk), .val (.int (p2 &&& (255 : Int32))), .unset, .unset, .unset, .unset, .unset, .unset, .unset] [(.int (255 : Int32)), (.int p3)])) _
    refine XS.iand X0.here hx rfl (hb hby at_19) rfl ?_
    show Steps p.tables e below (s₁.setTop (mkF m 20 #[.val (.int p1), .val (.int p2), .val (.int p3), .val (.int kk), .val (.int (p2 &&& (255 : Int32))), .unset, .unset, .unset, .unset, .unset, .unset, .unset] [(.int (p3 &&& (255 : Int32)))])) _
    refine XS.istore X0.here hx rfl (hb hby at_20) rfl (l' := #[.val (.int p1), .val (.int p2), .val (.int p3), .val (.int kk), .val (.int (p2 &&& (255 : Int32))), .val (.int (p3 &&& (255 : Int32))), .unset, .unset, .unset, .unset, .unset, .unset]) rfl ?_
    show Steps p.tables e below (s₁.setTop (mkF m 22 #[.val (.int p1), .val (.int p2), .val (.int p3), .val (.int kk), .val (.int (p2 &&& (255 : Int32))), .val (.int (p3 &&& (255 : Int32))), .unset, .unset, .unset, .unset, .unset, .unset] [])) _
    refine XS.iloadN X0.here hx rfl (hb hby at_22) rfl ?_
    show Steps p.tables e below (s₁.setTop (mkF m 23 #[.val (.int p1), .val (.int p2), .val (.int p3), .val (.int kk), .val (.int (p2 &&& (255 : Int32))), .val (.int (p3 &&& (255 : Int32))), .unset, .unset, .unset, .unset, .unset, .unset] [(.int kk)])) _
    exact k)
  obtain ⟨_, _, ⟨T104, L104, k104, n104⟩, -, X104, ⟨Lc104, hQ104, l104, y104, z104⟩, st104⟩ := Jvm.LawKit.callS X0 hx (y := (⟨"com/example/boot_sealer/bootsealer/rp2350/ItemTypeHeaderPinLaw", "pick", "(I)Lcom/example/boot_sealer/bootsealer/rp2350/ItemType;"⟩ : MethodName)) hown (mvT hZ (own_w hw 1 rfl)) (mvT hZ (own_w hw 2 rfl)) (mvT hZ (own_w hw 3 rfl)) (mvT hZ (own_w hw 4 rfl)) (by decide) (backOf (W := 0) (rm1 l Z a0 hw [] kk h0 n0 (Nat.le_trans Z0 (Keep.refl h0 []).1) O1 HA) hZ (own_w hw 4 rfl) (own_w hw 3 rfl) (by decide) (by decide)) (g := (mkF m 23 #[.val (.int p1), .val (.int p2), .val (.int p3), .val (.int kk), .val (.int (p2 &&& (255 : Int32))), .val (.int (p3 &&& (255 : Int32))), .unset, .unset, .unset, .unset, .unset, .unset] [(.int kk)])) rfl (by rw [hml]; rfl) (argsL := [(.int kk)]) (rest := []) (lenOf pd0 rfl) rfl (by show 2 * 0 + _ ≤ _; exact Nat.le_of_eq rfl) (hb hby at_23) (fun _ _ => ⟨rfl, e0, (by decide : 0 + 0 ≤ _), (by decide : 0 + 0 ≤ _)⟩)
  dsimp only [Pt.U, Pt.locs, Pt.cells, Pt.slots] at X104 l104 y104 z104 st104 hQ104
  subst l104 y104 z104
  obtain ⟨x105, rfl, N104q, q104_hh, q104_E, q104_C⟩ := hQ104
  have N104 := Fr.app N0 N104q
  have p106 : Go p.tables e below _ (T104.setTop (mkF m 26 #[.val (.int p1), .val (.int p2), .val (.int p3), .val (.int kk), .val (.int (p2 &&& (255 : Int32))), .val (.int (p3 &&& (255 : Int32))), .unset, .unset, .unset, .unset, .unset, .unset] [(.ref x105)])) := fun t k => p103 t (st104 _ k)
  have p107 : Go p.tables e below _ (T104.setTop (mkF m 34 #[.val (.int p1), .val (.int p2), .val (.int p3), .val (.int kk), .val (.int (p2 &&& (255 : Int32))), .val (.int (p3 &&& (255 : Int32))), .val (.ref x105), .unset, .unset, .unset, .unset, .unset] [(.int (p3 &&& (255 : Int32))), (.int (p2 &&& (255 : Int32))), (.ref x105)])) := fun t k => p106 t (by
    show Steps p.tables e below (T104.setTop (mkF m 26 #[.val (.int p1), .val (.int p2), .val (.int p3), .val (.int kk), .val (.int (p2 &&& (255 : Int32))), .val (.int (p3 &&& (255 : Int32))), .unset, .unset, .unset, .unset, .unset, .unset] [(.ref x105)])) _
    refine XS.astore X104.here hx rfl (hb hby at_26) rfl rfl (l' := #[.val (.int p1), .val (.int p2), .val (.int p3), .val (.int kk), .val (.int (p2 &&& (255 : Int32))), .val (.int (p3 &&& (255 : Int32))), .val (.ref x105), .unset, .unset, .unset, .unset, .unset]) rfl ?_
    show Steps p.tables e below (T104.setTop (mkF m 28 #[.val (.int p1), .val (.int p2), .val (.int p3), .val (.int kk), .val (.int (p2 &&& (255 : Int32))), .val (.int (p3 &&& (255 : Int32))), .val (.ref x105), .unset, .unset, .unset, .unset, .unset] [])) _
    refine XS.aload X104.here hx rfl (hb hby at_28) rfl rfl ?_
    show Steps p.tables e below (T104.setTop (mkF m 30 #[.val (.int p1), .val (.int p2), .val (.int p3), .val (.int kk), .val (.int (p2 &&& (255 : Int32))), .val (.int (p3 &&& (255 : Int32))), .val (.ref x105), .unset, .unset, .unset, .unset, .unset] [(.ref x105)])) _
    refine XS.iload X104.here hx rfl (hb hby at_30) rfl ?_
    show Steps p.tables e below (T104.setTop (mkF m 32 #[.val (.int p1), .val (.int p2), .val (.int p3), .val (.int kk), .val (.int (p2 &&& (255 : Int32))), .val (.int (p3 &&& (255 : Int32))), .val (.ref x105), .unset, .unset, .unset, .unset, .unset] [(.int (p2 &&& (255 : Int32))), (.ref x105)])) _
    refine XS.iload X104.here hx rfl (hb hby at_32) rfl ?_
    show Steps p.tables e below (T104.setTop (mkF m 34 #[.val (.int p1), .val (.int p2), .val (.int p3), .val (.int kk), .val (.int (p2 &&& (255 : Int32))), .val (.int (p3 &&& (255 : Int32))), .val (.ref x105), .unset, .unset, .unset, .unset, .unset] [(.int (p3 &&& (255 : Int32))), (.int (p2 &&& (255 : Int32))), (.ref x105)])) _
    exact k)
  obtain ⟨cq108, kq108, q108a, q108b, q108c⟩ := isOf hZ q104_hh (q104_E.ext O1.2)
  obtain ⟨_, _, ⟨T108, L108, k108, n108⟩, -, X108, ⟨Lc108, hQ108, l108, y108, z108⟩, st108⟩ := X104.virtualBack hx (y := (⟨"com/example/boot_sealer/bootsealer/rp2350/ItemType", "header", "(II)I"⟩ : MethodName)) (z := (⟨"com/example/boot_sealer/bootsealer/rp2350/ItemType", "header", "(II)I"⟩ : MethodName)) hown (mvT hZ (own_w hw 8 rfl)) (mvT hZ (own_w hw 9 rfl)) (notFace_of_selects (args := #[]) (mvT hZ (own_w hw 11 rfl))) (mvT hZ (own_w hw 11 rfl)) (mvT hZ (own_w hw 10 rfl)) (by decide) (backOf (W := 0) (rm2 l Z a0 hw [] x105 (p2 &&& (255 : Int32)) (p3 &&& (255 : Int32)) (own_cd kk) h0 n0 (Nat.le_trans Z0 (Keep.refl h0 []).1) (q104_C.ext O1.2)) hZ (own_w hw 12 rfl) (own_w hw 6 rfl) (by decide) (by decide)) q108a q108c (g := (mkF m 34 #[.val (.int p1), .val (.int p2), .val (.int p3), .val (.int kk), .val (.int (p2 &&& (255 : Int32))), .val (.int (p3 &&& (255 : Int32))), .val (.ref x105), .unset, .unset, .unset, .unset, .unset] [(.int (p3 &&& (255 : Int32))), (.int (p2 &&& (255 : Int32))), (.ref x105)])) rfl (by rw [hml]; rfl) (Steps.refl _) (argsL := [(.int (p2 &&& (255 : Int32))), (.int (p3 &&& (255 : Int32)))]) (rest := []) (lenOf pd1 rfl) rfl (by show 2 * 0 + _ ≤ _; exact Nat.le_of_eq rfl) (hb hby at_34) (fun _ _ => ⟨rfl, q104_hh, (by decide : 0 + 0 ≤ _), (by decide : 0 + 0 ≤ _)⟩)
  dsimp only [Pt.U, Pt.locs, Pt.cells, Pt.slots] at X108 l108 y108 z108 st108 hQ108
  subst l108 y108 z108
  obtain ⟨rfl, N108q, q108_hh⟩ := hQ108
  have N108 := Fr.app N104 N108q
  have p109 : Go p.tables e below _ (T108.setTop (mkF m 37 #[.val (.int p1), .val (.int p2), .val (.int p3), .val (.int kk), .val (.int (p2 &&& (255 : Int32))), .val (.int (p3 &&& (255 : Int32))), .val (.ref x105), .unset, .unset, .unset, .unset, .unset] [(.int (own_h (own_cd kk) (p2 &&& (255 : Int32)) (p3 &&& (255 : Int32))))])) := fun t k => p107 t (st108.trans k)
  have p110 : Go p.tables e below _ (T108.setTop (mkF m 46 #[.val (.int p1), .val (.int p2), .val (.int p3), .val (.int kk), .val (.int (p2 &&& (255 : Int32))), .val (.int (p3 &&& (255 : Int32))), .val (.ref x105), .val (.int (own_h (own_cd kk) (p2 &&& (255 : Int32)) (p3 &&& (255 : Int32)))), .unset, .unset, .unset, .unset] [(.int kk), (.int ((own_h (own_cd kk) (p2 &&& (255 : Int32)) (p3 &&& (255 : Int32))) &&& (255 : Int32)))])) := fun t k => p109 t (by
    show Steps p.tables e below (T108.setTop (mkF m 37 #[.val (.int p1), .val (.int p2), .val (.int p3), .val (.int kk), .val (.int (p2 &&& (255 : Int32))), .val (.int (p3 &&& (255 : Int32))), .val (.ref x105), .unset, .unset, .unset, .unset, .unset] [(.int (own_h (own_cd kk) (p2 &&& (255 : Int32)) (p3 &&& (255 : Int32))))])) _
    refine XS.istore X108.here hx rfl (hb hby at_37) rfl (l' := #[.val (.int p1), .val (.int p2), .val (.int p3), .val (.int kk), .val (.int (p2 &&& (255 : Int32))), .val (.int (p3 &&& (255 : Int32))), .val (.ref x105), .val (.int (own_h (own_cd kk) (p2 &&& (255 : Int32)) (p3 &&& (255 : Int32)))), .unset, .unset, .unset, .unset]) rfl ?_
    show Steps p.tables e below (T108.setTop (mkF m 39 #[.val (.int p1), .val (.int p2), .val (.int p3), .val (.int kk), .val (.int (p2 &&& (255 : Int32))), .val (.int (p3 &&& (255 : Int32))), .val (.ref x105), .val (.int (own_h (own_cd kk) (p2 &&& (255 : Int32)) (p3 &&& (255 : Int32)))), .unset, .unset, .unset, .unset] [])) _
    refine XS.iload X108.here hx rfl (hb hby at_39) rfl ?_
    show Steps p.tables e below (T108.setTop (mkF m 41 #[.val (.int p1), .val (.int p2), .val (.int p3), .val (.int kk), .val (.int (p2 &&& (255 : Int32))), .val (.int (p3 &&& (255 : Int32))), .val (.ref x105), .val (.int (own_h (own_cd kk) (p2 &&& (255 : Int32)) (p3 &&& (255 : Int32)))), .unset, .unset, .unset, .unset] [(.int (own_h (own_cd kk) (p2 &&& (255 : Int32)) (p3 &&& (255 : Int32))))])) _
    refine XS.sipush X108.here hx rfl (hb hby at_41) ?_
    show Steps p.tables e below (T108.setTop (mkF m 44 #[.val (.int p1), .val (.int p2), .val (.int p3), .val (.int kk), .val (.int (p2 &&& (255 : Int32))), .val (.int (p3 &&& (255 : Int32))), .val (.ref x105), .val (.int (own_h (own_cd kk) (p2 &&& (255 : Int32)) (p3 &&& (255 : Int32)))), .unset, .unset, .unset, .unset] [(.int (255 : Int32)), (.int (own_h (own_cd kk) (p2 &&& (255 : Int32)) (p3 &&& (255 : Int32))))])) _
    refine XS.iand X108.here hx rfl (hb hby at_44) rfl ?_
    show Steps p.tables e below (T108.setTop (mkF m 45 #[.val (.int p1), .val (.int p2), .val (.int p3), .val (.int kk), .val (.int (p2 &&& (255 : Int32))), .val (.int (p3 &&& (255 : Int32))), .val (.ref x105), .val (.int (own_h (own_cd kk) (p2 &&& (255 : Int32)) (p3 &&& (255 : Int32)))), .unset, .unset, .unset, .unset] [(.int ((own_h (own_cd kk) (p2 &&& (255 : Int32)) (p3 &&& (255 : Int32))) &&& (255 : Int32)))])) _
    refine XS.iloadN X108.here hx rfl (hb hby at_45) rfl ?_
    show Steps p.tables e below (T108.setTop (mkF m 46 #[.val (.int p1), .val (.int p2), .val (.int p3), .val (.int kk), .val (.int (p2 &&& (255 : Int32))), .val (.int (p3 &&& (255 : Int32))), .val (.ref x105), .val (.int (own_h (own_cd kk) (p2 &&& (255 : Int32)) (p3 &&& (255 : Int32)))), .unset, .unset, .unset, .unset] [(.int kk), (.int ((own_h (own_cd kk) (p2 &&& (255 : Int32)) (p3 &&& (255 : Int32))) &&& (255 : Int32)))])) _
    exact k)
  obtain ⟨_, _, ⟨T111, L111, k111, n111⟩, -, X111, ⟨Lc111, hQ111, l111, y111, z111⟩, st111⟩ := Jvm.LawKit.callS X108 hx (y := (⟨"com/example/boot_sealer/bootsealer/rp2350/ItemTypeHeaderPinLaw", "expectedCode", "(I)I"⟩ : MethodName)) hown (mvT hZ (own_w hw 15 rfl)) (mvT hZ (own_w hw 16 rfl)) (mvT hZ (own_w hw 3 rfl)) (mvT hZ (own_w hw 17 rfl)) (by decide) (backOf (W := 1) (rm3 l Z a0 hw [] kk h0 n0 (Nat.le_trans Z0 (Keep.refl h0 []).1) ) hZ (own_w hw 17 rfl) (own_w hw 3 rfl) (by decide) (by decide)) (g := (mkF m 46 #[.val (.int p1), .val (.int p2), .val (.int p3), .val (.int kk), .val (.int (p2 &&& (255 : Int32))), .val (.int (p3 &&& (255 : Int32))), .val (.ref x105), .val (.int (own_h (own_cd kk) (p2 &&& (255 : Int32)) (p3 &&& (255 : Int32)))), .unset, .unset, .unset, .unset] [(.int kk), (.int ((own_h (own_cd kk) (p2 &&& (255 : Int32)) (p3 &&& (255 : Int32))) &&& (255 : Int32)))])) rfl (by rw [hml]; rfl) (argsL := [(.int kk)]) (rest := [(.int ((own_h (own_cd kk) (p2 &&& (255 : Int32)) (p3 &&& (255 : Int32))) &&& (255 : Int32)))]) (lenOf pd2 rfl) rfl (by show 2 * 0 + _ ≤ _; exact Nat.le_of_eq rfl) (hb hby at_46) (fun _ _ => ⟨rfl, q108_hh, (by decide : 0 + 0 ≤ _), (by decide : 0 + 0 ≤ _)⟩)
  dsimp only [Pt.U, Pt.locs, Pt.cells, Pt.slots] at X111 l111 y111 z111 st111 hQ111
  subst l111 y111 z111
  obtain ⟨rfl, N111q, q111_hh⟩ := hQ111
  have N111 := Fr.app N108 N111q
  have p112 : Go p.tables e below _ (T111.setTop (mkF m 49 #[.val (.int p1), .val (.int p2), .val (.int p3), .val (.int kk), .val (.int (p2 &&& (255 : Int32))), .val (.int (p3 &&& (255 : Int32))), .val (.ref x105), .val (.int (own_h (own_cd kk) (p2 &&& (255 : Int32)) (p3 &&& (255 : Int32)))), .unset, .unset, .unset, .unset] [(.int (own_cd kk)), (.int ((own_h (own_cd kk) (p2 &&& (255 : Int32)) (p3 &&& (255 : Int32))) &&& (255 : Int32)))])) := fun t k => p110 t (st111 _ k)
  have c113 : (((own_h (own_cd kk) (p2 &&& (255 : Int32)) (p3 &&& (255 : Int32))) &&& (255 : Int32)) = (own_cd kk)) := own_l1 _ _ _
  have p114 : Go p.tables e below _ (T111.setTop (mkF m 70 #[.val (.int p1), .val (.int p2), .val (.int p3), .val (.int kk), .val (.int (p2 &&& (255 : Int32))), .val (.int (p3 &&& (255 : Int32))), .val (.ref x105), .val (.int (own_h (own_cd kk) (p2 &&& (255 : Int32)) (p3 &&& (255 : Int32)))), .val (.int (1 : Int32)), .unset, .unset, .unset] [(.int (p2 &&& (255 : Int32))), (.int ((((own_h (own_cd kk) (p2 &&& (255 : Int32)) (p3 &&& (255 : Int32))).toUInt32 >>> (8 : UInt32)).toInt32) &&& (255 : Int32)))])) := fun t k => p112 t (by
    show Steps p.tables e below (T111.setTop (mkF m 49 #[.val (.int p1), .val (.int p2), .val (.int p3), .val (.int kk), .val (.int (p2 &&& (255 : Int32))), .val (.int (p3 &&& (255 : Int32))), .val (.ref x105), .val (.int (own_h (own_cd kk) (p2 &&& (255 : Int32)) (p3 &&& (255 : Int32)))), .unset, .unset, .unset, .unset] [(.int (own_cd kk)), (.int ((own_h (own_cd kk) (p2 &&& (255 : Int32)) (p3 &&& (255 : Int32))) &&& (255 : Int32)))])) _
    refine XS.icmpNo X111.here hx rfl (hb hby at_49) rfl (teq c113).2 ?_
    show Steps p.tables e below (T111.setTop (mkF m 52 #[.val (.int p1), .val (.int p2), .val (.int p3), .val (.int kk), .val (.int (p2 &&& (255 : Int32))), .val (.int (p3 &&& (255 : Int32))), .val (.ref x105), .val (.int (own_h (own_cd kk) (p2 &&& (255 : Int32)) (p3 &&& (255 : Int32)))), .unset, .unset, .unset, .unset] [])) _
    refine XS.iconst X111.here hx rfl (hb hby at_52) ?_
    show Steps p.tables e below (T111.setTop (mkF m 53 #[.val (.int p1), .val (.int p2), .val (.int p3), .val (.int kk), .val (.int (p2 &&& (255 : Int32))), .val (.int (p3 &&& (255 : Int32))), .val (.ref x105), .val (.int (own_h (own_cd kk) (p2 &&& (255 : Int32)) (p3 &&& (255 : Int32)))), .unset, .unset, .unset, .unset] [(.int (1 : Int32))])) _
    refine XS.goto X111.here hx rfl (pc0 := 53) (pc' := 57) rfl (hb hby at_53) (by decide) (by decide) ?_
    show Steps p.tables e below (T111.setTop (mkF m 57 #[.val (.int p1), .val (.int p2), .val (.int p3), .val (.int kk), .val (.int (p2 &&& (255 : Int32))), .val (.int (p3 &&& (255 : Int32))), .val (.ref x105), .val (.int (own_h (own_cd kk) (p2 &&& (255 : Int32)) (p3 &&& (255 : Int32)))), .unset, .unset, .unset, .unset] [(.int (1 : Int32))])) _
    refine XS.istore X111.here hx rfl (hb hby at_57) rfl (l' := #[.val (.int p1), .val (.int p2), .val (.int p3), .val (.int kk), .val (.int (p2 &&& (255 : Int32))), .val (.int (p3 &&& (255 : Int32))), .val (.ref x105), .val (.int (own_h (own_cd kk) (p2 &&& (255 : Int32)) (p3 &&& (255 : Int32)))), .val (.int (1 : Int32)), .unset, .unset, .unset]) rfl ?_
    show Steps p.tables e below (T111.setTop (mkF m 59 #[.val (.int p1), .val (.int p2), .val (.int p3), .val (.int kk), .val (.int (p2 &&& (255 : Int32))), .val (.int (p3 &&& (255 : Int32))), .val (.ref x105), .val (.int (own_h (own_cd kk) (p2 &&& (255 : Int32)) (p3 &&& (255 : Int32)))), .val (.int (1 : Int32)), .unset, .unset, .unset] [])) _
    refine XS.iload X111.here hx rfl (hb hby at_59) rfl ?_
    show Steps p.tables e below (T111.setTop (mkF m 61 #[.val (.int p1), .val (.int p2), .val (.int p3), .val (.int kk), .val (.int (p2 &&& (255 : Int32))), .val (.int (p3 &&& (255 : Int32))), .val (.ref x105), .val (.int (own_h (own_cd kk) (p2 &&& (255 : Int32)) (p3 &&& (255 : Int32)))), .val (.int (1 : Int32)), .unset, .unset, .unset] [(.int (own_h (own_cd kk) (p2 &&& (255 : Int32)) (p3 &&& (255 : Int32))))])) _
    refine XS.bipush X111.here hx rfl (hb hby at_61) ?_
    show Steps p.tables e below (T111.setTop (mkF m 63 #[.val (.int p1), .val (.int p2), .val (.int p3), .val (.int kk), .val (.int (p2 &&& (255 : Int32))), .val (.int (p3 &&& (255 : Int32))), .val (.ref x105), .val (.int (own_h (own_cd kk) (p2 &&& (255 : Int32)) (p3 &&& (255 : Int32)))), .val (.int (1 : Int32)), .unset, .unset, .unset] [(.int (8 : Int32)), (.int (own_h (own_cd kk) (p2 &&& (255 : Int32)) (p3 &&& (255 : Int32))))])) _
    refine XS.iushr X111.here hx rfl (hb hby at_63) rfl ?_
    show Steps p.tables e below (T111.setTop (mkF m 64 #[.val (.int p1), .val (.int p2), .val (.int p3), .val (.int kk), .val (.int (p2 &&& (255 : Int32))), .val (.int (p3 &&& (255 : Int32))), .val (.ref x105), .val (.int (own_h (own_cd kk) (p2 &&& (255 : Int32)) (p3 &&& (255 : Int32)))), .val (.int (1 : Int32)), .unset, .unset, .unset] [(.int (((own_h (own_cd kk) (p2 &&& (255 : Int32)) (p3 &&& (255 : Int32))).toUInt32 >>> (8 : UInt32)).toInt32))])) _
    refine XS.sipush X111.here hx rfl (hb hby at_64) ?_
    show Steps p.tables e below (T111.setTop (mkF m 67 #[.val (.int p1), .val (.int p2), .val (.int p3), .val (.int kk), .val (.int (p2 &&& (255 : Int32))), .val (.int (p3 &&& (255 : Int32))), .val (.ref x105), .val (.int (own_h (own_cd kk) (p2 &&& (255 : Int32)) (p3 &&& (255 : Int32)))), .val (.int (1 : Int32)), .unset, .unset, .unset] [(.int (255 : Int32)), (.int (((own_h (own_cd kk) (p2 &&& (255 : Int32)) (p3 &&& (255 : Int32))).toUInt32 >>> (8 : UInt32)).toInt32))])) _
    refine XS.iand X111.here hx rfl (hb hby at_67) rfl ?_
    show Steps p.tables e below (T111.setTop (mkF m 68 #[.val (.int p1), .val (.int p2), .val (.int p3), .val (.int kk), .val (.int (p2 &&& (255 : Int32))), .val (.int (p3 &&& (255 : Int32))), .val (.ref x105), .val (.int (own_h (own_cd kk) (p2 &&& (255 : Int32)) (p3 &&& (255 : Int32)))), .val (.int (1 : Int32)), .unset, .unset, .unset] [(.int ((((own_h (own_cd kk) (p2 &&& (255 : Int32)) (p3 &&& (255 : Int32))).toUInt32 >>> (8 : UInt32)).toInt32) &&& (255 : Int32)))])) _
    refine XS.iload X111.here hx rfl (hb hby at_68) rfl ?_
    show Steps p.tables e below (T111.setTop (mkF m 70 #[.val (.int p1), .val (.int p2), .val (.int p3), .val (.int kk), .val (.int (p2 &&& (255 : Int32))), .val (.int (p3 &&& (255 : Int32))), .val (.ref x105), .val (.int (own_h (own_cd kk) (p2 &&& (255 : Int32)) (p3 &&& (255 : Int32)))), .val (.int (1 : Int32)), .unset, .unset, .unset] [(.int (p2 &&& (255 : Int32))), (.int ((((own_h (own_cd kk) (p2 &&& (255 : Int32)) (p3 &&& (255 : Int32))).toUInt32 >>> (8 : UInt32)).toInt32) &&& (255 : Int32)))])) _
    exact k)
  have c115 : (((((own_h (own_cd kk) (p2 &&& (255 : Int32)) (p3 &&& (255 : Int32))).toUInt32 >>> (8 : UInt32)).toInt32) &&& (255 : Int32)) = (p2 &&& (255 : Int32))) := own_l2 _ _ _
  have p116 : Go p.tables e below _ (T111.setTop (mkF m 89 #[.val (.int p1), .val (.int p2), .val (.int p3), .val (.int kk), .val (.int (p2 &&& (255 : Int32))), .val (.int (p3 &&& (255 : Int32))), .val (.ref x105), .val (.int (own_h (own_cd kk) (p2 &&& (255 : Int32)) (p3 &&& (255 : Int32)))), .val (.int (1 : Int32)), .val (.int (1 : Int32)), .unset, .unset] [(.int ((((own_h (own_cd kk) (p2 &&& (255 : Int32)) (p3 &&& (255 : Int32))).toUInt32 >>> (16 : UInt32)).toInt32) &&& (255 : Int32)))])) := fun t k => p114 t (by
    show Steps p.tables e below (T111.setTop (mkF m 70 #[.val (.int p1), .val (.int p2), .val (.int p3), .val (.int kk), .val (.int (p2 &&& (255 : Int32))), .val (.int (p3 &&& (255 : Int32))), .val (.ref x105), .val (.int (own_h (own_cd kk) (p2 &&& (255 : Int32)) (p3 &&& (255 : Int32)))), .val (.int (1 : Int32)), .unset, .unset, .unset] [(.int (p2 &&& (255 : Int32))), (.int ((((own_h (own_cd kk) (p2 &&& (255 : Int32)) (p3 &&& (255 : Int32))).toUInt32 >>> (8 : UInt32)).toInt32) &&& (255 : Int32)))])) _
    refine XS.icmpNo X111.here hx rfl (hb hby at_70) rfl (teq c115).2 ?_
    show Steps p.tables e below (T111.setTop (mkF m 73 #[.val (.int p1), .val (.int p2), .val (.int p3), .val (.int kk), .val (.int (p2 &&& (255 : Int32))), .val (.int (p3 &&& (255 : Int32))), .val (.ref x105), .val (.int (own_h (own_cd kk) (p2 &&& (255 : Int32)) (p3 &&& (255 : Int32)))), .val (.int (1 : Int32)), .unset, .unset, .unset] [])) _
    refine XS.iconst X111.here hx rfl (hb hby at_73) ?_
    show Steps p.tables e below (T111.setTop (mkF m 74 #[.val (.int p1), .val (.int p2), .val (.int p3), .val (.int kk), .val (.int (p2 &&& (255 : Int32))), .val (.int (p3 &&& (255 : Int32))), .val (.ref x105), .val (.int (own_h (own_cd kk) (p2 &&& (255 : Int32)) (p3 &&& (255 : Int32)))), .val (.int (1 : Int32)), .unset, .unset, .unset] [(.int (1 : Int32))])) _
    refine XS.goto X111.here hx rfl (pc0 := 74) (pc' := 78) rfl (hb hby at_74) (by decide) (by decide) ?_
    show Steps p.tables e below (T111.setTop (mkF m 78 #[.val (.int p1), .val (.int p2), .val (.int p3), .val (.int kk), .val (.int (p2 &&& (255 : Int32))), .val (.int (p3 &&& (255 : Int32))), .val (.ref x105), .val (.int (own_h (own_cd kk) (p2 &&& (255 : Int32)) (p3 &&& (255 : Int32)))), .val (.int (1 : Int32)), .unset, .unset, .unset] [(.int (1 : Int32))])) _
    refine XS.istore X111.here hx rfl (hb hby at_78) rfl (l' := #[.val (.int p1), .val (.int p2), .val (.int p3), .val (.int kk), .val (.int (p2 &&& (255 : Int32))), .val (.int (p3 &&& (255 : Int32))), .val (.ref x105), .val (.int (own_h (own_cd kk) (p2 &&& (255 : Int32)) (p3 &&& (255 : Int32)))), .val (.int (1 : Int32)), .val (.int (1 : Int32)), .unset, .unset]) rfl ?_
    show Steps p.tables e below (T111.setTop (mkF m 80 #[.val (.int p1), .val (.int p2), .val (.int p3), .val (.int kk), .val (.int (p2 &&& (255 : Int32))), .val (.int (p3 &&& (255 : Int32))), .val (.ref x105), .val (.int (own_h (own_cd kk) (p2 &&& (255 : Int32)) (p3 &&& (255 : Int32)))), .val (.int (1 : Int32)), .val (.int (1 : Int32)), .unset, .unset] [])) _
    refine XS.iload X111.here hx rfl (hb hby at_80) rfl ?_
    show Steps p.tables e below (T111.setTop (mkF m 82 #[.val (.int p1), .val (.int p2), .val (.int p3), .val (.int kk), .val (.int (p2 &&& (255 : Int32))), .val (.int (p3 &&& (255 : Int32))), .val (.ref x105), .val (.int (own_h (own_cd kk) (p2 &&& (255 : Int32)) (p3 &&& (255 : Int32)))), .val (.int (1 : Int32)), .val (.int (1 : Int32)), .unset, .unset] [(.int (own_h (own_cd kk) (p2 &&& (255 : Int32)) (p3 &&& (255 : Int32))))])) _
    refine XS.bipush X111.here hx rfl (hb hby at_82) ?_
    show Steps p.tables e below (T111.setTop (mkF m 84 #[.val (.int p1), .val (.int p2), .val (.int p3), .val (.int kk), .val (.int (p2 &&& (255 : Int32))), .val (.int (p3 &&& (255 : Int32))), .val (.ref x105), .val (.int (own_h (own_cd kk) (p2 &&& (255 : Int32)) (p3 &&& (255 : Int32)))), .val (.int (1 : Int32)), .val (.int (1 : Int32)), .unset, .unset] [(.int (16 : Int32)), (.int (own_h (own_cd kk) (p2 &&& (255 : Int32)) (p3 &&& (255 : Int32))))])) _
    refine XS.iushr X111.here hx rfl (hb hby at_84) rfl ?_
    show Steps p.tables e below (T111.setTop (mkF m 85 #[.val (.int p1), .val (.int p2), .val (.int p3), .val (.int kk), .val (.int (p2 &&& (255 : Int32))), .val (.int (p3 &&& (255 : Int32))), .val (.ref x105), .val (.int (own_h (own_cd kk) (p2 &&& (255 : Int32)) (p3 &&& (255 : Int32)))), .val (.int (1 : Int32)), .val (.int (1 : Int32)), .unset, .unset] [(.int (((own_h (own_cd kk) (p2 &&& (255 : Int32)) (p3 &&& (255 : Int32))).toUInt32 >>> (16 : UInt32)).toInt32))])) _
    refine XS.sipush X111.here hx rfl (hb hby at_85) ?_
    show Steps p.tables e below (T111.setTop (mkF m 88 #[.val (.int p1), .val (.int p2), .val (.int p3), .val (.int kk), .val (.int (p2 &&& (255 : Int32))), .val (.int (p3 &&& (255 : Int32))), .val (.ref x105), .val (.int (own_h (own_cd kk) (p2 &&& (255 : Int32)) (p3 &&& (255 : Int32)))), .val (.int (1 : Int32)), .val (.int (1 : Int32)), .unset, .unset] [(.int (255 : Int32)), (.int (((own_h (own_cd kk) (p2 &&& (255 : Int32)) (p3 &&& (255 : Int32))).toUInt32 >>> (16 : UInt32)).toInt32))])) _
    refine XS.iand X111.here hx rfl (hb hby at_88) rfl ?_
    show Steps p.tables e below (T111.setTop (mkF m 89 #[.val (.int p1), .val (.int p2), .val (.int p3), .val (.int kk), .val (.int (p2 &&& (255 : Int32))), .val (.int (p3 &&& (255 : Int32))), .val (.ref x105), .val (.int (own_h (own_cd kk) (p2 &&& (255 : Int32)) (p3 &&& (255 : Int32)))), .val (.int (1 : Int32)), .val (.int (1 : Int32)), .unset, .unset] [(.int ((((own_h (own_cd kk) (p2 &&& (255 : Int32)) (p3 &&& (255 : Int32))).toUInt32 >>> (16 : UInt32)).toInt32) &&& (255 : Int32)))])) _
    exact k)
  have c117 : (((((own_h (own_cd kk) (p2 &&& (255 : Int32)) (p3 &&& (255 : Int32))).toUInt32 >>> (16 : UInt32)).toInt32) &&& (255 : Int32)) = (0 : Int32)) := own_l3 _ _ _
  have p118 : Go p.tables e below _ (T111.setTop (mkF m 106 #[.val (.int p1), .val (.int p2), .val (.int p3), .val (.int kk), .val (.int (p2 &&& (255 : Int32))), .val (.int (p3 &&& (255 : Int32))), .val (.ref x105), .val (.int (own_h (own_cd kk) (p2 &&& (255 : Int32)) (p3 &&& (255 : Int32)))), .val (.int (1 : Int32)), .val (.int (1 : Int32)), .val (.int (1 : Int32)), .unset] [(.int (p3 &&& (255 : Int32))), (.int (((own_h (own_cd kk) (p2 &&& (255 : Int32)) (p3 &&& (255 : Int32))).toUInt32 >>> (24 : UInt32)).toInt32))])) := fun t k => p116 t (by
    show Steps p.tables e below (T111.setTop (mkF m 89 #[.val (.int p1), .val (.int p2), .val (.int p3), .val (.int kk), .val (.int (p2 &&& (255 : Int32))), .val (.int (p3 &&& (255 : Int32))), .val (.ref x105), .val (.int (own_h (own_cd kk) (p2 &&& (255 : Int32)) (p3 &&& (255 : Int32)))), .val (.int (1 : Int32)), .val (.int (1 : Int32)), .unset, .unset] [(.int ((((own_h (own_cd kk) (p2 &&& (255 : Int32)) (p3 &&& (255 : Int32))).toUInt32 >>> (16 : UInt32)).toInt32) &&& (255 : Int32)))])) _
    refine XS.ifNo X111.here hx rfl (hb hby at_89) rfl ((if0 _ _).trans (teq c117).2) ?_
    show Steps p.tables e below (T111.setTop (mkF m 92 #[.val (.int p1), .val (.int p2), .val (.int p3), .val (.int kk), .val (.int (p2 &&& (255 : Int32))), .val (.int (p3 &&& (255 : Int32))), .val (.ref x105), .val (.int (own_h (own_cd kk) (p2 &&& (255 : Int32)) (p3 &&& (255 : Int32)))), .val (.int (1 : Int32)), .val (.int (1 : Int32)), .unset, .unset] [])) _
    refine XS.iconst X111.here hx rfl (hb hby at_92) ?_
    show Steps p.tables e below (T111.setTop (mkF m 93 #[.val (.int p1), .val (.int p2), .val (.int p3), .val (.int kk), .val (.int (p2 &&& (255 : Int32))), .val (.int (p3 &&& (255 : Int32))), .val (.ref x105), .val (.int (own_h (own_cd kk) (p2 &&& (255 : Int32)) (p3 &&& (255 : Int32)))), .val (.int (1 : Int32)), .val (.int (1 : Int32)), .unset, .unset] [(.int (1 : Int32))])) _
    refine XS.goto X111.here hx rfl (pc0 := 93) (pc' := 97) rfl (hb hby at_93) (by decide) (by decide) ?_
    show Steps p.tables e below (T111.setTop (mkF m 97 #[.val (.int p1), .val (.int p2), .val (.int p3), .val (.int kk), .val (.int (p2 &&& (255 : Int32))), .val (.int (p3 &&& (255 : Int32))), .val (.ref x105), .val (.int (own_h (own_cd kk) (p2 &&& (255 : Int32)) (p3 &&& (255 : Int32)))), .val (.int (1 : Int32)), .val (.int (1 : Int32)), .unset, .unset] [(.int (1 : Int32))])) _
    refine XS.istore X111.here hx rfl (hb hby at_97) rfl (l' := #[.val (.int p1), .val (.int p2), .val (.int p3), .val (.int kk), .val (.int (p2 &&& (255 : Int32))), .val (.int (p3 &&& (255 : Int32))), .val (.ref x105), .val (.int (own_h (own_cd kk) (p2 &&& (255 : Int32)) (p3 &&& (255 : Int32)))), .val (.int (1 : Int32)), .val (.int (1 : Int32)), .val (.int (1 : Int32)), .unset]) rfl ?_
    show Steps p.tables e below (T111.setTop (mkF m 99 #[.val (.int p1), .val (.int p2), .val (.int p3), .val (.int kk), .val (.int (p2 &&& (255 : Int32))), .val (.int (p3 &&& (255 : Int32))), .val (.ref x105), .val (.int (own_h (own_cd kk) (p2 &&& (255 : Int32)) (p3 &&& (255 : Int32)))), .val (.int (1 : Int32)), .val (.int (1 : Int32)), .val (.int (1 : Int32)), .unset] [])) _
    refine XS.iload X111.here hx rfl (hb hby at_99) rfl ?_
    show Steps p.tables e below (T111.setTop (mkF m 101 #[.val (.int p1), .val (.int p2), .val (.int p3), .val (.int kk), .val (.int (p2 &&& (255 : Int32))), .val (.int (p3 &&& (255 : Int32))), .val (.ref x105), .val (.int (own_h (own_cd kk) (p2 &&& (255 : Int32)) (p3 &&& (255 : Int32)))), .val (.int (1 : Int32)), .val (.int (1 : Int32)), .val (.int (1 : Int32)), .unset] [(.int (own_h (own_cd kk) (p2 &&& (255 : Int32)) (p3 &&& (255 : Int32))))])) _
    refine XS.bipush X111.here hx rfl (hb hby at_101) ?_
    show Steps p.tables e below (T111.setTop (mkF m 103 #[.val (.int p1), .val (.int p2), .val (.int p3), .val (.int kk), .val (.int (p2 &&& (255 : Int32))), .val (.int (p3 &&& (255 : Int32))), .val (.ref x105), .val (.int (own_h (own_cd kk) (p2 &&& (255 : Int32)) (p3 &&& (255 : Int32)))), .val (.int (1 : Int32)), .val (.int (1 : Int32)), .val (.int (1 : Int32)), .unset] [(.int (24 : Int32)), (.int (own_h (own_cd kk) (p2 &&& (255 : Int32)) (p3 &&& (255 : Int32))))])) _
    refine XS.iushr X111.here hx rfl (hb hby at_103) rfl ?_
    show Steps p.tables e below (T111.setTop (mkF m 104 #[.val (.int p1), .val (.int p2), .val (.int p3), .val (.int kk), .val (.int (p2 &&& (255 : Int32))), .val (.int (p3 &&& (255 : Int32))), .val (.ref x105), .val (.int (own_h (own_cd kk) (p2 &&& (255 : Int32)) (p3 &&& (255 : Int32)))), .val (.int (1 : Int32)), .val (.int (1 : Int32)), .val (.int (1 : Int32)), .unset] [(.int (((own_h (own_cd kk) (p2 &&& (255 : Int32)) (p3 &&& (255 : Int32))).toUInt32 >>> (24 : UInt32)).toInt32))])) _
    refine XS.iload X111.here hx rfl (hb hby at_104) rfl ?_
    show Steps p.tables e below (T111.setTop (mkF m 106 #[.val (.int p1), .val (.int p2), .val (.int p3), .val (.int kk), .val (.int (p2 &&& (255 : Int32))), .val (.int (p3 &&& (255 : Int32))), .val (.ref x105), .val (.int (own_h (own_cd kk) (p2 &&& (255 : Int32)) (p3 &&& (255 : Int32)))), .val (.int (1 : Int32)), .val (.int (1 : Int32)), .val (.int (1 : Int32)), .unset] [(.int (p3 &&& (255 : Int32))), (.int (((own_h (own_cd kk) (p2 &&& (255 : Int32)) (p3 &&& (255 : Int32))).toUInt32 >>> (24 : UInt32)).toInt32))])) _
    exact k)
  have c119 : ((((own_h (own_cd kk) (p2 &&& (255 : Int32)) (p3 &&& (255 : Int32))).toUInt32 >>> (24 : UInt32)).toInt32) = (p3 &&& (255 : Int32))) := own_l4 _ _ _
  have p120 : Go p.tables e below _ (T111.setTop (mkF m 141 #[.val (.int p1), .val (.int p2), .val (.int p3), .val (.int kk), .val (.int (p2 &&& (255 : Int32))), .val (.int (p3 &&& (255 : Int32))), .val (.ref x105), .val (.int (own_h (own_cd kk) (p2 &&& (255 : Int32)) (p3 &&& (255 : Int32)))), .val (.int (1 : Int32)), .val (.int (1 : Int32)), .val (.int (1 : Int32)), .val (.int (1 : Int32))] [(.int (1 : Int32))])) := fun t k => p118 t (by
    show Steps p.tables e below (T111.setTop (mkF m 106 #[.val (.int p1), .val (.int p2), .val (.int p3), .val (.int kk), .val (.int (p2 &&& (255 : Int32))), .val (.int (p3 &&& (255 : Int32))), .val (.ref x105), .val (.int (own_h (own_cd kk) (p2 &&& (255 : Int32)) (p3 &&& (255 : Int32)))), .val (.int (1 : Int32)), .val (.int (1 : Int32)), .val (.int (1 : Int32)), .unset] [(.int (p3 &&& (255 : Int32))), (.int (((own_h (own_cd kk) (p2 &&& (255 : Int32)) (p3 &&& (255 : Int32))).toUInt32 >>> (24 : UInt32)).toInt32))])) _
    refine XS.icmpNo X111.here hx rfl (hb hby at_106) rfl (teq c119).2 ?_
    show Steps p.tables e below (T111.setTop (mkF m 109 #[.val (.int p1), .val (.int p2), .val (.int p3), .val (.int kk), .val (.int (p2 &&& (255 : Int32))), .val (.int (p3 &&& (255 : Int32))), .val (.ref x105), .val (.int (own_h (own_cd kk) (p2 &&& (255 : Int32)) (p3 &&& (255 : Int32)))), .val (.int (1 : Int32)), .val (.int (1 : Int32)), .val (.int (1 : Int32)), .unset] [])) _
    refine XS.iconst X111.here hx rfl (hb hby at_109) ?_
    show Steps p.tables e below (T111.setTop (mkF m 110 #[.val (.int p1), .val (.int p2), .val (.int p3), .val (.int kk), .val (.int (p2 &&& (255 : Int32))), .val (.int (p3 &&& (255 : Int32))), .val (.ref x105), .val (.int (own_h (own_cd kk) (p2 &&& (255 : Int32)) (p3 &&& (255 : Int32)))), .val (.int (1 : Int32)), .val (.int (1 : Int32)), .val (.int (1 : Int32)), .unset] [(.int (1 : Int32))])) _
    refine XS.goto X111.here hx rfl (pc0 := 110) (pc' := 114) rfl (hb hby at_110) (by decide) (by decide) ?_
    show Steps p.tables e below (T111.setTop (mkF m 114 #[.val (.int p1), .val (.int p2), .val (.int p3), .val (.int kk), .val (.int (p2 &&& (255 : Int32))), .val (.int (p3 &&& (255 : Int32))), .val (.ref x105), .val (.int (own_h (own_cd kk) (p2 &&& (255 : Int32)) (p3 &&& (255 : Int32)))), .val (.int (1 : Int32)), .val (.int (1 : Int32)), .val (.int (1 : Int32)), .unset] [(.int (1 : Int32))])) _
    refine XS.istore X111.here hx rfl (hb hby at_114) rfl (l' := #[.val (.int p1), .val (.int p2), .val (.int p3), .val (.int kk), .val (.int (p2 &&& (255 : Int32))), .val (.int (p3 &&& (255 : Int32))), .val (.ref x105), .val (.int (own_h (own_cd kk) (p2 &&& (255 : Int32)) (p3 &&& (255 : Int32)))), .val (.int (1 : Int32)), .val (.int (1 : Int32)), .val (.int (1 : Int32)), .val (.int (1 : Int32))]) rfl ?_
    show Steps p.tables e below (T111.setTop (mkF m 116 #[.val (.int p1), .val (.int p2), .val (.int p3), .val (.int kk), .val (.int (p2 &&& (255 : Int32))), .val (.int (p3 &&& (255 : Int32))), .val (.ref x105), .val (.int (own_h (own_cd kk) (p2 &&& (255 : Int32)) (p3 &&& (255 : Int32)))), .val (.int (1 : Int32)), .val (.int (1 : Int32)), .val (.int (1 : Int32)), .val (.int (1 : Int32))] [])) _
    refine XS.iload X111.here hx rfl (hb hby at_116) rfl ?_
    show Steps p.tables e below (T111.setTop (mkF m 118 #[.val (.int p1), .val (.int p2), .val (.int p3), .val (.int kk), .val (.int (p2 &&& (255 : Int32))), .val (.int (p3 &&& (255 : Int32))), .val (.ref x105), .val (.int (own_h (own_cd kk) (p2 &&& (255 : Int32)) (p3 &&& (255 : Int32)))), .val (.int (1 : Int32)), .val (.int (1 : Int32)), .val (.int (1 : Int32)), .val (.int (1 : Int32))] [(.int (1 : Int32))])) _
    refine XS.ifNo X111.here hx rfl (hb hby at_118) rfl ((if0 _ _).trans (feq (by decide : ¬ ((1 : Int32) = (0 : Int32)))).1) ?_
    show Steps p.tables e below (T111.setTop (mkF m 121 #[.val (.int p1), .val (.int p2), .val (.int p3), .val (.int kk), .val (.int (p2 &&& (255 : Int32))), .val (.int (p3 &&& (255 : Int32))), .val (.ref x105), .val (.int (own_h (own_cd kk) (p2 &&& (255 : Int32)) (p3 &&& (255 : Int32)))), .val (.int (1 : Int32)), .val (.int (1 : Int32)), .val (.int (1 : Int32)), .val (.int (1 : Int32))] [])) _
    refine XS.iload X111.here hx rfl (hb hby at_121) rfl ?_
    show Steps p.tables e below (T111.setTop (mkF m 123 #[.val (.int p1), .val (.int p2), .val (.int p3), .val (.int kk), .val (.int (p2 &&& (255 : Int32))), .val (.int (p3 &&& (255 : Int32))), .val (.ref x105), .val (.int (own_h (own_cd kk) (p2 &&& (255 : Int32)) (p3 &&& (255 : Int32)))), .val (.int (1 : Int32)), .val (.int (1 : Int32)), .val (.int (1 : Int32)), .val (.int (1 : Int32))] [(.int (1 : Int32))])) _
    refine XS.ifNo X111.here hx rfl (hb hby at_123) rfl ((if0 _ _).trans (feq (by decide : ¬ ((1 : Int32) = (0 : Int32)))).1) ?_
    show Steps p.tables e below (T111.setTop (mkF m 126 #[.val (.int p1), .val (.int p2), .val (.int p3), .val (.int kk), .val (.int (p2 &&& (255 : Int32))), .val (.int (p3 &&& (255 : Int32))), .val (.ref x105), .val (.int (own_h (own_cd kk) (p2 &&& (255 : Int32)) (p3 &&& (255 : Int32)))), .val (.int (1 : Int32)), .val (.int (1 : Int32)), .val (.int (1 : Int32)), .val (.int (1 : Int32))] [])) _
    refine XS.iload X111.here hx rfl (hb hby at_126) rfl ?_
    show Steps p.tables e below (T111.setTop (mkF m 128 #[.val (.int p1), .val (.int p2), .val (.int p3), .val (.int kk), .val (.int (p2 &&& (255 : Int32))), .val (.int (p3 &&& (255 : Int32))), .val (.ref x105), .val (.int (own_h (own_cd kk) (p2 &&& (255 : Int32)) (p3 &&& (255 : Int32)))), .val (.int (1 : Int32)), .val (.int (1 : Int32)), .val (.int (1 : Int32)), .val (.int (1 : Int32))] [(.int (1 : Int32))])) _
    refine XS.ifNo X111.here hx rfl (hb hby at_128) rfl ((if0 _ _).trans (feq (by decide : ¬ ((1 : Int32) = (0 : Int32)))).1) ?_
    show Steps p.tables e below (T111.setTop (mkF m 131 #[.val (.int p1), .val (.int p2), .val (.int p3), .val (.int kk), .val (.int (p2 &&& (255 : Int32))), .val (.int (p3 &&& (255 : Int32))), .val (.ref x105), .val (.int (own_h (own_cd kk) (p2 &&& (255 : Int32)) (p3 &&& (255 : Int32)))), .val (.int (1 : Int32)), .val (.int (1 : Int32)), .val (.int (1 : Int32)), .val (.int (1 : Int32))] [])) _
    refine XS.iload X111.here hx rfl (hb hby at_131) rfl ?_
    show Steps p.tables e below (T111.setTop (mkF m 133 #[.val (.int p1), .val (.int p2), .val (.int p3), .val (.int kk), .val (.int (p2 &&& (255 : Int32))), .val (.int (p3 &&& (255 : Int32))), .val (.ref x105), .val (.int (own_h (own_cd kk) (p2 &&& (255 : Int32)) (p3 &&& (255 : Int32)))), .val (.int (1 : Int32)), .val (.int (1 : Int32)), .val (.int (1 : Int32)), .val (.int (1 : Int32))] [(.int (1 : Int32))])) _
    refine XS.ifNo X111.here hx rfl (hb hby at_133) rfl ((if0 _ _).trans (feq (by decide : ¬ ((1 : Int32) = (0 : Int32)))).1) ?_
    show Steps p.tables e below (T111.setTop (mkF m 136 #[.val (.int p1), .val (.int p2), .val (.int p3), .val (.int kk), .val (.int (p2 &&& (255 : Int32))), .val (.int (p3 &&& (255 : Int32))), .val (.ref x105), .val (.int (own_h (own_cd kk) (p2 &&& (255 : Int32)) (p3 &&& (255 : Int32)))), .val (.int (1 : Int32)), .val (.int (1 : Int32)), .val (.int (1 : Int32)), .val (.int (1 : Int32))] [])) _
    refine XS.iconst X111.here hx rfl (hb hby at_136) ?_
    show Steps p.tables e below (T111.setTop (mkF m 137 #[.val (.int p1), .val (.int p2), .val (.int p3), .val (.int kk), .val (.int (p2 &&& (255 : Int32))), .val (.int (p3 &&& (255 : Int32))), .val (.ref x105), .val (.int (own_h (own_cd kk) (p2 &&& (255 : Int32)) (p3 &&& (255 : Int32)))), .val (.int (1 : Int32)), .val (.int (1 : Int32)), .val (.int (1 : Int32)), .val (.int (1 : Int32))] [(.int (1 : Int32))])) _
    refine XS.goto X111.here hx rfl (pc0 := 137) (pc' := 141) rfl (hb hby at_137) (by decide) (by decide) ?_
    show Steps p.tables e below (T111.setTop (mkF m 141 #[.val (.int p1), .val (.int p2), .val (.int p3), .val (.int kk), .val (.int (p2 &&& (255 : Int32))), .val (.int (p3 &&& (255 : Int32))), .val (.ref x105), .val (.int (own_h (own_cd kk) (p2 &&& (255 : Int32)) (p3 &&& (255 : Int32)))), .val (.int (1 : Int32)), .val (.int (1 : Int32)), .val (.int (1 : Int32)), .val (.int (1 : Int32))] [(.int (1 : Int32))])) _
    exact k)
  obtain ⟨fs, hr, hrun, hended, hW, hsame⟩ := X111.leave (v := some (.int (1 : Int32))) (fun h => by rw [Bd.returns] at h; cases h)
  refine ⟨_, _, p120 _ (retN X111 hx (t := .boolean) Bd.returns (by simp) (hb hby at_141) hr), hrun, hended, _, _, rfl, ?_, ⟨_, rfl⟩, hW, hsame.mono (by decide) (by decide)⟩
  show Q0 Z p1 p2 p3 h0 n0 _ T111.heap _
  rw [q111_hh]
  exact ⟨rfl, N111⟩
set_option maxRecDepth 65536 in
set_option maxHeartbeats 40000000 in
theorem comes_1 {Post : Tables → Env → Array Value → State → Outcome → State → Prop} (hpost : ∀ tb e args s v u, (limb_1_1.after args s (.returned v) u = true ∧ limb_1_2.after args s (.returned v) u = true ∧ True) → FrameEnd s (.returned v) u (Jvm.fieldLocs frame_1_writes args s ++ Jvm.arrayLocs frame_1_arrays args s ++ Jvm.staticLocs frame_1_statics s) 0 0 → Post tb e args s (.returned v) u) :
    ArmFor flags0 classFile x code maxLocals ret World_1 tables_1 room_1 Calls_1 rest_1 Pre_1 Post := by
  intro l hfl _ _ p e ha hc hk s m args below hf hA hF happ hP
  obtain ⟨hcalls, hrest, hpre⟩ := hP
  obtain ⟨-, -, -, hnamed, -, -, -, hat⟩ := (Spec.applies_iff hf).mp happ
  obtain ⟨hg, hn⟩ := and_e (Cond.before_iff.mp (show (Jvm.Cond.and given_1 narrow_1).before args s = true from hpre))
  obtain ⟨ga, gb0⟩ := and_e hg
  obtain ⟨gi0, gb1⟩ := and_e gb0
  obtain ⟨gi1, gb2⟩ := and_e gb1
  have gi2 := gb2
  obtain ⟨w0, w1, w2, rfl⟩ : ∃ w0 w1 w2 : Value, args = #[w0, w1, w2] := by
    have hs : args.size = 3 := by simpa [Cond.value, given_1] using ga
    obtain ⟨L⟩ := args
    match L, hs with
    | [w0, w1, w2], _ => exact ⟨w0, w1, w2, rfl⟩
  have hw := fun d (hd : d ∈ tables_1) => atoms_spec (ws := Jvm.Cond.code x code maxLocals ret :: tables_1) hat d (List.mem_cons_of_mem _ hd)
  have hfit : Fit s := fun {y c} hc i hi => by
    obtain ⟨ha, rfl⟩ := Array.getElem?_eq_some_iff.mp hc
    have q := List.all_eq_true.mp ((Array.all_eq_true_iff_forall_mem.mp hF) _ (Array.getElem_mem ha)) i (List.mem_range.mpr hi)
    simpa [Array.getElem?_eq_getElem hi] using q
  obtain ⟨i0, ei0⟩ := is_v gi0
  obtain rfl : w0 = (.int i0) := Option.some.inj ei0
  obtain ⟨i1, ei1⟩ := is_v gi1
  obtain rfl : w1 = (.int i1) := Option.some.inj ei1
  obtain ⟨i2, ei2⟩ := is_v gi2
  obtain rfl : w2 = (.int i2) := Option.some.inj ei2
  obtain ⟨hnl, hnr⟩ := and_e hn
  obtain ⟨hnrl, hnrr⟩ := and_e hnr
  obtain ⟨hnrrl, hnrrr⟩ := and_e hnrr
  obtain ⟨hnrrrl, hnrrrr⟩ := and_e hnrrr
  obtain ⟨hnrrrrl, hnrrrrr⟩ := and_e hnrrrr
  obtain ⟨hnrrrrrl, hnrrrrrr⟩ := and_e hnrrrrr
  obtain ⟨hnrrrrrrl, hnrrrrrrr⟩ := and_e hnrrrrrr
  obtain ⟨hnrrrrrrrl, hnrrrrrrrr⟩ := and_e hnrrrrrrr
  obtain ⟨hnrrrrrrrrl, hnrrrrrrrrr⟩ := and_e hnrrrrrrrr
  obtain ⟨hnrrrrrrrrrl, hnrrrrrrrrrr⟩ := and_e hnrrrrrrrrr
  obtain ⟨hnrrrrrrrrrrl, hnrrrrrrrrrrr⟩ := and_e hnrrrrrrrrrr
  obtain ⟨hnrrrrrrrrrrrl, hnrrrrrrrrrrrr⟩ := and_e hnrrrrrrrrrrr
  obtain ⟨hnrrrrrrrrrrrrl, hnrrrrrrrrrrrrr⟩ := and_e hnrrrrrrrrrrrr
  obtain ⟨hnrrrrrrrrrrrrrl, hnrrrrrrrrrrrrrr⟩ := and_e hnrrrrrrrrrrrrr
  obtain ⟨hnrrrrrrrrrrrrrrl, hnrrrrrrrrrrrrrrr⟩ := and_e hnrrrrrrrrrrrrrr
  obtain ⟨hnrrrrrrrrrrrrrrrl, hnrrrrrrrrrrrrrrrr⟩ := and_e hnrrrrrrrrrrrrrrr
  obtain ⟨hnrrrrrrrrrrrrrrrrl, hnrrrrrrrrrrrrrrrrr⟩ := and_e hnrrrrrrrrrrrrrrrr
  obtain ⟨hnrrrrrrrrrrrrrrrrrl, hnrrrrrrrrrrrrrrrrrr⟩ := and_e hnrrrrrrrrrrrrrrrrr
  obtain ⟨hnrrrrrrrrrrrrrrrrrrl, hnrrrrrrrrrrrrrrrrrrr⟩ := and_e hnrrrrrrrrrrrrrrrrrr
  obtain ⟨hnrrrrrrrrrrrrrrrrrrrl, hnrrrrrrrrrrrrrrrrrrrr⟩ := and_e hnrrrrrrrrrrrrrrrrrrr
  obtain ⟨hnrrrrrrrrrrrrrrrrrrrrl, hnrrrrrrrrrrrrrrrrrrrrr⟩ := and_e hnrrrrrrrrrrrrrrrrrrrr
  obtain ⟨hnrrrrrrrrrrrrrrrrrrrrrl, hnrrrrrrrrrrrrrrrrrrrrrr⟩ := and_e hnrrrrrrrrrrrrrrrrrrrrr
  obtain ⟨hnrrrrrrrrrrrrrrrrrrrrrrl, hnrrrrrrrrrrrrrrrrrrrrrrr⟩ := and_e hnrrrrrrrrrrrrrrrrrrrrrr
  have En0 : own_En s "VECTOR_TABLE" 3 := by
    obtain ⟨a, ev⟩ := exa_v hnl
    exact ⟨a, Sta.start ev (Or.inr ⟨(own_w hw 6 rfl), (own_w hw 7 rfl)⟩), Exa.start ev hnl, Fld.start ((fld_at ev).symm.trans (eqInt hnrl))⟩
  have En1 : own_En s "ROLLING_WINDOW_DELTA" 5 := by
    obtain ⟨a, ev⟩ := exa_v hnrrl
    exact ⟨a, Sta.start ev (Or.inr ⟨(own_w hw 6 rfl), (own_w hw 19 rfl)⟩), Exa.start ev hnrrl, Fld.start ((fld_at ev).symm.trans (eqInt hnrrrl))⟩
  have En2 : own_En s "LOAD_MAP" 6 := by
    obtain ⟨a, ev⟩ := exa_v hnrrrrrrrrrrrrrrrrrrrrl
    exact ⟨a, Sta.start ev (Or.inr ⟨(own_w hw 6 rfl), (own_w hw 37 rfl)⟩), Exa.start ev hnrrrrrrrrrrrrrrrrrrrrl, Fld.start ((fld_at ev).symm.trans (eqInt hnrrrrrrrrrrrrrrrrrrrrrl))⟩
  have En3 : own_En s "SIGNATURE" 9 := by
    obtain ⟨a, ev⟩ := exa_v hnrrrrrrrrrrrrl
    exact ⟨a, Sta.start ev (Or.inr ⟨(own_w hw 6 rfl), (own_w hw 29 rfl)⟩), Exa.start ev hnrrrrrrrrrrrrl, Fld.start ((fld_at ev).symm.trans (eqInt hnrrrrrrrrrrrrrl))⟩
  have En4 : own_En s "PARTITION_TABLE" 10 := by
    obtain ⟨a, ev⟩ := exa_v hnrrrrrrrrrrrrrrrrl
    exact ⟨a, Sta.start ev (Or.inr ⟨(own_w hw 6 rfl), (own_w hw 33 rfl)⟩), Exa.start ev hnrrrrrrrrrrrrrrrrl, Fld.start ((fld_at ev).symm.trans (eqInt hnrrrrrrrrrrrrrrrrrl))⟩
  have En5 : own_En s "SALT" 12 := by
    obtain ⟨a, ev⟩ := exa_v hnrrrrrrrrrrrrrrrrrrl
    exact ⟨a, Sta.start ev (Or.inr ⟨(own_w hw 6 rfl), (own_w hw 35 rfl)⟩), Exa.start ev hnrrrrrrrrrrrrrrrrrrl, Fld.start ((fld_at ev).symm.trans (eqInt hnrrrrrrrrrrrrrrrrrrrl))⟩
  have En6 : own_En s "NEXT_BLOCK_OFFSET" 65 := by
    obtain ⟨a, ev⟩ := exa_v hnrrrrrrrrl
    exact ⟨a, Sta.start ev (Or.inr ⟨(own_w hw 6 rfl), (own_w hw 25 rfl)⟩), Exa.start ev hnrrrrrrrrl, Fld.start ((fld_at ev).symm.trans (eqInt hnrrrrrrrrrl))⟩
  have En7 : own_En s "IMAGE_TYPE" 66 := by
    obtain ⟨a, ev⟩ := exa_v hnrrrrrrrrrrl
    exact ⟨a, Sta.start ev (Or.inr ⟨(own_w hw 6 rfl), (own_w hw 27 rfl)⟩), Exa.start ev hnrrrrrrrrrrl, Fld.start ((fld_at ev).symm.trans (eqInt hnrrrrrrrrrrrl))⟩
  have En8 : own_En s "ENTRY_POINT" 68 := by
    obtain ⟨a, ev⟩ := exa_v hnrrrrl
    exact ⟨a, Sta.start ev (Or.inr ⟨(own_w hw 6 rfl), (own_w hw 21 rfl)⟩), Exa.start ev hnrrrrl, Fld.start ((fld_at ev).symm.trans (eqInt hnrrrrrl))⟩
  have En9 : own_En s "HASH_DEF" 71 := by
    obtain ⟨a, ev⟩ := exa_v hnrrrrrrrrrrrrrrrrrrrrrrl
    exact ⟨a, Sta.start ev (Or.inr ⟨(own_w hw 6 rfl), (own_w hw 39 rfl)⟩), Exa.start ev hnrrrrrrrrrrrrrrrrrrrrrrl, Fld.start ((fld_at ev).symm.trans (eqInt hnrrrrrrrrrrrrrrrrrrrrrrr))⟩
  have En10 : own_En s "VERSION" 72 := by
    obtain ⟨a, ev⟩ := exa_v hnrrrrrrrrrrrrrrl
    exact ⟨a, Sta.start ev (Or.inr ⟨(own_w hw 6 rfl), (own_w hw 31 rfl)⟩), Exa.start ev hnrrrrrrrrrrrrrrl, Fld.start ((fld_at ev).symm.trans (eqInt hnrrrrrrrrrrrrrrrl))⟩
  have En11 : own_En s "HASH_VALUE" 75 := by
    obtain ⟨a, ev⟩ := exa_v hnrrrrrrl
    exact ⟨a, Sta.start ev (Or.inr ⟨(own_w hw 6 rfl), (own_w hw 23 rfl)⟩), Exa.start ev hnrrrrrrl, Fld.start ((fld_at ev).symm.trans (eqInt hnrrrrrrrl))⟩
  obtain ⟨n, o, h1, h2, h3, _, L, rfl, ⟨rfl, N⟩, hq⟩ := rm0 l s _ hw tables_1 i0 i1 i2 s.heap s.heap.size (Nat.le_refl _) (Old.start s) ⟨En0, En1, En2, En3, En4, En5, En6, En7, En8, En9, En10, En11⟩ p e ha hc hk s m _ below hf ((Spec.applies_iff_loose hf).mp happ).1 ⟨rfl, State.Warmed39.refl s, rfl⟩ trivial
  refine ⟨n, _, h1, h2, h3, hpost _ _ _ _ _ _ ⟨Cond.after_iff.mpr rfl, Cond.after_iff.mpr (eq_i res_at (Term.int_eval (1)) rfl), trivial⟩ ⟨hq.1, hq.2.1, (hq.2.2.sift fun y hy => Or.inr (N y hy)).mono (by decide) (by decide)⟩⟩
theorem main_1_1 : Claimed_1_1 := comes_1 fun _ _ _ _ _ _ h hF => ⟨h.1, hF⟩
theorem main_1_2 : Claimed_1_2 := comes_1 fun _ _ _ _ _ _ h hF => ⟨h.2.1, hF⟩
end Jvm.Pilot.@@N@@
namespace Jvm.Pilot.@@N@@
open Jvm Jvm.ClassFile Sem Op Lib Jvm.Free Jvm.Stand Jvm.Pilot.@@N@@.Jvm.D
/-! MADE BY PROGRAM (witnessworld.py) out of the Statement's table words and the real class files: 12 classes; the members and pool entries that the words name. The judged class is class 1, her method 3. -/
namespace start1
open Jvm.ClassFile
def u (s : String) : CpInfo := .utf8 (stringToUtf16 s)
/-- a pool by its gaps: so many unusable entries, then the entry; so many at the end -/
def gap : Nat → List CpInfo → List CpInfo
  | 0, r => r
  | n + 1, r => .unusable :: gap n r
def poolList (es : List (Nat × CpInfo)) (last : Nat) : List CpInfo := es.foldr (fun e r => gap e.1 (e.2 :: r)) (gap last [])
def pool (es : List (Nat × CpInfo)) (last : Nat) : Array CpInfo := ⟨poolList es last⟩
def fileOf (pool : Array CpInfo) (this : Nat) (attrs : Array Attribute := #[]) (ms : Array MethodInfo := #[]) (fl : Nat := 33) (sup : Nat := 0) (ifs : Array Nat := #[]) (fds : Array FieldInfo := #[]) : ClassFile where
  minorVersion := 0
  majorVersion := 65
  constantPool := pool
  accessFlags := fl
  thisClass := this
  superClass := sup
  interfaces := ifs
  fields := fds
  methods := ms
  attributes := attrs
def plain (name : String) (sup : Option ClassId) : Class where
  name := name
  kind := .ordinary
  loader := none
  accessFlags := 33
  super := sup
  interfaces := #[]
  cf := none
  fields := #[]
  methods := #[]
  instanceTypes := #[]
  staticTypes := #[]
  resolved := #[]
  callSites := []
  init := .initialized
  statics := none
  mirror := none

def pool0 : Array CpInfo := pool [(5, u "<init>"), (0, u "()V"), (1, .class_ 10), (1, u "java/lang/Object")] 113

def k0m0 : Method := { name := "<init>", desc := "()V", sig := { parameters := [], returnType := none }, accessFlags := 1, code := none }
/-- java/lang/Object -/
def k0 : Class := { plain "java/lang/Object" none with
  accessFlags := 33
  interfaces := #[]
  cf := some (fileOf pool0 8 #[] #[{ accessFlags := 1, nameIndex := 5, descriptorIndex := 6, attributes := #[] }] 33 0 #[] #[])
  fields := #[]
  methods := #[k0m0]
  instanceTypes := #[]
  staticTypes := #[]
  resolved := Array.replicate 124 none
  statics := none }

def pool1 : Array CpInfo := pool [(2, .class_ 4), (1, u "java/lang/Object"), (0, u "<init>"), (0, u "()V"), (0, .fieldref 8 9), (0, .class_ 10), (0, .nameAndType 11 12), (0, u "com/example/boot_sealer/bootsealer/rp2350/ItemType"), (0, u "VECTOR_TABLE"), (0, u "Lcom/example/boot_sealer/bootsealer/rp2350/ItemType;"), (0, .fieldref 8 14), (0, .nameAndType 15 12), (0, u "ROLLING_WINDOW_DELTA"), (0, .fieldref 8 17), (0, .nameAndType 18 12), (0, u "LOAD_MAP"), (0, .fieldref 8 20), (0, .nameAndType 21 12), (0, u "SIGNATURE"), (0, .fieldref 8 23), (0, .nameAndType 24 12), (0, u "PARTITION_TABLE"), (0, .fieldref 8 26), (0, .nameAndType 27 12), (0, u "SALT"), (0, .fieldref 8 29), (0, .nameAndType 30 12), (0, u "NEXT_BLOCK_OFFSET"), (0, .fieldref 8 32), (0, .nameAndType 33 12), (0, u "IMAGE_TYPE"), (0, .fieldref 8 35), (0, .nameAndType 36 12), (0, u "ENTRY_POINT"), (0, .fieldref 8 38), (0, .nameAndType 39 12), (0, u "HASH_DEF"), (0, .fieldref 8 41), (0, .nameAndType 42 12), (0, u "VERSION"), (0, .fieldref 8 44), (0, .nameAndType 45 12), (0, u "HASH_VALUE"), (0, .integer 2147483647), (0, .methodref 48 49), (0, .class_ 50), (0, .nameAndType 51 52), (0, u "com/example/boot_sealer/bootsealer/rp2350/ItemTypeHeaderPinLaw"), (0, u "pick"), (0, u "(I)Lcom/example/boot_sealer/bootsealer/rp2350/ItemType;"), (0, .methodref 8 54), (0, .nameAndType 55 56), (0, u "header"), (0, u "(II)I"), (0, .methodref 48 58), (0, .nameAndType 59 60), (0, u "expectedCode"), (0, u "(I)I"), (3, u "law"), (0, u "(III)Z")] 2

def k1m0 : Method := { name := "<init>", desc := "()V", sig := { parameters := [], returnType := none }, accessFlags := 1, code := none }
def k1c1 : Code := { maxStack := 2, maxLocals := 1, code := method_2_code, exceptionTable := #[], attributes := #[] }
def k1m1 : Method := { name := "pick", desc := "(I)Lcom/example/boot_sealer/bootsealer/rp2350/ItemType;", sig := { parameters := [.int], returnType := some (.object "com/example/boot_sealer/bootsealer/rp2350/ItemType") }, accessFlags := 10, code := some k1c1 }
def k1c2 : Code := { maxStack := 2, maxLocals := 1, code := method_3_code, exceptionTable := #[], attributes := #[] }
def k1m2 : Method := { name := "expectedCode", desc := "(I)I", sig := { parameters := [.int], returnType := some .int }, accessFlags := 10, code := some k1c2 }
def k1c3 : Code := { maxStack := 3, maxLocals := 12, code := code, exceptionTable := #[], attributes := #[] }
def k1m3 : Method := { name := "law", desc := "(III)Z", sig := { parameters := [.int, .int, .int], returnType := some .boolean }, accessFlags := 9, code := some k1c3 }
/-- com/example/boot_sealer/bootsealer/rp2350/ItemTypeHeaderPinLaw -/
def k1 : Class := { plain "com/example/boot_sealer/bootsealer/rp2350/ItemTypeHeaderPinLaw" (some 0) with
  accessFlags := 49
  interfaces := #[]
  cf := some (fileOf pool1 48 #[] #[{ accessFlags := 1, nameIndex := 5, descriptorIndex := 6, attributes := #[] }, { accessFlags := 10, nameIndex := 51, descriptorIndex := 52, attributes := #[] }, { accessFlags := 10, nameIndex := 59, descriptorIndex := 60, attributes := #[] }, { accessFlags := 9, nameIndex := 64, descriptorIndex := 65, attributes := #[] }] 49 2 #[] #[])
  fields := #[]
  methods := #[k1m0, k1m1, k1m2, k1m3]
  instanceTypes := #[]
  staticTypes := #[]
  resolved := Array.replicate 68 none
  statics := none }

def pool2 : Array CpInfo := pool [(1, .class_ 2), (0, u "java/lang/constant/Constable"), (0, .class_ 4), (0, u "java/lang/Object")] 6

/-- java/lang/constant/Constable -/
def k2 : Class := { plain "java/lang/constant/Constable" (some 0) with
  accessFlags := 1537
  interfaces := #[]
  cf := some (fileOf pool2 1 #[] #[] 1537 3 #[] #[])
  fields := #[]
  methods := #[]
  instanceTypes := #[]
  staticTypes := #[]
  resolved := Array.replicate 11 none
  statics := none }

def pool3 : Array CpInfo := pool [(1, .class_ 2), (0, u "java/lang/Comparable"), (0, .class_ 4), (0, u "java/lang/Object")] 7

/-- java/lang/Comparable -/
def k3 : Class := { plain "java/lang/Comparable" (some 0) with
  accessFlags := 1537
  interfaces := #[]
  cf := some (fileOf pool3 1 #[] #[] 1537 3 #[] #[])
  fields := #[]
  methods := #[]
  instanceTypes := #[]
  staticTypes := #[]
  resolved := Array.replicate 12 none
  statics := none }

def pool4 : Array CpInfo := pool [(1, .class_ 2), (0, u "java/io/Serializable"), (0, .class_ 4), (0, u "java/lang/Object")] 2

/-- java/io/Serializable -/
def k4 : Class := { plain "java/io/Serializable" (some 0) with
  accessFlags := 1537
  interfaces := #[]
  cf := some (fileOf pool4 1 #[] #[] 1537 3 #[] #[])
  fields := #[]
  methods := #[]
  instanceTypes := #[]
  staticTypes := #[]
  resolved := Array.replicate 7 none
  statics := none }

def pool5 : Array CpInfo := pool [(2, .class_ 4), (1, u "java/lang/Enum"), (0, u "name"), (0, u "Ljava/lang/String;"), (2, u "ordinal"), (0, u "I"), (1, .class_ 14), (1, u "java/lang/Object"), (4, u "hash"), (86, .class_ 108), (1, u "java/lang/Enum$EnumDesc"), (2, .class_ 112), (0, u "java/lang/constant/Constable"), (0, .class_ 114), (0, u "java/lang/Comparable"), (0, .class_ 116), (0, u "java/io/Serializable")] 87

/-- java/lang/Enum -/
def k5 : Class := { plain "java/lang/Enum" (some 0) with
  accessFlags := 1057
  interfaces := #[2, 3, 4]
  cf := some (fileOf pool5 2 #[.nestMembers #[106]] #[] 1057 12 #[111, 113, 115] #[{ accessFlags := 18, nameIndex := 5, descriptorIndex := 6, attributes := #[] }, { accessFlags := 18, nameIndex := 9, descriptorIndex := 10, attributes := #[] }, { accessFlags := 2, nameIndex := 19, descriptorIndex := 10, attributes := #[] }])
  fields := #[{ name := "name", type := (.object "java/lang/String"), accessFlags := 18, slot := 0, constantValue := 0 }, { name := "ordinal", type := .int, accessFlags := 18, slot := 1, constantValue := 0 }, { name := "hash", type := .int, accessFlags := 2, slot := 2, constantValue := 0 }]
  methods := #[]
  instanceTypes := #[(.object "java/lang/String"), .int, .int]
  staticTypes := #[]
  resolved := Array.replicate 204 none
  statics := none }

def pool6 : Array CpInfo := pool [(1, .class_ 2), (0, u "com/example/boot_sealer/bootsealer/rp2350/ItemType"), (2, u "VECTOR_TABLE"), (0, u "Lcom/example/boot_sealer/bootsealer/rp2350/ItemType;"), (2, u "ROLLING_WINDOW_DELTA"), (2, u "LOAD_MAP"), (2, u "SIGNATURE"), (2, u "PARTITION_TABLE"), (2, u "SALT"), (2, u "NEXT_BLOCK_OFFSET"), (2, u "IMAGE_TYPE"), (2, u "ENTRY_POINT"), (2, u "HASH_DEF"), (2, u "VERSION"), (2, u "HASH_VALUE"), (2, u "IGNORED"), (2, u "UNKNOWN"), (2, u "$VALUES"), (0, u "[Lcom/example/boot_sealer/bootsealer/rp2350/ItemType;"), (6, .class_ 58), (1, u "java/lang/Enum"), (6, .fieldref 1 66), (0, .nameAndType 67 68), (0, u "code"), (0, u "I"), (31, u "header"), (0, u "(II)I")] 8

def k6c0 : Code := { maxStack := 3, maxLocals := 3, code := prog_37_method_5_code, exceptionTable := #[], attributes := #[] }
def k6m0 : Method := { name := "header", desc := "(II)I", sig := { parameters := [.int, .int], returnType := some .int }, accessFlags := 0, code := some k6c0 }
/-- com/example/boot_sealer/bootsealer/rp2350/ItemType -/
def k6 : Class := { plain "com/example/boot_sealer/bootsealer/rp2350/ItemType" (some 5) with
  accessFlags := 16433
  interfaces := #[]
  cf := some (fileOf pool6 1 #[] #[{ accessFlags := 0, nameIndex := 100, descriptorIndex := 101, attributes := #[] }] 16433 56 #[] #[{ accessFlags := 16409, nameIndex := 5, descriptorIndex := 6, attributes := #[] }, { accessFlags := 16409, nameIndex := 9, descriptorIndex := 6, attributes := #[] }, { accessFlags := 16409, nameIndex := 12, descriptorIndex := 6, attributes := #[] }, { accessFlags := 16409, nameIndex := 15, descriptorIndex := 6, attributes := #[] }, { accessFlags := 16409, nameIndex := 18, descriptorIndex := 6, attributes := #[] }, { accessFlags := 16409, nameIndex := 21, descriptorIndex := 6, attributes := #[] }, { accessFlags := 16409, nameIndex := 24, descriptorIndex := 6, attributes := #[] }, { accessFlags := 16409, nameIndex := 27, descriptorIndex := 6, attributes := #[] }, { accessFlags := 16409, nameIndex := 30, descriptorIndex := 6, attributes := #[] }, { accessFlags := 16409, nameIndex := 33, descriptorIndex := 6, attributes := #[] }, { accessFlags := 16409, nameIndex := 36, descriptorIndex := 6, attributes := #[] }, { accessFlags := 16409, nameIndex := 39, descriptorIndex := 6, attributes := #[] }, { accessFlags := 16409, nameIndex := 42, descriptorIndex := 6, attributes := #[] }, { accessFlags := 16409, nameIndex := 45, descriptorIndex := 6, attributes := #[] }, { accessFlags := 18, nameIndex := 67, descriptorIndex := 68, attributes := #[] }, { accessFlags := 4122, nameIndex := 48, descriptorIndex := 49, attributes := #[] }])
  fields := #[{ name := "VECTOR_TABLE", type := (.object "com/example/boot_sealer/bootsealer/rp2350/ItemType"), accessFlags := 16409, slot := 0, constantValue := 0 }, { name := "ROLLING_WINDOW_DELTA", type := (.object "com/example/boot_sealer/bootsealer/rp2350/ItemType"), accessFlags := 16409, slot := 1, constantValue := 0 }, { name := "LOAD_MAP", type := (.object "com/example/boot_sealer/bootsealer/rp2350/ItemType"), accessFlags := 16409, slot := 2, constantValue := 0 }, { name := "SIGNATURE", type := (.object "com/example/boot_sealer/bootsealer/rp2350/ItemType"), accessFlags := 16409, slot := 3, constantValue := 0 }, { name := "PARTITION_TABLE", type := (.object "com/example/boot_sealer/bootsealer/rp2350/ItemType"), accessFlags := 16409, slot := 4, constantValue := 0 }, { name := "SALT", type := (.object "com/example/boot_sealer/bootsealer/rp2350/ItemType"), accessFlags := 16409, slot := 5, constantValue := 0 }, { name := "NEXT_BLOCK_OFFSET", type := (.object "com/example/boot_sealer/bootsealer/rp2350/ItemType"), accessFlags := 16409, slot := 6, constantValue := 0 }, { name := "IMAGE_TYPE", type := (.object "com/example/boot_sealer/bootsealer/rp2350/ItemType"), accessFlags := 16409, slot := 7, constantValue := 0 }, { name := "ENTRY_POINT", type := (.object "com/example/boot_sealer/bootsealer/rp2350/ItemType"), accessFlags := 16409, slot := 8, constantValue := 0 }, { name := "HASH_DEF", type := (.object "com/example/boot_sealer/bootsealer/rp2350/ItemType"), accessFlags := 16409, slot := 9, constantValue := 0 }, { name := "VERSION", type := (.object "com/example/boot_sealer/bootsealer/rp2350/ItemType"), accessFlags := 16409, slot := 10, constantValue := 0 }, { name := "HASH_VALUE", type := (.object "com/example/boot_sealer/bootsealer/rp2350/ItemType"), accessFlags := 16409, slot := 11, constantValue := 0 }, { name := "IGNORED", type := (.object "com/example/boot_sealer/bootsealer/rp2350/ItemType"), accessFlags := 16409, slot := 12, constantValue := 0 }, { name := "UNKNOWN", type := (.object "com/example/boot_sealer/bootsealer/rp2350/ItemType"), accessFlags := 16409, slot := 13, constantValue := 0 }, { name := "code", type := .int, accessFlags := 18, slot := 3, constantValue := 0 }, { name := "$VALUES", type := (.array (.object "com/example/boot_sealer/bootsealer/rp2350/ItemType")), accessFlags := 4122, slot := 14, constantValue := 0 }]
  methods := #[k6m0]
  instanceTypes := #[(.object "java/lang/String"), .int, .int, .int]
  staticTypes := #[(.object "com/example/boot_sealer/bootsealer/rp2350/ItemType"), (.object "com/example/boot_sealer/bootsealer/rp2350/ItemType"), (.object "com/example/boot_sealer/bootsealer/rp2350/ItemType"), (.object "com/example/boot_sealer/bootsealer/rp2350/ItemType"), (.object "com/example/boot_sealer/bootsealer/rp2350/ItemType"), (.object "com/example/boot_sealer/bootsealer/rp2350/ItemType"), (.object "com/example/boot_sealer/bootsealer/rp2350/ItemType"), (.object "com/example/boot_sealer/bootsealer/rp2350/ItemType"), (.object "com/example/boot_sealer/bootsealer/rp2350/ItemType"), (.object "com/example/boot_sealer/bootsealer/rp2350/ItemType"), (.object "com/example/boot_sealer/bootsealer/rp2350/ItemType"), (.object "com/example/boot_sealer/bootsealer/rp2350/ItemType"), (.object "com/example/boot_sealer/bootsealer/rp2350/ItemType"), (.object "com/example/boot_sealer/bootsealer/rp2350/ItemType"), (.array (.object "com/example/boot_sealer/bootsealer/rp2350/ItemType"))]
  resolved := Array.replicate 110 none
  statics := some 0 }

def pool7 : Array CpInfo := pool [(1, u "java/lang/Cloneable"), (0, .class_ 1), (0, u "java/lang/Object"), (0, .class_ 3)] 3

/-- java/lang/Cloneable -/
def k7 : Class := { plain "java/lang/Cloneable" (some 0) with
  accessFlags := 1537
  interfaces := #[]
  cf := some (fileOf pool7 2 #[] #[] 1537 4 #[] #[])
  fields := #[]
  methods := #[]
  instanceTypes := #[]
  staticTypes := #[]
  resolved := Array.replicate 8 none
  statics := none }

/-- the primitive byte -/
def k8 : Class := { plain "byte" none with kind := .primitive 'B', accessFlags := 0x411 }
/-- [B -/
def k9 : Class := { plain "[B" (some 0) with kind := .array 8 .byte, interfaces := #[7, 4], accessFlags := 1041 }

/-- the primitive int -/
def k10 : Class := { plain "int" none with kind := .primitive 'I', accessFlags := 0x411 }
/-- [I -/
def k11 : Class := { plain "[I" (some 0) with kind := .array 10 .int, interfaces := #[7, 4], accessFlags := 1041 }

def heap : Heap := #[{ cls := 6, slots := #[.ref 1, .ref 2, .ref 3, .ref 4, .ref 5, .ref 6, .ref 7, .ref 8, .ref 9, .ref 10, .ref 11, .ref 12, .null, .null, .null], vm := .statics 6 },
  { cls := 6, slots := #[.null, .int 0, .int 0, .int 3], vm := .none },
  { cls := 6, slots := #[.null, .int 0, .int 0, .int 5], vm := .none },
  { cls := 6, slots := #[.null, .int 0, .int 0, .int 6], vm := .none },
  { cls := 6, slots := #[.null, .int 0, .int 0, .int 9], vm := .none },
  { cls := 6, slots := #[.null, .int 0, .int 0, .int 10], vm := .none },
  { cls := 6, slots := #[.null, .int 0, .int 0, .int 12], vm := .none },
  { cls := 6, slots := #[.null, .int 0, .int 0, .int 65], vm := .none },
  { cls := 6, slots := #[.null, .int 0, .int 0, .int 66], vm := .none },
  { cls := 6, slots := #[.null, .int 0, .int 0, .int 68], vm := .none },
  { cls := 6, slots := #[.null, .int 0, .int 0, .int 71], vm := .none },
  { cls := 6, slots := #[.null, .int 0, .int 0, .int 72], vm := .none },
  { cls := 6, slots := #[.null, .int 0, .int 0, .int 75], vm := .none }]
def classes : Array Class := #[k0, k1, k2, k3, k4, k5, k6, k7, k8, k9, k10, k11]
def interned : List (Array UInt16 × Addr) := []
def slotsUsed : Nat := 63
def theMethod : MethodId := ⟨1, 3⟩
def args0 : Array Value := #[.int 4, .int 5, .int 7]
def aboutOver (below : List Frame) : State where
  vm := { classes := classes, interned := interned.toArray }
  heap := heap
  slotsUsed := slotsUsed
  threads := #[{ frames := .invoking theMethod args0 :: below }]
def below0 : List Frame := [.native { method := ⟨0, 0⟩, args := #[] }]
def about1 : State := aboutOver below0
def p0 : Program := .bare "" "" ""
def e0 : Env := launch0.env 0 0 0
theorem w_frames : about1.frames = Frame.invoking theMethod args0 :: below0 := rfl
set_option maxRecDepth 65536 in
theorem w_args : argsFit about1.vm theMethod args0 = true := by decide +kernel
set_option maxRecDepth 65536 in
theorem w_heap : heapFits about1 = true := by decide +kernel
set_option maxRecDepth 65536 in
theorem w_runnable : about1.curStatus? = some .runnable := by decide +kernel
set_option maxRecDepth 65536 in
theorem w_alone : about1.alone = true := by decide +kernel
set_option maxRecDepth 65536 in
theorem w_named : about1.methodNamed? x = some theMethod := by decide +kernel
set_option maxRecDepth 65536 in
theorem w_hears : about1.hears theMethod below0 = true := by decide +kernel
set_option maxRecDepth 65536 in
theorem w_ripe : about1.ripe theMethod args0 below0 = true := by decide +kernel
theorem w_running : about1.status = .running := rfl
set_option maxRecDepth 65536 in
theorem w_room : about1.hasRoom e0.platform room_1 = true :=
  launch0.hasRoom_least _ room_1 (by decide +kernel) (by decide +kernel) (by decide +kernel) (by decide +kernel) (by decide +kernel) (by decide +kernel)
theorem allAtoms_all (ts : List Jvm.Cond) (a : Array Jvm.Value) (st : Jvm.State) : (allAtoms ts).before a st = ts.all (fun c => c.before a st) := by
  induction ts with
  | nil => rfl
  | cons c t ih =>
    show (Jvm.Cond.and c (allAtoms t)).before a st = _
    rw [Jvm.Cond.before_and, ih, List.all_cons]
def words1 : List Jvm.Cond := Jvm.Cond.code x code maxLocals ret :: tables_1
/-- a 'code' word, met by the world's own term for the bytes: nothing is compared byte by byte -/
theorem code_word {y : MethodName} {bytes : ByteArray} {mx : Nat} {rt : Option FieldType} {a : Array Value} {s : State} {m : MethodId} {meth : Method} {c : Code} (h1 : s.methodNamed? y = some m) (h2 : s.vm.method? m = some meth) (h3 : meth.code = some c) (h4 : c.code = bytes)
    (h5 : (c.maxLocals == mx && c.exceptionTable.isEmpty && decide (c.maxStack ≤ mostOperands) && decide (meth.sig.returnType = rt) && !meth.locks && decide (parseMethodDescriptor y.desc = some meth.sig)) = true) : (Jvm.Cond.code y bytes mx rt).before a s = true := by
  simp only [Bool.and_eq_true, beq_iff_eq, Bool.not_eq_true', decide_eq_true_eq] at h5
  obtain ⟨⟨⟨⟨⟨g1, g2⟩, g3⟩, g4⟩, g5⟩, g6⟩ := h5
  simp [Cond.before, Cond.holds, Cond.value, h1, h2, h3, h4, g1, g2, g3, g4, g5, g6]
def isCode : Jvm.Cond → Bool
  | .code _ _ _ _ => true
  | _ => false
theorem all_split {L : List Jvm.Cond} {P : Jvm.Cond → Bool} (h1 : L.all (fun c => isCode c || P c) = true) (h2 : ∀ c ∈ L.filter isCode, P c = true) : L.all P = true := by
  refine List.all_eq_true.mpr fun c hc => ?_
  have h := List.all_eq_true.mp h1 c hc
  rcases Bool.eq_false_or_eq_true (isCode c) with hi | hi
  · exact h2 c (List.mem_filter.mpr ⟨hc, hi⟩)
  · simpa [hi] using h
set_option maxRecDepth 65536 in
theorem w_c0 : (Jvm.Cond.code x code maxLocals ret).before args0 about1 = true := code_word (m := ⟨1, 3⟩) (meth := k1m3) (c := k1c3) (by decide +kernel) rfl rfl rfl (by decide +kernel)
set_option maxRecDepth 65536 in
theorem w_c1 : (Jvm.Cond.code ({ cls := "com/example/boot_sealer/bootsealer/rp2350/ItemTypeHeaderPinLaw", name := "pick", desc := "(I)Lcom/example/boot_sealer/bootsealer/rp2350/ItemType;" } : Jvm.MethodName) method_2_code (1 : Nat) (Option.some (Jvm.ClassFile.FieldType.object "com/example/boot_sealer/bootsealer/rp2350/ItemType"))).before args0 about1 = true := code_word (m := ⟨1, 1⟩) (meth := k1m1) (c := k1c1) (by decide +kernel) rfl rfl rfl (by decide +kernel)
set_option maxRecDepth 65536 in
theorem w_c2 : (Jvm.Cond.code ({ cls := "com/example/boot_sealer/bootsealer/rp2350/ItemType", name := "header", desc := "(II)I" } : Jvm.MethodName) prog_37_method_5_code (3 : Nat) (Option.some Jvm.ClassFile.FieldType.int)).before args0 about1 = true := code_word (m := ⟨6, 0⟩) (meth := k6m0) (c := k6c0) (by decide +kernel) rfl rfl rfl (by decide +kernel)
set_option maxRecDepth 65536 in
theorem w_c3 : (Jvm.Cond.code ({ cls := "com/example/boot_sealer/bootsealer/rp2350/ItemTypeHeaderPinLaw", name := "expectedCode", desc := "(I)I" } : Jvm.MethodName) method_3_code (1 : Nat) (Option.some Jvm.ClassFile.FieldType.int)).before args0 about1 = true := code_word (m := ⟨1, 2⟩) (meth := k1m2) (c := k1c2) (by decide +kernel) rfl rfl rfl (by decide +kernel)
def codes1 : List Jvm.Cond := [Jvm.Cond.code x code maxLocals ret, Jvm.Cond.code ({ cls := "com/example/boot_sealer/bootsealer/rp2350/ItemTypeHeaderPinLaw", name := "pick", desc := "(I)Lcom/example/boot_sealer/bootsealer/rp2350/ItemType;" } : Jvm.MethodName) method_2_code (1 : Nat) (Option.some (Jvm.ClassFile.FieldType.object "com/example/boot_sealer/bootsealer/rp2350/ItemType")), Jvm.Cond.code ({ cls := "com/example/boot_sealer/bootsealer/rp2350/ItemType", name := "header", desc := "(II)I" } : Jvm.MethodName) prog_37_method_5_code (3 : Nat) (Option.some Jvm.ClassFile.FieldType.int), Jvm.Cond.code ({ cls := "com/example/boot_sealer/bootsealer/rp2350/ItemTypeHeaderPinLaw", name := "expectedCode", desc := "(I)I" } : Jvm.MethodName) method_3_code (1 : Nat) (Option.some Jvm.ClassFile.FieldType.int)]
set_option maxRecDepth 65536 in
theorem codes_eq : words1.filter isCode = codes1 := rfl
theorem w_codes : ∀ c ∈ words1.filter isCode, c.before args0 about1 = true := by
  rw [codes_eq]
  intro c hc
  simp only [codes1, List.mem_cons, List.not_mem_nil, or_false] at hc
  rcases hc with rfl | rfl | rfl | rfl
  · exact w_c0
  · exact w_c1
  · exact w_c2
  · exact w_c3
set_option maxRecDepth 65536 in
theorem w_t1 : (words1.take 24).all (fun c => isCode c || c.before args0 about1) = true := by decide +kernel
set_option maxRecDepth 65536 in
theorem w_t2 : (words1.drop 24).all (fun c => isCode c || c.before args0 about1) = true := by decide +kernel
theorem w_tables : (allAtoms (Jvm.Cond.code x code maxLocals ret :: tables_1)).before args0 about1 = true := by
  rw [allAtoms_all]
  show words1.all (fun c => c.before args0 about1) = true
  refine all_split ?_ w_codes
  rw [← List.take_append_drop 24 words1, List.all_append, w_t1, w_t2]
  rfl
set_option maxRecDepth 65536 in
theorem w_case : (Jvm.Cond.and given_1 narrow_1).before args0 about1 = true := by decide +kernel
theorem w_applies : (headSpec (Jvm.Cond.code x code maxLocals ret :: tables_1) room_1).applies x e0.platform about1 = true :=
  (Spec.applies_iff w_frames).mpr ⟨w_running, w_runnable, w_alone, w_named, w_hears, w_ripe, w_room, w_tables⟩
theorem atStart : AtStart classFile x code maxLocals ret World_1 tables_1 room_1 Calls_1 rest_1 Pre_1 launch0 p0 e0 about1 theMethod args0 below0 :=
  ⟨lists_1, trivial, launch0.admits_env _ _ _, launch0.least_env, fairChoices_fair.cas, fairChoices_fair.clock, w_frames, w_args, w_heap, w_applies, trivial, trivial, w_case⟩
end start1
theorem witness_1 : WitnessClaimed_1 := ⟨start1.p0, start1.e0, start1.about1, start1.theMethod, start1.args0, start1.below0, start1.atStart⟩
end Jvm.Pilot.@@N@@
