import JvmDerived
import JvmDerived.Pilot.@@N@@Statement
import JvmDerived.Pilot.@@N@@Code
set_option linter.unusedVariables false
set_option linter.unusedSimpArgs false
namespace Jvm.RoadKit
open Sem ClassFile Op Lib Jvm.Stand Jvm.Free Jvm.LawKit
section New
variable {p : Program} {l : Launch} {e : Env} {R : Room} {s : State} {m : MethodId} {args : Array Value} {below : List Frame} {meth : Method} {c : Code} {T : State} {locs : List Loc} {cells slots : Nat}
theorem retI (X : Stand p l e R s m args below meth c T locs cells slots) (hx : p.tables.exec = Jvm.exec) {pc : Nat} {Ls : Array Slot} {z : Int32} {rest : List Value} (hret : meth.sig.returnType = some .int) (hd : decode c.code pc = .ok (.ireturn, 1)) {fs : List Frame}
    (hl : ∀ (f : JFrame) (acts : List Action), f.method = m → f.locked = none → f.entered = [] → (doReturn e (T.setTop f) acts (some (.int z))).1 = T.setFrames fs) : Steps p.tables e below (T.setTop (mkF m pc Ls (.int z :: rest))) (T.setFrames fs) :=
  retOut X hx (w := .int z) (t := .int) hret rfl (Or.inl ⟨rfl, Or.inl rfl, _, rfl⟩) hd hl
end New
end Jvm.RoadKit
namespace Jvm.Own
open Sem ClassFile Op Lib Jvm.Stand Jvm.Free Jvm.LawKit Jvm.RoadKit
/-- from A on the run comes to B -/
abbrev Go (tb : Tables) (e : Env) (below : List Frame) (A B : State) : Prop := ∀ t, Steps tb e below B t → Steps tb e below A t
theorem lremM {p : Program} {l : Launch} {e : Env} {R : Room} {s : State} {m : MethodId} {args : Array Value} {below : List Frame} {meth : Method} {c : Code} {T : State} {locs : List Loc} {cells slots : Nat} {g : JFrame} {target : State} (X : Stand p l e R s m args below meth c T locs cells slots) (hx : p.tables.exec = Jvm.exec) (hg : g.method = m) {x y : Int64} {rest : List Value} (hd : decode c.code g.pc = .ok (.lrem, 1)) (hs : g.stack = .long y :: .long x :: rest) (hy : y ≠ 0)
    (hr : Steps p.tables e below (T.setTop { g with pc := g.pc + 1, stack := .long (x % y) :: rest }) target) : Steps p.tables e below (T.setTop g) target :=
  XS.lrem X.here hx hg hd hs hy (by rw [lrem_mod]; exact hr)
theorem eqInt {s : State} {args : Array Value} {a : Term} {c : Int32} (h : (Cond.eq a (.int c)).value args s none s [] = some true) : a.eval args s none [] s = some (.int c) := by
  obtain ⟨x, y, hx, hy, k1, k2⟩ := cmp_v (Or.inl h)
  cases hy
  obtain ⟨z, rfl⟩ := k2
  simp [Cond.value, hx, Term.eval] at h
  subst h; exact hx
theorem neqInt {s : State} {args : Array Value} {a : Term} {c x : Int32} (hx : a.eval args s none [] s = some (.int x)) (h : (Cond.not (Cond.eq a (.int c))).value args s none s [] = some true) : ¬ x = c := by
  intro q
  have h2 := not_v h
  subst q
  simp [Cond.value, hx, Term.eval] at h2
theorem elAt {s : State} {args : Array Value} {t u : Term} {a w : Addr} {cl : Cell} {ty : FieldType} {i : Int32} (ht : t.eval args s none [] s = some (.ref a)) (A : Arr s s.heap a cl ty) (h : (Cond.eq (.elem t (.int i)) u).value args s none s [] = some true) (hu : u.eval args s none [] s = some (.ref w)) {j : Nat} (hj : i.toNatClampNeg = j) : cl.slots[j]? = some (.ref w) := by
  obtain ⟨x, y, hx, hy, k1, k2⟩ := cmp_v (Or.inl h)
  rw [hu] at hy; cases hy
  have hr : x.isRef = true := k2.2
  have e := gotT (eq_R hx hu hr rfl) h
  subst e
  have q := (elem_in hx ht (Term.int_eval i) A.1).2
  rw [hj] at q; exact q
theorem arvOf {s : State} {args : Array Value} {t : Term} {a : Addr} {cl : Cell} {ty : FieldType} {z : Int32} {vs : List Value} {dv : Value} (hf : Fit s) (ev : t.eval args s none [] s = some (.ref a)) (A : Arr s s.heap a cl ty) (hl : (Term.length t).eval args s none [] s = some (.int z)) (hz : ¬ z < 0) (hn : z.toNatClampNeg = vs.length) (H : HasL cl 0 vs) : Arv s s.heap a cl.cls ty z vs dv := by
  have ha : s.arrayAt? a = some cl := Arr.fin (Vm.Alike.refl _) A
  by_cases q : cl.slots.size < 2 ^ 31
  · rw [len_f ev ha q] at hl
    cases hl
    exact Arv.start hf A q rfl hz hn H
  · simp [Term.eval, ev, ha, q] at hl
theorem selPriv {s : State} {args : Array Value} {C : String} {z y : MethodName} (w : (Cond.selects C z z).before args s = true) (hc : z.cls = y.cls) (hp : s.PrivateAt y) (hi : (Cond.instanceMethod y).before args s = true) (hy : y.cls ≠ "java/lang/invoke/MethodHandle" ∧ y.cls ≠ "java/lang/invoke/VarHandle") : (Cond.selects y.cls y y).before args s = true := by
  obtain ⟨c2, r2, m2, -, -, q3, -, kP, hkP, hkPi⟩ := Cond.selects_spec w
  exact selects_self_of_private (hc ▸ findClass_of_methodNamed q3) hkP hkPi hp hi hy
end Jvm.Own
namespace Jvm.Pilot.@@N@@
open Jvm Jvm.ClassFile Sem Op Lib Jvm.Free Jvm.Stand Jvm.LawKit Jvm.RoadKit Jvm.Own Bundle Jvm.Pilot.@@N@@.Jvm.D
theorem own_w {Z : State} {a0 : Array Value} (hw : ∀ d ∈ tables_1, d.before a0 Z = true) (i : Nat) {d : Jvm.Cond} (h : tables_1[i]? = some d) : d.before a0 Z = true := hw _ (List.mem_of_getElem? h)
def own_word (b0 b1 b2 b3 : Int32) : Int32 := (((b0 &&& 255) ||| ((b1 &&& 255) <<< (8 : Int32))) ||| ((b2 &&& 255) <<< (16 : Int32))) ||| ((b3 &&& 255) <<< (24 : Int32))
theorem own_255 (i : Nat) : (255#32).getLsbD i = decide (i < 8) := by
  rw [BitVec.getLsbD_ofNat, show (255 : Nat) = 2 ^ 8 - 1 from rfl, Nat.testBit_two_pow_sub_one]
  by_cases h : i < 8 <;> simp [h]
  omega
theorem own_b8 (x : Int32) : (x.toInt8.toInt32 &&& 255).toBitVec = x.toBitVec &&& 255#32 := by
  apply BitVec.eq_of_getLsbD_eq
  intro i hi
  simp [own_255, BitVec.getLsbD_signExtend]
  by_cases h : i < 8 <;> simp [h, hi]
theorem own_b88 (x : Int32) : (x.toInt8.toInt32.toInt8.toInt32 &&& 255).toBitVec = x.toBitVec &&& 255#32 := by
  rw [own_b8]
  have := own_b8 x
  simpa using this
theorem own_wd (w : Int32) : own_word (w.toInt8.toInt32.toInt8.toInt32) ((w.toUInt32 >>> (8 : UInt32)).toInt32.toInt8.toInt32.toInt8.toInt32) ((w.toUInt32 >>> (16 : UInt32)).toInt32.toInt8.toInt32.toInt8.toInt32) ((w.toUInt32 >>> (24 : UInt32)).toInt32.toInt8.toInt32.toInt8.toInt32) = w := by
  apply Int32.toBitVec_inj.mp
  unfold own_word
  simp only [Int32.toBitVec_or, Int32.toBitVec_shiftLeft, own_b88]
  apply BitVec.eq_of_getLsbD_eq
  intro i hi
  simp [own_255]
  have key : ∀ k, k ≤ i → k + (i - k) = i := fun k h => by omega
  rcases Nat.lt_or_ge i 8 with a | a
  · have h1 : i < 16 := by omega
    have h2 : i < 24 := by omega
    simp [a, h1, h2]
  · rcases Nat.lt_or_ge i 16 with b | b
    · have h2 : i < 24 := by omega
      have h3 : i - 8 < 8 := by omega
      have h4 : ¬ i < 8 := by omega
      simp [b, h2, h3, h4, hi, key 8 a]
    · rcases Nat.lt_or_ge i 24 with c | c
      · have h1 : ¬ i < 8 := by omega
        have h2 : ¬ i < 16 := by omega
        have h3 : ¬ (i - 8 < 8) := by omega
        have h4 : i - 16 < 8 := by omega
        simp [c, h1, h2, h3, h4, hi, key 16 b]
      · have h1 : ¬ i < 8 := by omega
        have h2 : ¬ i < 16 := by omega
        have h3 : ¬ (i - 8 < 8) := by omega
        have h4 : ¬ (i - 16 < 8) := by omega
        have h5 : i - 24 < 8 := by omega
        have h6 : ¬ i < 24 := by omega
        simp [h1, h2, h3, h4, h5, h6, hi, key 24 c]

theorem own_rem5 (x : Int32) : (x &&& 2147483647) % 5 = 0 ∨ (x &&& 2147483647) % 5 = 1 ∨ (x &&& 2147483647) % 5 = 2 ∨ (x &&& 2147483647) % 5 = 3 ∨ (x &&& 2147483647) % 5 = 4 := by
  have h0 := c_mask x 2147483647 31 (by decide) (by decide)
  have h1 := (c_irem (x &&& 2147483647) 5 5 (by decide)).1 (by omega)
  have h2 : ((x &&& 2147483647) % 5).toInt = 0 ∨ ((x &&& 2147483647) % 5).toInt = 1 ∨ ((x &&& 2147483647) % 5).toInt = 2 ∨ ((x &&& 2147483647) % 5).toInt = 3 ∨ ((x &&& 2147483647) % 5).toInt = 4 := by omega
  rcases h2 with h | h | h | h | h
  · exact Or.inl (Int32.toInt_inj.mp h)
  · exact Or.inr (Or.inl (Int32.toInt_inj.mp h))
  · exact Or.inr (Or.inr (Or.inl (Int32.toInt_inj.mp h)))
  · exact Or.inr (Or.inr (Or.inr (Or.inl (Int32.toInt_inj.mp h))))
  · exact Or.inr (Or.inr (Or.inr (Or.inr (Int32.toInt_inj.mp h))))

theorem d1_0 : decode prog_29_method_10_code 0 = .ok (.aload_n 0, 1) := by decide +kernel
theorem d1_1 : decode prog_29_method_10_code 1 = .ok (.iload_n 1, 1) := by decide +kernel
theorem d1_2 : decode prog_29_method_10_code 2 = .ok (.baload, 1) := by decide +kernel
theorem d1_3 : decode prog_29_method_10_code 3 = .ok (.sipush 255, 3) := by decide +kernel
theorem d1_6 : decode prog_29_method_10_code 6 = .ok (.iand, 1) := by decide +kernel
theorem d1_7 : decode prog_29_method_10_code 7 = .ok (.aload_n 0, 1) := by decide +kernel
theorem d1_8 : decode prog_29_method_10_code 8 = .ok (.iload_n 1, 1) := by decide +kernel
theorem d1_9 : decode prog_29_method_10_code 9 = .ok (.iconst 1, 1) := by decide +kernel
theorem d1_10 : decode prog_29_method_10_code 10 = .ok (.iadd, 1) := by decide +kernel
theorem d1_11 : decode prog_29_method_10_code 11 = .ok (.baload, 1) := by decide +kernel
theorem d1_12 : decode prog_29_method_10_code 12 = .ok (.sipush 255, 3) := by decide +kernel
theorem d1_15 : decode prog_29_method_10_code 15 = .ok (.iand, 1) := by decide +kernel
theorem d1_16 : decode prog_29_method_10_code 16 = .ok (.bipush 8, 2) := by decide +kernel
theorem d1_18 : decode prog_29_method_10_code 18 = .ok (.ishl, 1) := by decide +kernel
theorem d1_19 : decode prog_29_method_10_code 19 = .ok (.ior, 1) := by decide +kernel
theorem d1_20 : decode prog_29_method_10_code 20 = .ok (.aload_n 0, 1) := by decide +kernel
theorem d1_21 : decode prog_29_method_10_code 21 = .ok (.iload_n 1, 1) := by decide +kernel
theorem d1_22 : decode prog_29_method_10_code 22 = .ok (.iconst 2, 1) := by decide +kernel
theorem d1_23 : decode prog_29_method_10_code 23 = .ok (.iadd, 1) := by decide +kernel
theorem d1_24 : decode prog_29_method_10_code 24 = .ok (.baload, 1) := by decide +kernel
theorem d1_25 : decode prog_29_method_10_code 25 = .ok (.sipush 255, 3) := by decide +kernel
theorem d1_28 : decode prog_29_method_10_code 28 = .ok (.iand, 1) := by decide +kernel
theorem d1_29 : decode prog_29_method_10_code 29 = .ok (.bipush 16, 2) := by decide +kernel
theorem d1_31 : decode prog_29_method_10_code 31 = .ok (.ishl, 1) := by decide +kernel
theorem d1_32 : decode prog_29_method_10_code 32 = .ok (.ior, 1) := by decide +kernel
theorem d1_33 : decode prog_29_method_10_code 33 = .ok (.aload_n 0, 1) := by decide +kernel
theorem d1_34 : decode prog_29_method_10_code 34 = .ok (.iload_n 1, 1) := by decide +kernel
theorem d1_35 : decode prog_29_method_10_code 35 = .ok (.iconst 3, 1) := by decide +kernel
theorem d1_36 : decode prog_29_method_10_code 36 = .ok (.iadd, 1) := by decide +kernel
theorem d1_37 : decode prog_29_method_10_code 37 = .ok (.baload, 1) := by decide +kernel
theorem d1_38 : decode prog_29_method_10_code 38 = .ok (.sipush 255, 3) := by decide +kernel
theorem d1_41 : decode prog_29_method_10_code 41 = .ok (.iand, 1) := by decide +kernel
theorem d1_42 : decode prog_29_method_10_code 42 = .ok (.bipush 24, 2) := by decide +kernel
theorem d1_44 : decode prog_29_method_10_code 44 = .ok (.ishl, 1) := by decide +kernel
theorem d1_45 : decode prog_29_method_10_code 45 = .ok (.ior, 1) := by decide +kernel
theorem d1_46 : decode prog_29_method_10_code 46 = .ok (.ireturn, 1) := by decide +kernel
theorem pn1 : plainFor (⟨"com/example/boot_sealer/bootsealer/rp2350/Block", "word", "([BI)I"⟩ : MethodName) = true := plainFor_of_name (by first | (simp [plainName, overriddenIn]; done) | decide +kernel)
theorem ef_rm1 (m : MethodId) (a1 : Addr) (p2 : Int32) (k1 : ClassId) (vs : List Value) (b0 : Int32) (b1 : Int32) (b2 : Int32) (b3 : Int32) : entryFrame m #[(.ref a1), (.int p2)] 2 = mkF m 0 #[.val (.ref a1), .val (.int p2)] [] := by first | (simp [entryFrame, mkF, argsToLocals, Value.category]; done) | rfl
def Q1 (Z : State) (a1 : Addr) (p2 : Int32) (k1 : ClassId) (vs : List Value) (b0 : Int32) (b1 : Int32) (b2 : Int32) (b3 : Int32) (h0 : Heap) (n0 : Nat) (v : Option Value) (h : Heap) (L : List Loc) : Prop := v = some (.int (own_word b0 b1 b2 b3)) ∧ Fr n0 L ∧ (h = h0)
set_option maxRecDepth 65536 in
set_option maxHeartbeats 40000000 in
theorem rm1 (l : Launch) (Z : State) (a0 : Array Value) (hw : ∀ d ∈ tables_1, d.before a0 Z = true) (ws : List Jvm.Cond) (a1 : Addr) (p2 : Int32) (k1 : ClassId) (vs : List Value) (b0 : Int32) (b1 : Int32) (b2 : Int32) (b3 : Int32) (h0 : Heap) (n0 : Nat) (Z0 : n0 ≤ h0.size) (V1 : Arv Z h0 a1 k1 .byte (8 : Int32) vs (.int (0 : Int32))) (i0 : ¬ p2 < 0 ∧ p2 < 8) (i1 : ¬ (p2 + (1 : Int32)) < 0 ∧ (p2 + (1 : Int32)) < 8) (i2 : ¬ (p2 + (2 : Int32)) < 0 ∧ (p2 + (2 : Int32)) < 8) (i3 : ¬ (p2 + (3 : Int32)) < 0 ∧ (p2 + (3 : Int32)) < 8) (g0 : vs.getD (p2).toNatClampNeg (.int (0 : Int32)) = .int b0) (g1 : vs.getD ((p2 + (1 : Int32))).toNatClampNeg (.int (0 : Int32)) = .int b1) (g2 : vs.getD ((p2 + (2 : Int32))).toNatClampNeg (.int (0 : Int32)) = .int b2) (g3 : vs.getD ((p2 + (3 : Int32))).toNatClampNeg (.int (0 : Int32)) = .int b3) :
    MetFree l (⟨"com/example/boot_sealer/bootsealer/rp2350/Block", "word", "([BI)I"⟩ : MethodName) (head1 (Jvm.Cond.code (⟨"com/example/boot_sealer/bootsealer/rp2350/Block", "word", "([BI)I"⟩ : MethodName) prog_29_method_10_code 2 (some .int) :: ws) ({ frames := 0, cells := 0, slots := 0, locals := 0 } : Room)) (fun a U => a = #[(.ref a1), (.int p2)] ∧ Z.Warmed39 U.vm ∧ U.heap = h0) (fun _ _ _ _ _ => True) (fun _ U o U' => ∃ v L, o = .returned v ∧ Q1 Z a1 p2 k1 vs b0 b1 b2 b3 h0 n0 v U'.heap L ∧ FrameEnd U o U' L ({ frames := 0, cells := 0, slots := 0, locals := 0 } : Room).cells ({ frames := 0, cells := 0, slots := 0, locals := 0 } : Room).slots) := by
  refine MetFree.of_bodySF pn1 hisR ?_
  intro p e s m args below meth c s₁ Bd hml0 hP hK
  obtain ⟨rfl, hZ, hh⟩ := hP
  have hx := Bd.exec
  have hby := Bd.bytes
  have hml : c.maxLocals = 2 := hml0
  have hown : s.vm.findClass "com/example/boot_sealer/bootsealer/rp2350/Block" = some m.cls := findClass_of_methodNamed Bd.named
  have hnm := (name_of_methodNamed Bd.named Bd.method).1
  have X0 : Stand p l e ({ frames := 0, cells := 0, slots := 0, locals := 0 } : Room) s m #[(.ref a1), (.int p2)] below meth c s₁ [] 0 0 := Stand.of_body Bd
  have e0 : s₁.heap = h0 := by rw [← hh, Bd.state]; rfl
  have N0 := Fr.nil n0
  have p0 : Go p.tables e below (s₁.setTop (entryFrame m #[(.ref a1), (.int p2)] 2)) (s₁.setTop (mkF m 0 #[.val (.ref a1), .val (.int p2)] [])) := fun t k => castTop (ef_rm1 m a1 p2 k1 vs b0 b1 b2 b3) k
  have p101 : Go p.tables e below _ (s₁.setTop (mkF m 2 #[.val (.ref a1), .val (.int p2)] [(.int p2), (.ref a1)])) := fun t k => p0 t (by
    show Steps p.tables e below (s₁.setTop (mkF m 0 #[.val (.ref a1), .val (.int p2)] [])) _
    refine XS.aloadN X0.here hx rfl (hb hby d1_0) rfl rfl ?_
    show Steps p.tables e below (s₁.setTop (mkF m 1 #[.val (.ref a1), .val (.int p2)] [(.ref a1)])) _
    refine XS.iloadN X0.here hx rfl (hb hby d1_1) rfl ?_
    show Steps p.tables e below (s₁.setTop (mkF m 2 #[.val (.ref a1), .val (.int p2)] [(.int p2), (.ref a1)])) _
    exact k)
  obtain ⟨cl102, Ar102, q102, S102, Ng102, H102, G102⟩ := id V1
  have hin102 := inb_of S102 (j := p2) i0
  have hat102 := H102.at (v := (.int b0)) hin102 g0
  have p103 : Go p.tables e below _ (s₁.setTop (mkF m 11 #[.val (.ref a1), .val (.int p2)] [(.int (p2 + (1 : Int32))), (.ref a1), (.int (b0 &&& (255 : Int32)))])) := fun t k => p101 t (by
    show Steps p.tables e below (s₁.setTop (mkF m 2 #[.val (.ref a1), .val (.int p2)] [(.int p2), (.ref a1)])) _
    refine X0.baloadBytes hx (j := p2) (v := (.int b0)) (by rw [e0]; exact Ar102.1) (State.isArrayOf_alike hZ.alike Ar102.2.1) Ar102.2.2 hin102 hat102 (g := (mkF m 2 #[.val (.ref a1), .val (.int p2)] [(.int p2), (.ref a1)])) rfl rfl (hb hby d1_2) _ ?_
    show Steps p.tables e below (s₁.setTop (mkF m 3 #[.val (.ref a1), .val (.int p2)] [(.int b0)])) _
    refine XS.sipush X0.here hx rfl (hb hby d1_3) ?_
    show Steps p.tables e below (s₁.setTop (mkF m 6 #[.val (.ref a1), .val (.int p2)] [(.int (255 : Int32)), (.int b0)])) _
    refine XS.iand X0.here hx rfl (hb hby d1_6) rfl ?_
    show Steps p.tables e below (s₁.setTop (mkF m 7 #[.val (.ref a1), .val (.int p2)] [(.int (b0 &&& (255 : Int32)))])) _
    refine XS.aloadN X0.here hx rfl (hb hby d1_7) rfl rfl ?_
    show Steps p.tables e below (s₁.setTop (mkF m 8 #[.val (.ref a1), .val (.int p2)] [(.ref a1), (.int (b0 &&& (255 : Int32)))])) _
    refine XS.iloadN X0.here hx rfl (hb hby d1_8) rfl ?_
    show Steps p.tables e below (s₁.setTop (mkF m 9 #[.val (.ref a1), .val (.int p2)] [(.int p2), (.ref a1), (.int (b0 &&& (255 : Int32)))])) _
    refine XS.iconst X0.here hx rfl (hb hby d1_9) ?_
    show Steps p.tables e below (s₁.setTop (mkF m 10 #[.val (.ref a1), .val (.int p2)] [(.int (1 : Int32)), (.int p2), (.ref a1), (.int (b0 &&& (255 : Int32)))])) _
    refine XS.iadd X0.here hx rfl (hb hby d1_10) rfl ?_
    show Steps p.tables e below (s₁.setTop (mkF m 11 #[.val (.ref a1), .val (.int p2)] [(.int (p2 + (1 : Int32))), (.ref a1), (.int (b0 &&& (255 : Int32)))])) _
    exact k)
  obtain ⟨cl104, Ar104, q104, S104, Ng104, H104, G104⟩ := id V1
  have hin104 := inb_of S104 (j := (p2 + (1 : Int32))) i1
  have hat104 := H104.at (v := (.int b1)) hin104 g1
  have p105 : Go p.tables e below _ (s₁.setTop (mkF m 24 #[.val (.ref a1), .val (.int p2)] [(.int (p2 + (2 : Int32))), (.ref a1), (.int ((b0 &&& (255 : Int32)) ||| ((b1 &&& (255 : Int32)) <<< (8 : Int32))))])) := fun t k => p103 t (by
    show Steps p.tables e below (s₁.setTop (mkF m 11 #[.val (.ref a1), .val (.int p2)] [(.int (p2 + (1 : Int32))), (.ref a1), (.int (b0 &&& (255 : Int32)))])) _
    refine X0.baloadBytes hx (j := (p2 + (1 : Int32))) (v := (.int b1)) (by rw [e0]; exact Ar104.1) (State.isArrayOf_alike hZ.alike Ar104.2.1) Ar104.2.2 hin104 hat104 (g := (mkF m 11 #[.val (.ref a1), .val (.int p2)] [(.int (p2 + (1 : Int32))), (.ref a1), (.int (b0 &&& (255 : Int32)))])) rfl rfl (hb hby d1_11) _ ?_
    show Steps p.tables e below (s₁.setTop (mkF m 12 #[.val (.ref a1), .val (.int p2)] [(.int b1), (.int (b0 &&& (255 : Int32)))])) _
    refine XS.sipush X0.here hx rfl (hb hby d1_12) ?_
    show Steps p.tables e below (s₁.setTop (mkF m 15 #[.val (.ref a1), .val (.int p2)] [(.int (255 : Int32)), (.int b1), (.int (b0 &&& (255 : Int32)))])) _
    refine XS.iand X0.here hx rfl (hb hby d1_15) rfl ?_
    show Steps p.tables e below (s₁.setTop (mkF m 16 #[.val (.ref a1), .val (.int p2)] [(.int (b1 &&& (255 : Int32))), (.int (b0 &&& (255 : Int32)))])) _
    refine XS.bipush X0.here hx rfl (hb hby d1_16) ?_
    show Steps p.tables e below (s₁.setTop (mkF m 18 #[.val (.ref a1), .val (.int p2)] [(.int (8 : Int32)), (.int (b1 &&& (255 : Int32))), (.int (b0 &&& (255 : Int32)))])) _
    refine XS.ishl X0.here hx rfl (hb hby d1_18) rfl ?_
    show Steps p.tables e below (s₁.setTop (mkF m 19 #[.val (.ref a1), .val (.int p2)] [(.int ((b1 &&& (255 : Int32)) <<< (8 : Int32))), (.int (b0 &&& (255 : Int32)))])) _
    refine XS.ior X0.here hx rfl (hb hby d1_19) rfl ?_
    show Steps p.tables e below (s₁.setTop (mkF m 20 #[.val (.ref a1), .val (.int p2)] [(.int ((b0 &&& (255 : Int32)) ||| ((b1 &&& (255 : Int32)) <<< (8 : Int32))))])) _
    refine XS.aloadN X0.here hx rfl (hb hby d1_20) rfl rfl ?_
    show Steps p.tables e below (s₁.setTop (mkF m 21 #[.val (.ref a1), .val (.int p2)] [(.ref a1), (.int ((b0 &&& (255 : Int32)) ||| ((b1 &&& (255 : Int32)) <<< (8 : Int32))))])) _
    refine XS.iloadN X0.here hx rfl (hb hby d1_21) rfl ?_
    show Steps p.tables e below (s₁.setTop (mkF m 22 #[.val (.ref a1), .val (.int p2)] [(.int p2), (.ref a1), (.int ((b0 &&& (255 : Int32)) ||| ((b1 &&& (255 : Int32)) <<< (8 : Int32))))])) _
    refine XS.iconst X0.here hx rfl (hb hby d1_22) ?_
    show Steps p.tables e below (s₁.setTop (mkF m 23 #[.val (.ref a1), .val (.int p2)] [(.int (2 : Int32)), (.int p2), (.ref a1), (.int ((b0 &&& (255 : Int32)) ||| ((b1 &&& (255 : Int32)) <<< (8 : Int32))))])) _
    refine XS.iadd X0.here hx rfl (hb hby d1_23) rfl ?_
    show Steps p.tables e below (s₁.setTop (mkF m 24 #[.val (.ref a1), .val (.int p2)] [(.int (p2 + (2 : Int32))), (.ref a1), (.int ((b0 &&& (255 : Int32)) ||| ((b1 &&& (255 : Int32)) <<< (8 : Int32))))])) _
    exact k)
  obtain ⟨cl106, Ar106, q106, S106, Ng106, H106, G106⟩ := id V1
  have hin106 := inb_of S106 (j := (p2 + (2 : Int32))) i2
  have hat106 := H106.at (v := (.int b2)) hin106 g2
  have p107 : Go p.tables e below _ (s₁.setTop (mkF m 37 #[.val (.ref a1), .val (.int p2)] [(.int (p2 + (3 : Int32))), (.ref a1), (.int (((b0 &&& (255 : Int32)) ||| ((b1 &&& (255 : Int32)) <<< (8 : Int32))) ||| ((b2 &&& (255 : Int32)) <<< (16 : Int32))))])) := fun t k => p105 t (by
    show Steps p.tables e below (s₁.setTop (mkF m 24 #[.val (.ref a1), .val (.int p2)] [(.int (p2 + (2 : Int32))), (.ref a1), (.int ((b0 &&& (255 : Int32)) ||| ((b1 &&& (255 : Int32)) <<< (8 : Int32))))])) _
    refine X0.baloadBytes hx (j := (p2 + (2 : Int32))) (v := (.int b2)) (by rw [e0]; exact Ar106.1) (State.isArrayOf_alike hZ.alike Ar106.2.1) Ar106.2.2 hin106 hat106 (g := (mkF m 24 #[.val (.ref a1), .val (.int p2)] [(.int (p2 + (2 : Int32))), (.ref a1), (.int ((b0 &&& (255 : Int32)) ||| ((b1 &&& (255 : Int32)) <<< (8 : Int32))))])) rfl rfl (hb hby d1_24) _ ?_
    show Steps p.tables e below (s₁.setTop (mkF m 25 #[.val (.ref a1), .val (.int p2)] [(.int b2), (.int ((b0 &&& (255 : Int32)) ||| ((b1 &&& (255 : Int32)) <<< (8 : Int32))))])) _
    refine XS.sipush X0.here hx rfl (hb hby d1_25) ?_
    show Steps p.tables e below (s₁.setTop (mkF m 28 #[.val (.ref a1), .val (.int p2)] [(.int (255 : Int32)), (.int b2), (.int ((b0 &&& (255 : Int32)) ||| ((b1 &&& (255 : Int32)) <<< (8 : Int32))))])) _
    refine XS.iand X0.here hx rfl (hb hby d1_28) rfl ?_
    show Steps p.tables e below (s₁.setTop (mkF m 29 #[.val (.ref a1), .val (.int p2)] [(.int (b2 &&& (255 : Int32))), (.int ((b0 &&& (255 : Int32)) ||| ((b1 &&& (255 : Int32)) <<< (8 : Int32))))])) _
    refine XS.bipush X0.here hx rfl (hb hby d1_29) ?_
    show Steps p.tables e below (s₁.setTop (mkF m 31 #[.val (.ref a1), .val (.int p2)] [(.int (16 : Int32)), (.int (b2 &&& (255 : Int32))), (.int ((b0 &&& (255 : Int32)) ||| ((b1 &&& (255 : Int32)) <<< (8 : Int32))))])) _
    refine XS.ishl X0.here hx rfl (hb hby d1_31) rfl ?_
    show Steps p.tables e below (s₁.setTop (mkF m 32 #[.val (.ref a1), .val (.int p2)] [(.int ((b2 &&& (255 : Int32)) <<< (16 : Int32))), (.int ((b0 &&& (255 : Int32)) ||| ((b1 &&& (255 : Int32)) <<< (8 : Int32))))])) _
    refine XS.ior X0.here hx rfl (hb hby d1_32) rfl ?_
    show Steps p.tables e below (s₁.setTop (mkF m 33 #[.val (.ref a1), .val (.int p2)] [(.int (((b0 &&& (255 : Int32)) ||| ((b1 &&& (255 : Int32)) <<< (8 : Int32))) ||| ((b2 &&& (255 : Int32)) <<< (16 : Int32))))])) _
    refine XS.aloadN X0.here hx rfl (hb hby d1_33) rfl rfl ?_
    show Steps p.tables e below (s₁.setTop (mkF m 34 #[.val (.ref a1), .val (.int p2)] [(.ref a1), (.int (((b0 &&& (255 : Int32)) ||| ((b1 &&& (255 : Int32)) <<< (8 : Int32))) ||| ((b2 &&& (255 : Int32)) <<< (16 : Int32))))])) _
    refine XS.iloadN X0.here hx rfl (hb hby d1_34) rfl ?_
    show Steps p.tables e below (s₁.setTop (mkF m 35 #[.val (.ref a1), .val (.int p2)] [(.int p2), (.ref a1), (.int (((b0 &&& (255 : Int32)) ||| ((b1 &&& (255 : Int32)) <<< (8 : Int32))) ||| ((b2 &&& (255 : Int32)) <<< (16 : Int32))))])) _
    refine XS.iconst X0.here hx rfl (hb hby d1_35) ?_
    show Steps p.tables e below (s₁.setTop (mkF m 36 #[.val (.ref a1), .val (.int p2)] [(.int (3 : Int32)), (.int p2), (.ref a1), (.int (((b0 &&& (255 : Int32)) ||| ((b1 &&& (255 : Int32)) <<< (8 : Int32))) ||| ((b2 &&& (255 : Int32)) <<< (16 : Int32))))])) _
    refine XS.iadd X0.here hx rfl (hb hby d1_36) rfl ?_
    show Steps p.tables e below (s₁.setTop (mkF m 37 #[.val (.ref a1), .val (.int p2)] [(.int (p2 + (3 : Int32))), (.ref a1), (.int (((b0 &&& (255 : Int32)) ||| ((b1 &&& (255 : Int32)) <<< (8 : Int32))) ||| ((b2 &&& (255 : Int32)) <<< (16 : Int32))))])) _
    exact k)
  obtain ⟨cl108, Ar108, q108, S108, Ng108, H108, G108⟩ := id V1
  have hin108 := inb_of S108 (j := (p2 + (3 : Int32))) i3
  have hat108 := H108.at (v := (.int b3)) hin108 g3
  have p109 : Go p.tables e below _ (s₁.setTop (mkF m 46 #[.val (.ref a1), .val (.int p2)] [(.int ((((b0 &&& (255 : Int32)) ||| ((b1 &&& (255 : Int32)) <<< (8 : Int32))) ||| ((b2 &&& (255 : Int32)) <<< (16 : Int32))) ||| ((b3 &&& (255 : Int32)) <<< (24 : Int32))))])) := fun t k => p107 t (by
    show Steps p.tables e below (s₁.setTop (mkF m 37 #[.val (.ref a1), .val (.int p2)] [(.int (p2 + (3 : Int32))), (.ref a1), (.int (((b0 &&& (255 : Int32)) ||| ((b1 &&& (255 : Int32)) <<< (8 : Int32))) ||| ((b2 &&& (255 : Int32)) <<< (16 : Int32))))])) _
    refine X0.baloadBytes hx (j := (p2 + (3 : Int32))) (v := (.int b3)) (by rw [e0]; exact Ar108.1) (State.isArrayOf_alike hZ.alike Ar108.2.1) Ar108.2.2 hin108 hat108 (g := (mkF m 37 #[.val (.ref a1), .val (.int p2)] [(.int (p2 + (3 : Int32))), (.ref a1), (.int (((b0 &&& (255 : Int32)) ||| ((b1 &&& (255 : Int32)) <<< (8 : Int32))) ||| ((b2 &&& (255 : Int32)) <<< (16 : Int32))))])) rfl rfl (hb hby d1_37) _ ?_
    show Steps p.tables e below (s₁.setTop (mkF m 38 #[.val (.ref a1), .val (.int p2)] [(.int b3), (.int (((b0 &&& (255 : Int32)) ||| ((b1 &&& (255 : Int32)) <<< (8 : Int32))) ||| ((b2 &&& (255 : Int32)) <<< (16 : Int32))))])) _
    refine XS.sipush X0.here hx rfl (hb hby d1_38) ?_
    show Steps p.tables e below (s₁.setTop (mkF m 41 #[.val (.ref a1), .val (.int p2)] [(.int (255 : Int32)), (.int b3), (.int (((b0 &&& (255 : Int32)) ||| ((b1 &&& (255 : Int32)) <<< (8 : Int32))) ||| ((b2 &&& (255 : Int32)) <<< (16 : Int32))))])) _
    refine XS.iand X0.here hx rfl (hb hby d1_41) rfl ?_
    show Steps p.tables e below (s₁.setTop (mkF m 42 #[.val (.ref a1), .val (.int p2)] [(.int (b3 &&& (255 : Int32))), (.int (((b0 &&& (255 : Int32)) ||| ((b1 &&& (255 : Int32)) <<< (8 : Int32))) ||| ((b2 &&& (255 : Int32)) <<< (16 : Int32))))])) _
    refine XS.bipush X0.here hx rfl (hb hby d1_42) ?_
    show Steps p.tables e below (s₁.setTop (mkF m 44 #[.val (.ref a1), .val (.int p2)] [(.int (24 : Int32)), (.int (b3 &&& (255 : Int32))), (.int (((b0 &&& (255 : Int32)) ||| ((b1 &&& (255 : Int32)) <<< (8 : Int32))) ||| ((b2 &&& (255 : Int32)) <<< (16 : Int32))))])) _
    refine XS.ishl X0.here hx rfl (hb hby d1_44) rfl ?_
    show Steps p.tables e below (s₁.setTop (mkF m 45 #[.val (.ref a1), .val (.int p2)] [(.int ((b3 &&& (255 : Int32)) <<< (24 : Int32))), (.int (((b0 &&& (255 : Int32)) ||| ((b1 &&& (255 : Int32)) <<< (8 : Int32))) ||| ((b2 &&& (255 : Int32)) <<< (16 : Int32))))])) _
    refine XS.ior X0.here hx rfl (hb hby d1_45) rfl ?_
    show Steps p.tables e below (s₁.setTop (mkF m 46 #[.val (.ref a1), .val (.int p2)] [(.int ((((b0 &&& (255 : Int32)) ||| ((b1 &&& (255 : Int32)) <<< (8 : Int32))) ||| ((b2 &&& (255 : Int32)) <<< (16 : Int32))) ||| ((b3 &&& (255 : Int32)) <<< (24 : Int32))))])) _
    exact k)
  obtain ⟨fs, hr, hrun, hended, hW, hsame⟩ := X0.leave (v := some (.int ((((b0 &&& (255 : Int32)) ||| ((b1 &&& (255 : Int32)) <<< (8 : Int32))) ||| ((b2 &&& (255 : Int32)) <<< (16 : Int32))) ||| ((b3 &&& (255 : Int32)) <<< (24 : Int32))))) (fun h => by rw [Bd.returns] at h; cases h)
  refine ⟨_, _, p109 _ (retI X0 hx Bd.returns (hb hby d1_46) hr), hrun, hended, _, _, rfl, ?_, ⟨_, rfl⟩, hW, hsame.mono (by decide) (by decide)⟩
  show Q1 Z a1 p2 k1 vs b0 b1 b2 b3 h0 n0 _ s₁.heap _
  rw [e0]
  exact ⟨rfl, N0, rfl⟩
theorem pd0 : parseMethodDescriptor "([BI)I" = some ⟨[(.array .byte), .int], some .int⟩ := by decide +kernel
theorem pn0 : plainFor (⟨"com/example/boot_sealer/bootsealer/rp2350/BlockWordPinLaw", "law", "(IJI)Z"⟩ : MethodName) = true := plainFor_of_name (by first | (simp [plainName, overriddenIn]; done) | decide +kernel)
theorem ef_rm0 (m : MethodId) (p1 : Int32) (q2 : Int64) (p3 : Int32) : entryFrame m #[(.int p1), (.long q2), (.int p3)] maxLocals = mkF m 0 #[.val (.int p1), .val (.long q2), .second, .val (.int p3), .unset, .unset] [] := by first | (simp [entryFrame, mkF, argsToLocals, Value.category, maxLocals]; done) | rfl
def Q0 (Z : State) (p1 : Int32) (q2 : Int64) (p3 : Int32) (h0 : Heap) (n0 : Nat) (v : Option Value) (h : Heap) (L : List Loc) : Prop := v = some (.int (1 : Int32)) ∧ Fr n0 L
set_option maxRecDepth 65536 in
set_option maxHeartbeats 40000000 in
theorem rm0 (l : Launch) (Z : State) (a0 : Array Value) (hw : ∀ d ∈ tables_1, d.before a0 Z = true) (ws : List Jvm.Cond) (p1 : Int32) (q2 : Int64) (p3 : Int32) (h0 : Heap) (n0 : Nat) (Z0 : n0 ≤ h0.size) :
    MetFree l x (head1 (Jvm.Cond.code x code maxLocals ret :: ws) room_1) (fun a U => a = #[(.int p1), (.long q2), (.int p3)] ∧ Z.Warmed39 U.vm ∧ U.heap = h0) (fun _ _ _ _ _ => True) (fun _ U o U' => ∃ v L, o = .returned v ∧ Q0 Z p1 q2 p3 h0 n0 v U'.heap L ∧ FrameEnd U o U' L room_1.cells room_1.slots) := by
  refine MetFree.of_bodySF pn0 hisR ?_
  intro p e s m args below meth c s₁ Bd hml0 hP hK
  obtain ⟨rfl, hZ, hh⟩ := hP
  have hx := Bd.exec
  have hby := Bd.bytes
  have hml : c.maxLocals = 6 := hml0
  have hown : s.vm.findClass "com/example/boot_sealer/bootsealer/rp2350/BlockWordPinLaw" = some m.cls := findClass_of_methodNamed Bd.named
  have hnm := (name_of_methodNamed Bd.named Bd.method).1
  have X0 : Stand p l e room_1 s m #[(.int p1), (.long q2), (.int p3)] below meth c s₁ [] 0 0 := Stand.of_body Bd
  have e0 : s₁.heap = h0 := by rw [← hh, Bd.state]; rfl
  have N0 := Fr.nil n0
  have p0 : Go p.tables e below (s₁.setTop (entryFrame m #[(.int p1), (.long q2), (.int p3)] maxLocals)) (s₁.setTop (mkF m 0 #[.val (.int p1), .val (.long q2), .second, .val (.int p3), .unset, .unset] [])) := fun t k => castTop (ef_rm0 m p1 q2 p3) k
  have p101 : Go p.tables e below _ (s₁.setTop (mkF m 2 #[.val (.int p1), .val (.long q2), .second, .val (.int p3), .unset, .unset] [(.int (8 : Int32))])) := fun t k => p0 t (by
    show Steps p.tables e below (s₁.setTop (mkF m 0 #[.val (.int p1), .val (.long q2), .second, .val (.int p3), .unset, .unset] [])) _
    refine XS.bipush X0.here hx rfl (hb hby at_0) ?_
    show Steps p.tables e below (s₁.setTop (mkF m 2 #[.val (.int p1), .val (.long q2), .second, .val (.int p3), .unset, .unset] [(.int (8 : Int32))])) _
    exact k)
  obtain ⟨T102, h102, k102, X102, e102, E102, A102, st102⟩ := newP X0 hx hZ (own_w hw 0 rfl) e0 (g := (mkF m 2 #[.val (.int p1), .val (.long q2), .second, .val (.int p3), .unset, .unset] [(.int (8 : Int32))])) rfl (hb hby at_2) rfl (by decide) (cap := 8) (by decide) (by decide) (by decide) (by decide)
  obtain ⟨b102, g102⟩ : ∃ z, z = h0.size := ⟨_, rfl⟩
  rw [← g102] at A102 st102
  have ge_b102 : n0 ≤ b102 := Nat.le_trans (Nat.le_trans Z0 (Keep.refl h0 []).1) (Nat.le_of_eq g102.symm)
  have sz_b102 : h0.size ≤ b102 := Nat.le_trans (Keep.refl h0 []).1 (Nat.le_of_eq g102.symm)
  have K103 : Keep h0 h102 [] := (Keep.refl h0 []).ext E102
  have p104 : Go p.tables e below _ (T102.setTop (mkF m 4 #[.val (.int p1), .val (.long q2), .second, .val (.int p3), .unset, .unset] [(.ref b102)])) := fun t k => p101 t (st102 t k)
  have V102 : Arv Z h102 b102 k102 .byte (8 : Int32) [(.int (0 : Int32)), (.int (0 : Int32)), (.int (0 : Int32)), (.int (0 : Int32)), (.int (0 : Int32)), (.int (0 : Int32)), (.int (0 : Int32)), (.int (0 : Int32))] (.int (0 : Int32)) := (Arv.new A102 (by decide)).pad (pad_rep [] (.int (0 : Int32)) 8)
  have p105 : Go p.tables e below _ (T102.setTop (mkF m 12 #[.val (.int p1), .val (.long q2), .second, .val (.int p3), .val (.ref b102), .unset] [(.int ((q2.toInt32).toInt8.toInt32)), (.int (0 : Int32)), (.ref b102)])) := fun t k => p104 t (by
    show Steps p.tables e below (T102.setTop (mkF m 4 #[.val (.int p1), .val (.long q2), .second, .val (.int p3), .unset, .unset] [(.ref b102)])) _
    refine XS.astore X102.here hx rfl (hb hby at_4) rfl rfl (l' := #[.val (.int p1), .val (.long q2), .second, .val (.int p3), .val (.ref b102), .unset]) rfl ?_
    show Steps p.tables e below (T102.setTop (mkF m 6 #[.val (.int p1), .val (.long q2), .second, .val (.int p3), .val (.ref b102), .unset] [])) _
    refine XS.aload X102.here hx rfl (hb hby at_6) rfl rfl ?_
    show Steps p.tables e below (T102.setTop (mkF m 8 #[.val (.int p1), .val (.long q2), .second, .val (.int p3), .val (.ref b102), .unset] [(.ref b102)])) _
    refine XS.iconst X102.here hx rfl (hb hby at_8) ?_
    show Steps p.tables e below (T102.setTop (mkF m 9 #[.val (.int p1), .val (.long q2), .second, .val (.int p3), .val (.ref b102), .unset] [(.int (0 : Int32)), (.ref b102)])) _
    refine XS.lloadN X102.here hx rfl (hb hby at_9) rfl ?_
    show Steps p.tables e below (T102.setTop (mkF m 10 #[.val (.int p1), .val (.long q2), .second, .val (.int p3), .val (.ref b102), .unset] [(.long q2), (.int (0 : Int32)), (.ref b102)])) _
    refine XS.l2i X102.here hx rfl (hb hby at_10) rfl ?_
    show Steps p.tables e below (T102.setTop (mkF m 11 #[.val (.int p1), .val (.long q2), .second, .val (.int p3), .val (.ref b102), .unset] [(.int (q2.toInt32)), (.int (0 : Int32)), (.ref b102)])) _
    refine XS.i2b X102.here hx rfl (hb hby at_11) rfl ?_
    show Steps p.tables e below (T102.setTop (mkF m 12 #[.val (.int p1), .val (.long q2), .second, .val (.int p3), .val (.ref b102), .unset] [(.int ((q2.toInt32).toInt8.toInt32)), (.int (0 : Int32)), (.ref b102)])) _
    exact k)
  obtain ⟨cl106, Ar106, q106, S106, Ng106, H106, G106⟩ := id V102
  have hin106 := inb_of S106 (j := (0 : Int32)) ⟨by decide, by decide⟩
  obtain ⟨T106, h106, X106, e106, W106, st106⟩ := stB X102 hx hZ e102 Ar106 (j := (0 : Int32)) hin106 (g := (mkF m 12 #[.val (.int p1), .val (.long q2), .second, .val (.int p3), .val (.ref b102), .unset] [(.int ((q2.toInt32).toInt8.toInt32)), (.int (0 : Int32)), (.ref b102)])) rfl rfl (hb hby at_12)
  have K107 : Keep h0 h106 [] := K103.wr W106 (Or.inr sz_b102)
  have N106 := Fr.snoc X106 N0 ge_b102
  have p108 : Go p.tables e below _ (T106.setTop (mkF m 13 #[.val (.int p1), .val (.long q2), .second, .val (.int p3), .val (.ref b102), .unset] [])) := fun t k => p105 t (st106 t k)
  have V106 : Arv Z h106 b102 k102 .byte (8 : Int32) [(.int (nar .byte ((q2.toInt32).toInt8.toInt32))), (.int (0 : Int32)), (.int (0 : Int32)), (.int (0 : Int32)), (.int (0 : Int32)), (.int (0 : Int32)), (.int (0 : Int32)), (.int (0 : Int32))] (.int (0 : Int32)) := Arv.set Ar106 q106 S106 Ng106 H106 G106 (fits_nar_byte _) W106 0 rfl (Nat.le_of_ble_eq_true rfl)
  have p109 : Go p.tables e below _ (T106.setTop (mkF m 22 #[.val (.int p1), .val (.long q2), .second, .val (.int p3), .val (.ref b102), .unset] [(.int ((((q2.toUInt64 >>> (8 : UInt64)).toInt64).toInt32).toInt8.toInt32)), (.int (1 : Int32)), (.ref b102)])) := fun t k => p108 t (by
    show Steps p.tables e below (T106.setTop (mkF m 13 #[.val (.int p1), .val (.long q2), .second, .val (.int p3), .val (.ref b102), .unset] [])) _
    refine XS.aload X106.here hx rfl (hb hby at_13) rfl rfl ?_
    show Steps p.tables e below (T106.setTop (mkF m 15 #[.val (.int p1), .val (.long q2), .second, .val (.int p3), .val (.ref b102), .unset] [(.ref b102)])) _
    refine XS.iconst X106.here hx rfl (hb hby at_15) ?_
    show Steps p.tables e below (T106.setTop (mkF m 16 #[.val (.int p1), .val (.long q2), .second, .val (.int p3), .val (.ref b102), .unset] [(.int (1 : Int32)), (.ref b102)])) _
    refine XS.lloadN X106.here hx rfl (hb hby at_16) rfl ?_
    show Steps p.tables e below (T106.setTop (mkF m 17 #[.val (.int p1), .val (.long q2), .second, .val (.int p3), .val (.ref b102), .unset] [(.long q2), (.int (1 : Int32)), (.ref b102)])) _
    refine XS.bipush X106.here hx rfl (hb hby at_17) ?_
    show Steps p.tables e below (T106.setTop (mkF m 19 #[.val (.int p1), .val (.long q2), .second, .val (.int p3), .val (.ref b102), .unset] [(.int (8 : Int32)), (.long q2), (.int (1 : Int32)), (.ref b102)])) _
    refine XS.lushr X106.here hx rfl (hb hby at_19) rfl ?_
    show Steps p.tables e below (T106.setTop (mkF m 20 #[.val (.int p1), .val (.long q2), .second, .val (.int p3), .val (.ref b102), .unset] [(.long ((q2.toUInt64 >>> (8 : UInt64)).toInt64)), (.int (1 : Int32)), (.ref b102)])) _
    refine XS.l2i X106.here hx rfl (hb hby at_20) rfl ?_
    show Steps p.tables e below (T106.setTop (mkF m 21 #[.val (.int p1), .val (.long q2), .second, .val (.int p3), .val (.ref b102), .unset] [(.int (((q2.toUInt64 >>> (8 : UInt64)).toInt64).toInt32)), (.int (1 : Int32)), (.ref b102)])) _
    refine XS.i2b X106.here hx rfl (hb hby at_21) rfl ?_
    show Steps p.tables e below (T106.setTop (mkF m 22 #[.val (.int p1), .val (.long q2), .second, .val (.int p3), .val (.ref b102), .unset] [(.int ((((q2.toUInt64 >>> (8 : UInt64)).toInt64).toInt32).toInt8.toInt32)), (.int (1 : Int32)), (.ref b102)])) _
    exact k)
  obtain ⟨cl110, Ar110, q110, S110, Ng110, H110, G110⟩ := id V106
  have hin110 := inb_of S110 (j := (1 : Int32)) ⟨by decide, by decide⟩
  obtain ⟨T110, h110, X110, e110, W110, st110⟩ := stB X106 hx hZ e106 Ar110 (j := (1 : Int32)) hin110 (g := (mkF m 22 #[.val (.int p1), .val (.long q2), .second, .val (.int p3), .val (.ref b102), .unset] [(.int ((((q2.toUInt64 >>> (8 : UInt64)).toInt64).toInt32).toInt8.toInt32)), (.int (1 : Int32)), (.ref b102)])) rfl rfl (hb hby at_22)
  have K111 : Keep h0 h110 [] := K107.wr W110 (Or.inr sz_b102)
  have N110 := Fr.snoc X110 N106 ge_b102
  have p112 : Go p.tables e below _ (T110.setTop (mkF m 23 #[.val (.int p1), .val (.long q2), .second, .val (.int p3), .val (.ref b102), .unset] [])) := fun t k => p109 t (st110 t k)
  have V110 : Arv Z h110 b102 k102 .byte (8 : Int32) [(.int (nar .byte ((q2.toInt32).toInt8.toInt32))), (.int (nar .byte ((((q2.toUInt64 >>> (8 : UInt64)).toInt64).toInt32).toInt8.toInt32))), (.int (0 : Int32)), (.int (0 : Int32)), (.int (0 : Int32)), (.int (0 : Int32)), (.int (0 : Int32)), (.int (0 : Int32))] (.int (0 : Int32)) := Arv.set Ar110 q110 S110 Ng110 H110 G110 (fits_nar_byte _) W110 1 rfl (Nat.le_of_ble_eq_true rfl)
  have p113 : Go p.tables e below _ (T110.setTop (mkF m 32 #[.val (.int p1), .val (.long q2), .second, .val (.int p3), .val (.ref b102), .unset] [(.int ((((q2.toUInt64 >>> (16 : UInt64)).toInt64).toInt32).toInt8.toInt32)), (.int (2 : Int32)), (.ref b102)])) := fun t k => p112 t (by
    show Steps p.tables e below (T110.setTop (mkF m 23 #[.val (.int p1), .val (.long q2), .second, .val (.int p3), .val (.ref b102), .unset] [])) _
    refine XS.aload X110.here hx rfl (hb hby at_23) rfl rfl ?_
    show Steps p.tables e below (T110.setTop (mkF m 25 #[.val (.int p1), .val (.long q2), .second, .val (.int p3), .val (.ref b102), .unset] [(.ref b102)])) _
    refine XS.iconst X110.here hx rfl (hb hby at_25) ?_
    show Steps p.tables e below (T110.setTop (mkF m 26 #[.val (.int p1), .val (.long q2), .second, .val (.int p3), .val (.ref b102), .unset] [(.int (2 : Int32)), (.ref b102)])) _
    refine XS.lloadN X110.here hx rfl (hb hby at_26) rfl ?_
    show Steps p.tables e below (T110.setTop (mkF m 27 #[.val (.int p1), .val (.long q2), .second, .val (.int p3), .val (.ref b102), .unset] [(.long q2), (.int (2 : Int32)), (.ref b102)])) _
    refine XS.bipush X110.here hx rfl (hb hby at_27) ?_
    show Steps p.tables e below (T110.setTop (mkF m 29 #[.val (.int p1), .val (.long q2), .second, .val (.int p3), .val (.ref b102), .unset] [(.int (16 : Int32)), (.long q2), (.int (2 : Int32)), (.ref b102)])) _
    refine XS.lushr X110.here hx rfl (hb hby at_29) rfl ?_
    show Steps p.tables e below (T110.setTop (mkF m 30 #[.val (.int p1), .val (.long q2), .second, .val (.int p3), .val (.ref b102), .unset] [(.long ((q2.toUInt64 >>> (16 : UInt64)).toInt64)), (.int (2 : Int32)), (.ref b102)])) _
    refine XS.l2i X110.here hx rfl (hb hby at_30) rfl ?_
    show Steps p.tables e below (T110.setTop (mkF m 31 #[.val (.int p1), .val (.long q2), .second, .val (.int p3), .val (.ref b102), .unset] [(.int (((q2.toUInt64 >>> (16 : UInt64)).toInt64).toInt32)), (.int (2 : Int32)), (.ref b102)])) _
    refine XS.i2b X110.here hx rfl (hb hby at_31) rfl ?_
    show Steps p.tables e below (T110.setTop (mkF m 32 #[.val (.int p1), .val (.long q2), .second, .val (.int p3), .val (.ref b102), .unset] [(.int ((((q2.toUInt64 >>> (16 : UInt64)).toInt64).toInt32).toInt8.toInt32)), (.int (2 : Int32)), (.ref b102)])) _
    exact k)
  obtain ⟨cl114, Ar114, q114, S114, Ng114, H114, G114⟩ := id V110
  have hin114 := inb_of S114 (j := (2 : Int32)) ⟨by decide, by decide⟩
  obtain ⟨T114, h114, X114, e114, W114, st114⟩ := stB X110 hx hZ e110 Ar114 (j := (2 : Int32)) hin114 (g := (mkF m 32 #[.val (.int p1), .val (.long q2), .second, .val (.int p3), .val (.ref b102), .unset] [(.int ((((q2.toUInt64 >>> (16 : UInt64)).toInt64).toInt32).toInt8.toInt32)), (.int (2 : Int32)), (.ref b102)])) rfl rfl (hb hby at_32)
  have K115 : Keep h0 h114 [] := K111.wr W114 (Or.inr sz_b102)
  have N114 := Fr.snoc X114 N110 ge_b102
  have p116 : Go p.tables e below _ (T114.setTop (mkF m 33 #[.val (.int p1), .val (.long q2), .second, .val (.int p3), .val (.ref b102), .unset] [])) := fun t k => p113 t (st114 t k)
  have V114 : Arv Z h114 b102 k102 .byte (8 : Int32) [(.int (nar .byte ((q2.toInt32).toInt8.toInt32))), (.int (nar .byte ((((q2.toUInt64 >>> (8 : UInt64)).toInt64).toInt32).toInt8.toInt32))), (.int (nar .byte ((((q2.toUInt64 >>> (16 : UInt64)).toInt64).toInt32).toInt8.toInt32))), (.int (0 : Int32)), (.int (0 : Int32)), (.int (0 : Int32)), (.int (0 : Int32)), (.int (0 : Int32))] (.int (0 : Int32)) := Arv.set Ar114 q114 S114 Ng114 H114 G114 (fits_nar_byte _) W114 2 rfl (Nat.le_of_ble_eq_true rfl)
  have p117 : Go p.tables e below _ (T114.setTop (mkF m 42 #[.val (.int p1), .val (.long q2), .second, .val (.int p3), .val (.ref b102), .unset] [(.int ((((q2.toUInt64 >>> (24 : UInt64)).toInt64).toInt32).toInt8.toInt32)), (.int (3 : Int32)), (.ref b102)])) := fun t k => p116 t (by
    show Steps p.tables e below (T114.setTop (mkF m 33 #[.val (.int p1), .val (.long q2), .second, .val (.int p3), .val (.ref b102), .unset] [])) _
    refine XS.aload X114.here hx rfl (hb hby at_33) rfl rfl ?_
    show Steps p.tables e below (T114.setTop (mkF m 35 #[.val (.int p1), .val (.long q2), .second, .val (.int p3), .val (.ref b102), .unset] [(.ref b102)])) _
    refine XS.iconst X114.here hx rfl (hb hby at_35) ?_
    show Steps p.tables e below (T114.setTop (mkF m 36 #[.val (.int p1), .val (.long q2), .second, .val (.int p3), .val (.ref b102), .unset] [(.int (3 : Int32)), (.ref b102)])) _
    refine XS.lloadN X114.here hx rfl (hb hby at_36) rfl ?_
    show Steps p.tables e below (T114.setTop (mkF m 37 #[.val (.int p1), .val (.long q2), .second, .val (.int p3), .val (.ref b102), .unset] [(.long q2), (.int (3 : Int32)), (.ref b102)])) _
    refine XS.bipush X114.here hx rfl (hb hby at_37) ?_
    show Steps p.tables e below (T114.setTop (mkF m 39 #[.val (.int p1), .val (.long q2), .second, .val (.int p3), .val (.ref b102), .unset] [(.int (24 : Int32)), (.long q2), (.int (3 : Int32)), (.ref b102)])) _
    refine XS.lushr X114.here hx rfl (hb hby at_39) rfl ?_
    show Steps p.tables e below (T114.setTop (mkF m 40 #[.val (.int p1), .val (.long q2), .second, .val (.int p3), .val (.ref b102), .unset] [(.long ((q2.toUInt64 >>> (24 : UInt64)).toInt64)), (.int (3 : Int32)), (.ref b102)])) _
    refine XS.l2i X114.here hx rfl (hb hby at_40) rfl ?_
    show Steps p.tables e below (T114.setTop (mkF m 41 #[.val (.int p1), .val (.long q2), .second, .val (.int p3), .val (.ref b102), .unset] [(.int (((q2.toUInt64 >>> (24 : UInt64)).toInt64).toInt32)), (.int (3 : Int32)), (.ref b102)])) _
    refine XS.i2b X114.here hx rfl (hb hby at_41) rfl ?_
    show Steps p.tables e below (T114.setTop (mkF m 42 #[.val (.int p1), .val (.long q2), .second, .val (.int p3), .val (.ref b102), .unset] [(.int ((((q2.toUInt64 >>> (24 : UInt64)).toInt64).toInt32).toInt8.toInt32)), (.int (3 : Int32)), (.ref b102)])) _
    exact k)
  obtain ⟨cl118, Ar118, q118, S118, Ng118, H118, G118⟩ := id V114
  have hin118 := inb_of S118 (j := (3 : Int32)) ⟨by decide, by decide⟩
  obtain ⟨T118, h118, X118, e118, W118, st118⟩ := stB X114 hx hZ e114 Ar118 (j := (3 : Int32)) hin118 (g := (mkF m 42 #[.val (.int p1), .val (.long q2), .second, .val (.int p3), .val (.ref b102), .unset] [(.int ((((q2.toUInt64 >>> (24 : UInt64)).toInt64).toInt32).toInt8.toInt32)), (.int (3 : Int32)), (.ref b102)])) rfl rfl (hb hby at_42)
  have K119 : Keep h0 h118 [] := K115.wr W118 (Or.inr sz_b102)
  have N118 := Fr.snoc X118 N114 ge_b102
  have p120 : Go p.tables e below _ (T118.setTop (mkF m 43 #[.val (.int p1), .val (.long q2), .second, .val (.int p3), .val (.ref b102), .unset] [])) := fun t k => p117 t (st118 t k)
  have V118 : Arv Z h118 b102 k102 .byte (8 : Int32) [(.int (nar .byte ((q2.toInt32).toInt8.toInt32))), (.int (nar .byte ((((q2.toUInt64 >>> (8 : UInt64)).toInt64).toInt32).toInt8.toInt32))), (.int (nar .byte ((((q2.toUInt64 >>> (16 : UInt64)).toInt64).toInt32).toInt8.toInt32))), (.int (nar .byte ((((q2.toUInt64 >>> (24 : UInt64)).toInt64).toInt32).toInt8.toInt32))), (.int (0 : Int32)), (.int (0 : Int32)), (.int (0 : Int32)), (.int (0 : Int32))] (.int (0 : Int32)) := Arv.set Ar118 q118 S118 Ng118 H118 G118 (fits_nar_byte _) W118 3 rfl (Nat.le_of_ble_eq_true rfl)
  have p121 : Go p.tables e below _ (T118.setTop (mkF m 52 #[.val (.int p1), .val (.long q2), .second, .val (.int p3), .val (.ref b102), .unset] [(.int ((((q2.toUInt64 >>> (32 : UInt64)).toInt64).toInt32).toInt8.toInt32)), (.int (4 : Int32)), (.ref b102)])) := fun t k => p120 t (by
    show Steps p.tables e below (T118.setTop (mkF m 43 #[.val (.int p1), .val (.long q2), .second, .val (.int p3), .val (.ref b102), .unset] [])) _
    refine XS.aload X118.here hx rfl (hb hby at_43) rfl rfl ?_
    show Steps p.tables e below (T118.setTop (mkF m 45 #[.val (.int p1), .val (.long q2), .second, .val (.int p3), .val (.ref b102), .unset] [(.ref b102)])) _
    refine XS.iconst X118.here hx rfl (hb hby at_45) ?_
    show Steps p.tables e below (T118.setTop (mkF m 46 #[.val (.int p1), .val (.long q2), .second, .val (.int p3), .val (.ref b102), .unset] [(.int (4 : Int32)), (.ref b102)])) _
    refine XS.lloadN X118.here hx rfl (hb hby at_46) rfl ?_
    show Steps p.tables e below (T118.setTop (mkF m 47 #[.val (.int p1), .val (.long q2), .second, .val (.int p3), .val (.ref b102), .unset] [(.long q2), (.int (4 : Int32)), (.ref b102)])) _
    refine XS.bipush X118.here hx rfl (hb hby at_47) ?_
    show Steps p.tables e below (T118.setTop (mkF m 49 #[.val (.int p1), .val (.long q2), .second, .val (.int p3), .val (.ref b102), .unset] [(.int (32 : Int32)), (.long q2), (.int (4 : Int32)), (.ref b102)])) _
    refine XS.lushr X118.here hx rfl (hb hby at_49) rfl ?_
    show Steps p.tables e below (T118.setTop (mkF m 50 #[.val (.int p1), .val (.long q2), .second, .val (.int p3), .val (.ref b102), .unset] [(.long ((q2.toUInt64 >>> (32 : UInt64)).toInt64)), (.int (4 : Int32)), (.ref b102)])) _
    refine XS.l2i X118.here hx rfl (hb hby at_50) rfl ?_
    show Steps p.tables e below (T118.setTop (mkF m 51 #[.val (.int p1), .val (.long q2), .second, .val (.int p3), .val (.ref b102), .unset] [(.int (((q2.toUInt64 >>> (32 : UInt64)).toInt64).toInt32)), (.int (4 : Int32)), (.ref b102)])) _
    refine XS.i2b X118.here hx rfl (hb hby at_51) rfl ?_
    show Steps p.tables e below (T118.setTop (mkF m 52 #[.val (.int p1), .val (.long q2), .second, .val (.int p3), .val (.ref b102), .unset] [(.int ((((q2.toUInt64 >>> (32 : UInt64)).toInt64).toInt32).toInt8.toInt32)), (.int (4 : Int32)), (.ref b102)])) _
    exact k)
  obtain ⟨cl122, Ar122, q122, S122, Ng122, H122, G122⟩ := id V118
  have hin122 := inb_of S122 (j := (4 : Int32)) ⟨by decide, by decide⟩
  obtain ⟨T122, h122, X122, e122, W122, st122⟩ := stB X118 hx hZ e118 Ar122 (j := (4 : Int32)) hin122 (g := (mkF m 52 #[.val (.int p1), .val (.long q2), .second, .val (.int p3), .val (.ref b102), .unset] [(.int ((((q2.toUInt64 >>> (32 : UInt64)).toInt64).toInt32).toInt8.toInt32)), (.int (4 : Int32)), (.ref b102)])) rfl rfl (hb hby at_52)
  have K123 : Keep h0 h122 [] := K119.wr W122 (Or.inr sz_b102)
  have N122 := Fr.snoc X122 N118 ge_b102
  have p124 : Go p.tables e below _ (T122.setTop (mkF m 53 #[.val (.int p1), .val (.long q2), .second, .val (.int p3), .val (.ref b102), .unset] [])) := fun t k => p121 t (st122 t k)
  have V122 : Arv Z h122 b102 k102 .byte (8 : Int32) [(.int (nar .byte ((q2.toInt32).toInt8.toInt32))), (.int (nar .byte ((((q2.toUInt64 >>> (8 : UInt64)).toInt64).toInt32).toInt8.toInt32))), (.int (nar .byte ((((q2.toUInt64 >>> (16 : UInt64)).toInt64).toInt32).toInt8.toInt32))), (.int (nar .byte ((((q2.toUInt64 >>> (24 : UInt64)).toInt64).toInt32).toInt8.toInt32))), (.int (nar .byte ((((q2.toUInt64 >>> (32 : UInt64)).toInt64).toInt32).toInt8.toInt32))), (.int (0 : Int32)), (.int (0 : Int32)), (.int (0 : Int32))] (.int (0 : Int32)) := Arv.set Ar122 q122 S122 Ng122 H122 G122 (fits_nar_byte _) W122 4 rfl (Nat.le_of_ble_eq_true rfl)
  have p125 : Go p.tables e below _ (T122.setTop (mkF m 62 #[.val (.int p1), .val (.long q2), .second, .val (.int p3), .val (.ref b102), .unset] [(.int ((((q2.toUInt64 >>> (40 : UInt64)).toInt64).toInt32).toInt8.toInt32)), (.int (5 : Int32)), (.ref b102)])) := fun t k => p124 t (by
    show Steps p.tables e below (T122.setTop (mkF m 53 #[.val (.int p1), .val (.long q2), .second, .val (.int p3), .val (.ref b102), .unset] [])) _
    refine XS.aload X122.here hx rfl (hb hby at_53) rfl rfl ?_
    show Steps p.tables e below (T122.setTop (mkF m 55 #[.val (.int p1), .val (.long q2), .second, .val (.int p3), .val (.ref b102), .unset] [(.ref b102)])) _
    refine XS.iconst X122.here hx rfl (hb hby at_55) ?_
    show Steps p.tables e below (T122.setTop (mkF m 56 #[.val (.int p1), .val (.long q2), .second, .val (.int p3), .val (.ref b102), .unset] [(.int (5 : Int32)), (.ref b102)])) _
    refine XS.lloadN X122.here hx rfl (hb hby at_56) rfl ?_
    show Steps p.tables e below (T122.setTop (mkF m 57 #[.val (.int p1), .val (.long q2), .second, .val (.int p3), .val (.ref b102), .unset] [(.long q2), (.int (5 : Int32)), (.ref b102)])) _
    refine XS.bipush X122.here hx rfl (hb hby at_57) ?_
    show Steps p.tables e below (T122.setTop (mkF m 59 #[.val (.int p1), .val (.long q2), .second, .val (.int p3), .val (.ref b102), .unset] [(.int (40 : Int32)), (.long q2), (.int (5 : Int32)), (.ref b102)])) _
    refine XS.lushr X122.here hx rfl (hb hby at_59) rfl ?_
    show Steps p.tables e below (T122.setTop (mkF m 60 #[.val (.int p1), .val (.long q2), .second, .val (.int p3), .val (.ref b102), .unset] [(.long ((q2.toUInt64 >>> (40 : UInt64)).toInt64)), (.int (5 : Int32)), (.ref b102)])) _
    refine XS.l2i X122.here hx rfl (hb hby at_60) rfl ?_
    show Steps p.tables e below (T122.setTop (mkF m 61 #[.val (.int p1), .val (.long q2), .second, .val (.int p3), .val (.ref b102), .unset] [(.int (((q2.toUInt64 >>> (40 : UInt64)).toInt64).toInt32)), (.int (5 : Int32)), (.ref b102)])) _
    refine XS.i2b X122.here hx rfl (hb hby at_61) rfl ?_
    show Steps p.tables e below (T122.setTop (mkF m 62 #[.val (.int p1), .val (.long q2), .second, .val (.int p3), .val (.ref b102), .unset] [(.int ((((q2.toUInt64 >>> (40 : UInt64)).toInt64).toInt32).toInt8.toInt32)), (.int (5 : Int32)), (.ref b102)])) _
    exact k)
  obtain ⟨cl126, Ar126, q126, S126, Ng126, H126, G126⟩ := id V122
  have hin126 := inb_of S126 (j := (5 : Int32)) ⟨by decide, by decide⟩
  obtain ⟨T126, h126, X126, e126, W126, st126⟩ := stB X122 hx hZ e122 Ar126 (j := (5 : Int32)) hin126 (g := (mkF m 62 #[.val (.int p1), .val (.long q2), .second, .val (.int p3), .val (.ref b102), .unset] [(.int ((((q2.toUInt64 >>> (40 : UInt64)).toInt64).toInt32).toInt8.toInt32)), (.int (5 : Int32)), (.ref b102)])) rfl rfl (hb hby at_62)
  have K127 : Keep h0 h126 [] := K123.wr W126 (Or.inr sz_b102)
  have N126 := Fr.snoc X126 N122 ge_b102
  have p128 : Go p.tables e below _ (T126.setTop (mkF m 63 #[.val (.int p1), .val (.long q2), .second, .val (.int p3), .val (.ref b102), .unset] [])) := fun t k => p125 t (st126 t k)
  have V126 : Arv Z h126 b102 k102 .byte (8 : Int32) [(.int (nar .byte ((q2.toInt32).toInt8.toInt32))), (.int (nar .byte ((((q2.toUInt64 >>> (8 : UInt64)).toInt64).toInt32).toInt8.toInt32))), (.int (nar .byte ((((q2.toUInt64 >>> (16 : UInt64)).toInt64).toInt32).toInt8.toInt32))), (.int (nar .byte ((((q2.toUInt64 >>> (24 : UInt64)).toInt64).toInt32).toInt8.toInt32))), (.int (nar .byte ((((q2.toUInt64 >>> (32 : UInt64)).toInt64).toInt32).toInt8.toInt32))), (.int (nar .byte ((((q2.toUInt64 >>> (40 : UInt64)).toInt64).toInt32).toInt8.toInt32))), (.int (0 : Int32)), (.int (0 : Int32))] (.int (0 : Int32)) := Arv.set Ar126 q126 S126 Ng126 H126 G126 (fits_nar_byte _) W126 5 rfl (Nat.le_of_ble_eq_true rfl)
  have p129 : Go p.tables e below _ (T126.setTop (mkF m 73 #[.val (.int p1), .val (.long q2), .second, .val (.int p3), .val (.ref b102), .unset] [(.int ((((q2.toUInt64 >>> (48 : UInt64)).toInt64).toInt32).toInt8.toInt32)), (.int (6 : Int32)), (.ref b102)])) := fun t k => p128 t (by
    show Steps p.tables e below (T126.setTop (mkF m 63 #[.val (.int p1), .val (.long q2), .second, .val (.int p3), .val (.ref b102), .unset] [])) _
    refine XS.aload X126.here hx rfl (hb hby at_63) rfl rfl ?_
    show Steps p.tables e below (T126.setTop (mkF m 65 #[.val (.int p1), .val (.long q2), .second, .val (.int p3), .val (.ref b102), .unset] [(.ref b102)])) _
    refine XS.bipush X126.here hx rfl (hb hby at_65) ?_
    show Steps p.tables e below (T126.setTop (mkF m 67 #[.val (.int p1), .val (.long q2), .second, .val (.int p3), .val (.ref b102), .unset] [(.int (6 : Int32)), (.ref b102)])) _
    refine XS.lloadN X126.here hx rfl (hb hby at_67) rfl ?_
    show Steps p.tables e below (T126.setTop (mkF m 68 #[.val (.int p1), .val (.long q2), .second, .val (.int p3), .val (.ref b102), .unset] [(.long q2), (.int (6 : Int32)), (.ref b102)])) _
    refine XS.bipush X126.here hx rfl (hb hby at_68) ?_
    show Steps p.tables e below (T126.setTop (mkF m 70 #[.val (.int p1), .val (.long q2), .second, .val (.int p3), .val (.ref b102), .unset] [(.int (48 : Int32)), (.long q2), (.int (6 : Int32)), (.ref b102)])) _
    refine XS.lushr X126.here hx rfl (hb hby at_70) rfl ?_
    show Steps p.tables e below (T126.setTop (mkF m 71 #[.val (.int p1), .val (.long q2), .second, .val (.int p3), .val (.ref b102), .unset] [(.long ((q2.toUInt64 >>> (48 : UInt64)).toInt64)), (.int (6 : Int32)), (.ref b102)])) _
    refine XS.l2i X126.here hx rfl (hb hby at_71) rfl ?_
    show Steps p.tables e below (T126.setTop (mkF m 72 #[.val (.int p1), .val (.long q2), .second, .val (.int p3), .val (.ref b102), .unset] [(.int (((q2.toUInt64 >>> (48 : UInt64)).toInt64).toInt32)), (.int (6 : Int32)), (.ref b102)])) _
    refine XS.i2b X126.here hx rfl (hb hby at_72) rfl ?_
    show Steps p.tables e below (T126.setTop (mkF m 73 #[.val (.int p1), .val (.long q2), .second, .val (.int p3), .val (.ref b102), .unset] [(.int ((((q2.toUInt64 >>> (48 : UInt64)).toInt64).toInt32).toInt8.toInt32)), (.int (6 : Int32)), (.ref b102)])) _
    exact k)
  obtain ⟨cl130, Ar130, q130, S130, Ng130, H130, G130⟩ := id V126
  have hin130 := inb_of S130 (j := (6 : Int32)) ⟨by decide, by decide⟩
  obtain ⟨T130, h130, X130, e130, W130, st130⟩ := stB X126 hx hZ e126 Ar130 (j := (6 : Int32)) hin130 (g := (mkF m 73 #[.val (.int p1), .val (.long q2), .second, .val (.int p3), .val (.ref b102), .unset] [(.int ((((q2.toUInt64 >>> (48 : UInt64)).toInt64).toInt32).toInt8.toInt32)), (.int (6 : Int32)), (.ref b102)])) rfl rfl (hb hby at_73)
  have K131 : Keep h0 h130 [] := K127.wr W130 (Or.inr sz_b102)
  have N130 := Fr.snoc X130 N126 ge_b102
  have p132 : Go p.tables e below _ (T130.setTop (mkF m 74 #[.val (.int p1), .val (.long q2), .second, .val (.int p3), .val (.ref b102), .unset] [])) := fun t k => p129 t (st130 t k)
  have V130 : Arv Z h130 b102 k102 .byte (8 : Int32) [(.int (nar .byte ((q2.toInt32).toInt8.toInt32))), (.int (nar .byte ((((q2.toUInt64 >>> (8 : UInt64)).toInt64).toInt32).toInt8.toInt32))), (.int (nar .byte ((((q2.toUInt64 >>> (16 : UInt64)).toInt64).toInt32).toInt8.toInt32))), (.int (nar .byte ((((q2.toUInt64 >>> (24 : UInt64)).toInt64).toInt32).toInt8.toInt32))), (.int (nar .byte ((((q2.toUInt64 >>> (32 : UInt64)).toInt64).toInt32).toInt8.toInt32))), (.int (nar .byte ((((q2.toUInt64 >>> (40 : UInt64)).toInt64).toInt32).toInt8.toInt32))), (.int (nar .byte ((((q2.toUInt64 >>> (48 : UInt64)).toInt64).toInt32).toInt8.toInt32))), (.int (0 : Int32))] (.int (0 : Int32)) := Arv.set Ar130 q130 S130 Ng130 H130 G130 (fits_nar_byte _) W130 6 rfl (Nat.le_of_ble_eq_true rfl)
  have p133 : Go p.tables e below _ (T130.setTop (mkF m 84 #[.val (.int p1), .val (.long q2), .second, .val (.int p3), .val (.ref b102), .unset] [(.int ((((q2.toUInt64 >>> (56 : UInt64)).toInt64).toInt32).toInt8.toInt32)), (.int (7 : Int32)), (.ref b102)])) := fun t k => p132 t (by
    show Steps p.tables e below (T130.setTop (mkF m 74 #[.val (.int p1), .val (.long q2), .second, .val (.int p3), .val (.ref b102), .unset] [])) _
    refine XS.aload X130.here hx rfl (hb hby at_74) rfl rfl ?_
    show Steps p.tables e below (T130.setTop (mkF m 76 #[.val (.int p1), .val (.long q2), .second, .val (.int p3), .val (.ref b102), .unset] [(.ref b102)])) _
    refine XS.bipush X130.here hx rfl (hb hby at_76) ?_
    show Steps p.tables e below (T130.setTop (mkF m 78 #[.val (.int p1), .val (.long q2), .second, .val (.int p3), .val (.ref b102), .unset] [(.int (7 : Int32)), (.ref b102)])) _
    refine XS.lloadN X130.here hx rfl (hb hby at_78) rfl ?_
    show Steps p.tables e below (T130.setTop (mkF m 79 #[.val (.int p1), .val (.long q2), .second, .val (.int p3), .val (.ref b102), .unset] [(.long q2), (.int (7 : Int32)), (.ref b102)])) _
    refine XS.bipush X130.here hx rfl (hb hby at_79) ?_
    show Steps p.tables e below (T130.setTop (mkF m 81 #[.val (.int p1), .val (.long q2), .second, .val (.int p3), .val (.ref b102), .unset] [(.int (56 : Int32)), (.long q2), (.int (7 : Int32)), (.ref b102)])) _
    refine XS.lushr X130.here hx rfl (hb hby at_81) rfl ?_
    show Steps p.tables e below (T130.setTop (mkF m 82 #[.val (.int p1), .val (.long q2), .second, .val (.int p3), .val (.ref b102), .unset] [(.long ((q2.toUInt64 >>> (56 : UInt64)).toInt64)), (.int (7 : Int32)), (.ref b102)])) _
    refine XS.l2i X130.here hx rfl (hb hby at_82) rfl ?_
    show Steps p.tables e below (T130.setTop (mkF m 83 #[.val (.int p1), .val (.long q2), .second, .val (.int p3), .val (.ref b102), .unset] [(.int (((q2.toUInt64 >>> (56 : UInt64)).toInt64).toInt32)), (.int (7 : Int32)), (.ref b102)])) _
    refine XS.i2b X130.here hx rfl (hb hby at_83) rfl ?_
    show Steps p.tables e below (T130.setTop (mkF m 84 #[.val (.int p1), .val (.long q2), .second, .val (.int p3), .val (.ref b102), .unset] [(.int ((((q2.toUInt64 >>> (56 : UInt64)).toInt64).toInt32).toInt8.toInt32)), (.int (7 : Int32)), (.ref b102)])) _
    exact k)
  obtain ⟨cl134, Ar134, q134, S134, Ng134, H134, G134⟩ := id V130
  have hin134 := inb_of S134 (j := (7 : Int32)) ⟨by decide, by decide⟩
  obtain ⟨T134, h134, X134, e134, W134, st134⟩ := stB X130 hx hZ e130 Ar134 (j := (7 : Int32)) hin134 (g := (mkF m 84 #[.val (.int p1), .val (.long q2), .second, .val (.int p3), .val (.ref b102), .unset] [(.int ((((q2.toUInt64 >>> (56 : UInt64)).toInt64).toInt32).toInt8.toInt32)), (.int (7 : Int32)), (.ref b102)])) rfl rfl (hb hby at_84)
  have K135 : Keep h0 h134 [] := K131.wr W134 (Or.inr sz_b102)
  have N134 := Fr.snoc X134 N130 ge_b102
  have p136 : Go p.tables e below _ (T134.setTop (mkF m 85 #[.val (.int p1), .val (.long q2), .second, .val (.int p3), .val (.ref b102), .unset] [])) := fun t k => p133 t (st134 t k)
  have V134 : Arv Z h134 b102 k102 .byte (8 : Int32) [(.int (nar .byte ((q2.toInt32).toInt8.toInt32))), (.int (nar .byte ((((q2.toUInt64 >>> (8 : UInt64)).toInt64).toInt32).toInt8.toInt32))), (.int (nar .byte ((((q2.toUInt64 >>> (16 : UInt64)).toInt64).toInt32).toInt8.toInt32))), (.int (nar .byte ((((q2.toUInt64 >>> (24 : UInt64)).toInt64).toInt32).toInt8.toInt32))), (.int (nar .byte ((((q2.toUInt64 >>> (32 : UInt64)).toInt64).toInt32).toInt8.toInt32))), (.int (nar .byte ((((q2.toUInt64 >>> (40 : UInt64)).toInt64).toInt32).toInt8.toInt32))), (.int (nar .byte ((((q2.toUInt64 >>> (48 : UInt64)).toInt64).toInt32).toInt8.toInt32))), (.int (nar .byte ((((q2.toUInt64 >>> (56 : UInt64)).toInt64).toInt32).toInt8.toInt32)))] (.int (0 : Int32)) := Arv.set Ar134 q134 S134 Ng134 H134 G134 (fits_nar_byte _) W134 7 rfl (Nat.le_of_ble_eq_true rfl)
  have p137 : Go p.tables e below _ (T134.setTop (mkF m 93 #[.val (.int p1), .val (.long q2), .second, .val (.int p3), .val (.ref b102), .val (.int ((p3 &&& (2147483647 : Int32)) % (5 : Int32)))] [])) := fun t k => p136 t (by
    show Steps p.tables e below (T134.setTop (mkF m 85 #[.val (.int p1), .val (.long q2), .second, .val (.int p3), .val (.ref b102), .unset] [])) _
    refine XS.iloadN X134.here hx rfl (hb hby at_85) rfl ?_
    show Steps p.tables e below (T134.setTop (mkF m 86 #[.val (.int p1), .val (.long q2), .second, .val (.int p3), .val (.ref b102), .unset] [(.int p3)])) _
    refine X134.ldcInt hx hown (mvT hZ (own_w hw 1 rfl)) (g := (mkF m 86 #[.val (.int p1), .val (.long q2), .second, .val (.int p3), .val (.ref b102), .unset] [(.int p3)])) rfl (hb hby at_86) _ ?_
    show Steps p.tables e below (T134.setTop (mkF m 88 #[.val (.int p1), .val (.long q2), .second, .val (.int p3), .val (.ref b102), .unset] [(.int (2147483647 : Int32)), (.int p3)])) _
    refine XS.iand X134.here hx rfl (hb hby at_88) rfl ?_
    show Steps p.tables e below (T134.setTop (mkF m 89 #[.val (.int p1), .val (.long q2), .second, .val (.int p3), .val (.ref b102), .unset] [(.int (p3 &&& (2147483647 : Int32)))])) _
    refine XS.iconst X134.here hx rfl (hb hby at_89) ?_
    show Steps p.tables e below (T134.setTop (mkF m 90 #[.val (.int p1), .val (.long q2), .second, .val (.int p3), .val (.ref b102), .unset] [(.int (5 : Int32)), (.int (p3 &&& (2147483647 : Int32)))])) _
    refine Jvm.RoadKit.iremM X134 hx rfl (hb hby at_90) rfl (by decide) ?_
    show Steps p.tables e below (T134.setTop (mkF m 91 #[.val (.int p1), .val (.long q2), .second, .val (.int p3), .val (.ref b102), .unset] [(.int ((p3 &&& (2147483647 : Int32)) % (5 : Int32)))])) _
    refine XS.istore X134.here hx rfl (hb hby at_91) rfl (l' := #[.val (.int p1), .val (.long q2), .second, .val (.int p3), .val (.ref b102), .val (.int ((p3 &&& (2147483647 : Int32)) % (5 : Int32)))]) rfl ?_
    show Steps p.tables e below (T134.setTop (mkF m 93 #[.val (.int p1), .val (.long q2), .second, .val (.int p3), .val (.ref b102), .val (.int ((p3 &&& (2147483647 : Int32)) % (5 : Int32)))] [])) _
    exact k)
  obtain ⟨o, ho⟩ : ∃ z, z = ((p3 &&& (2147483647 : Int32)) % (5 : Int32)) := ⟨_, rfl⟩
  have p138 : Go p.tables e below (s₁.setTop (entryFrame m #[(.int p1), (.long q2), (.int p3)] maxLocals)) (T134.setTop (mkF m 93 #[.val (.int p1), .val (.long q2), .second, .val (.int p3), .val (.ref b102), .val (.int o)] [])) := by rw [ho]; exact p137
  rcases (ho ▸ own_rem5 p3 : o = 0 ∨ o = 1 ∨ o = 2 ∨ o = 3 ∨ o = 4) with ro | ro | ro | ro | ro
  · have p139 : Go p.tables e below (s₁.setTop (entryFrame m #[(.int p1), (.long q2), (.int p3)] maxLocals)) (T134.setTop (mkF m 93 #[.val (.int p1), .val (.long q2), .second, .val (.int p3), .val (.ref b102), .val (.int (0 : Int32))] [])) := by rw [← ro]; exact p138
    have p140 : Go p.tables e below _ (T134.setTop (mkF m 99 #[.val (.int p1), .val (.long q2), .second, .val (.int p3), .val (.ref b102), .val (.int (0 : Int32))] [(.int (p1.toInt8.toInt32)), (.int (0 : Int32)), (.ref b102)])) := fun t k => p139 t (by
      show Steps p.tables e below (T134.setTop (mkF m 93 #[.val (.int p1), .val (.long q2), .second, .val (.int p3), .val (.ref b102), .val (.int (0 : Int32))] [])) _
      refine XS.aload X134.here hx rfl (hb hby at_93) rfl rfl ?_
      show Steps p.tables e below (T134.setTop (mkF m 95 #[.val (.int p1), .val (.long q2), .second, .val (.int p3), .val (.ref b102), .val (.int (0 : Int32))] [(.ref b102)])) _
      refine XS.iload X134.here hx rfl (hb hby at_95) rfl ?_
      show Steps p.tables e below (T134.setTop (mkF m 97 #[.val (.int p1), .val (.long q2), .second, .val (.int p3), .val (.ref b102), .val (.int (0 : Int32))] [(.int (0 : Int32)), (.ref b102)])) _
      refine XS.iloadN X134.here hx rfl (hb hby at_97) rfl ?_
      show Steps p.tables e below (T134.setTop (mkF m 98 #[.val (.int p1), .val (.long q2), .second, .val (.int p3), .val (.ref b102), .val (.int (0 : Int32))] [(.int p1), (.int (0 : Int32)), (.ref b102)])) _
      refine XS.i2b X134.here hx rfl (hb hby at_98) rfl ?_
      show Steps p.tables e below (T134.setTop (mkF m 99 #[.val (.int p1), .val (.long q2), .second, .val (.int p3), .val (.ref b102), .val (.int (0 : Int32))] [(.int (p1.toInt8.toInt32)), (.int (0 : Int32)), (.ref b102)])) _
      exact k)
    obtain ⟨cl141, Ar141, q141, S141, Ng141, H141, G141⟩ := id V134
    have hin141 := inb_of S141 (j := (0 : Int32)) ⟨by decide, by decide⟩
    obtain ⟨T141, h141, X141, e141, W141, st141⟩ := stB X134 hx hZ e134 Ar141 (j := (0 : Int32)) hin141 (g := (mkF m 99 #[.val (.int p1), .val (.long q2), .second, .val (.int p3), .val (.ref b102), .val (.int (0 : Int32))] [(.int (p1.toInt8.toInt32)), (.int (0 : Int32)), (.ref b102)])) rfl rfl (hb hby at_99)
    have K142 : Keep h0 h141 [] := K135.wr W141 (Or.inr sz_b102)
    have N141 := Fr.snoc X141 N134 ge_b102
    have p143 : Go p.tables e below _ (T141.setTop (mkF m 100 #[.val (.int p1), .val (.long q2), .second, .val (.int p3), .val (.ref b102), .val (.int (0 : Int32))] [])) := fun t k => p140 t (st141 t k)
    have V141 : Arv Z h141 b102 k102 .byte (8 : Int32) [(.int (nar .byte (p1.toInt8.toInt32))), (.int (nar .byte ((((q2.toUInt64 >>> (8 : UInt64)).toInt64).toInt32).toInt8.toInt32))), (.int (nar .byte ((((q2.toUInt64 >>> (16 : UInt64)).toInt64).toInt32).toInt8.toInt32))), (.int (nar .byte ((((q2.toUInt64 >>> (24 : UInt64)).toInt64).toInt32).toInt8.toInt32))), (.int (nar .byte ((((q2.toUInt64 >>> (32 : UInt64)).toInt64).toInt32).toInt8.toInt32))), (.int (nar .byte ((((q2.toUInt64 >>> (40 : UInt64)).toInt64).toInt32).toInt8.toInt32))), (.int (nar .byte ((((q2.toUInt64 >>> (48 : UInt64)).toInt64).toInt32).toInt8.toInt32))), (.int (nar .byte ((((q2.toUInt64 >>> (56 : UInt64)).toInt64).toInt32).toInt8.toInt32)))] (.int (0 : Int32)) := Arv.set Ar141 q141 S141 Ng141 H141 G141 (fits_nar_byte _) W141 0 rfl (Nat.le_of_ble_eq_true rfl)
    have p144 : Go p.tables e below _ (T141.setTop (mkF m 111 #[.val (.int p1), .val (.long q2), .second, .val (.int p3), .val (.ref b102), .val (.int (0 : Int32))] [(.int (((p1.toUInt32 >>> (8 : UInt32)).toInt32).toInt8.toInt32)), (.int (1 : Int32)), (.ref b102)])) := fun t k => p143 t (by
      show Steps p.tables e below (T141.setTop (mkF m 100 #[.val (.int p1), .val (.long q2), .second, .val (.int p3), .val (.ref b102), .val (.int (0 : Int32))] [])) _
      refine XS.aload X141.here hx rfl (hb hby at_100) rfl rfl ?_
      show Steps p.tables e below (T141.setTop (mkF m 102 #[.val (.int p1), .val (.long q2), .second, .val (.int p3), .val (.ref b102), .val (.int (0 : Int32))] [(.ref b102)])) _
      refine XS.iload X141.here hx rfl (hb hby at_102) rfl ?_
      show Steps p.tables e below (T141.setTop (mkF m 104 #[.val (.int p1), .val (.long q2), .second, .val (.int p3), .val (.ref b102), .val (.int (0 : Int32))] [(.int (0 : Int32)), (.ref b102)])) _
      refine XS.iconst X141.here hx rfl (hb hby at_104) ?_
      show Steps p.tables e below (T141.setTop (mkF m 105 #[.val (.int p1), .val (.long q2), .second, .val (.int p3), .val (.ref b102), .val (.int (0 : Int32))] [(.int (1 : Int32)), (.int (0 : Int32)), (.ref b102)])) _
      refine XS.iadd X141.here hx rfl (hb hby at_105) rfl ?_
      show Steps p.tables e below (T141.setTop (mkF m 106 #[.val (.int p1), .val (.long q2), .second, .val (.int p3), .val (.ref b102), .val (.int (0 : Int32))] [(.int (1 : Int32)), (.ref b102)])) _
      refine XS.iloadN X141.here hx rfl (hb hby at_106) rfl ?_
      show Steps p.tables e below (T141.setTop (mkF m 107 #[.val (.int p1), .val (.long q2), .second, .val (.int p3), .val (.ref b102), .val (.int (0 : Int32))] [(.int p1), (.int (1 : Int32)), (.ref b102)])) _
      refine XS.bipush X141.here hx rfl (hb hby at_107) ?_
      show Steps p.tables e below (T141.setTop (mkF m 109 #[.val (.int p1), .val (.long q2), .second, .val (.int p3), .val (.ref b102), .val (.int (0 : Int32))] [(.int (8 : Int32)), (.int p1), (.int (1 : Int32)), (.ref b102)])) _
      refine XS.iushr X141.here hx rfl (hb hby at_109) rfl ?_
      show Steps p.tables e below (T141.setTop (mkF m 110 #[.val (.int p1), .val (.long q2), .second, .val (.int p3), .val (.ref b102), .val (.int (0 : Int32))] [(.int ((p1.toUInt32 >>> (8 : UInt32)).toInt32)), (.int (1 : Int32)), (.ref b102)])) _
      refine XS.i2b X141.here hx rfl (hb hby at_110) rfl ?_
      show Steps p.tables e below (T141.setTop (mkF m 111 #[.val (.int p1), .val (.long q2), .second, .val (.int p3), .val (.ref b102), .val (.int (0 : Int32))] [(.int (((p1.toUInt32 >>> (8 : UInt32)).toInt32).toInt8.toInt32)), (.int (1 : Int32)), (.ref b102)])) _
      exact k)
    obtain ⟨cl145, Ar145, q145, S145, Ng145, H145, G145⟩ := id V141
    have hin145 := inb_of S145 (j := (1 : Int32)) ⟨by decide, by decide⟩
    obtain ⟨T145, h145, X145, e145, W145, st145⟩ := stB X141 hx hZ e141 Ar145 (j := (1 : Int32)) hin145 (g := (mkF m 111 #[.val (.int p1), .val (.long q2), .second, .val (.int p3), .val (.ref b102), .val (.int (0 : Int32))] [(.int (((p1.toUInt32 >>> (8 : UInt32)).toInt32).toInt8.toInt32)), (.int (1 : Int32)), (.ref b102)])) rfl rfl (hb hby at_111)
    have K146 : Keep h0 h145 [] := K142.wr W145 (Or.inr sz_b102)
    have N145 := Fr.snoc X145 N141 ge_b102
    have p147 : Go p.tables e below _ (T145.setTop (mkF m 112 #[.val (.int p1), .val (.long q2), .second, .val (.int p3), .val (.ref b102), .val (.int (0 : Int32))] [])) := fun t k => p144 t (st145 t k)
    have V145 : Arv Z h145 b102 k102 .byte (8 : Int32) [(.int (nar .byte (p1.toInt8.toInt32))), (.int (nar .byte (((p1.toUInt32 >>> (8 : UInt32)).toInt32).toInt8.toInt32))), (.int (nar .byte ((((q2.toUInt64 >>> (16 : UInt64)).toInt64).toInt32).toInt8.toInt32))), (.int (nar .byte ((((q2.toUInt64 >>> (24 : UInt64)).toInt64).toInt32).toInt8.toInt32))), (.int (nar .byte ((((q2.toUInt64 >>> (32 : UInt64)).toInt64).toInt32).toInt8.toInt32))), (.int (nar .byte ((((q2.toUInt64 >>> (40 : UInt64)).toInt64).toInt32).toInt8.toInt32))), (.int (nar .byte ((((q2.toUInt64 >>> (48 : UInt64)).toInt64).toInt32).toInt8.toInt32))), (.int (nar .byte ((((q2.toUInt64 >>> (56 : UInt64)).toInt64).toInt32).toInt8.toInt32)))] (.int (0 : Int32)) := Arv.set Ar145 q145 S145 Ng145 H145 G145 (fits_nar_byte _) W145 1 rfl (Nat.le_of_ble_eq_true rfl)
    have p148 : Go p.tables e below _ (T145.setTop (mkF m 123 #[.val (.int p1), .val (.long q2), .second, .val (.int p3), .val (.ref b102), .val (.int (0 : Int32))] [(.int (((p1.toUInt32 >>> (16 : UInt32)).toInt32).toInt8.toInt32)), (.int (2 : Int32)), (.ref b102)])) := fun t k => p147 t (by
      show Steps p.tables e below (T145.setTop (mkF m 112 #[.val (.int p1), .val (.long q2), .second, .val (.int p3), .val (.ref b102), .val (.int (0 : Int32))] [])) _
      refine XS.aload X145.here hx rfl (hb hby at_112) rfl rfl ?_
      show Steps p.tables e below (T145.setTop (mkF m 114 #[.val (.int p1), .val (.long q2), .second, .val (.int p3), .val (.ref b102), .val (.int (0 : Int32))] [(.ref b102)])) _
      refine XS.iload X145.here hx rfl (hb hby at_114) rfl ?_
      show Steps p.tables e below (T145.setTop (mkF m 116 #[.val (.int p1), .val (.long q2), .second, .val (.int p3), .val (.ref b102), .val (.int (0 : Int32))] [(.int (0 : Int32)), (.ref b102)])) _
      refine XS.iconst X145.here hx rfl (hb hby at_116) ?_
      show Steps p.tables e below (T145.setTop (mkF m 117 #[.val (.int p1), .val (.long q2), .second, .val (.int p3), .val (.ref b102), .val (.int (0 : Int32))] [(.int (2 : Int32)), (.int (0 : Int32)), (.ref b102)])) _
      refine XS.iadd X145.here hx rfl (hb hby at_117) rfl ?_
      show Steps p.tables e below (T145.setTop (mkF m 118 #[.val (.int p1), .val (.long q2), .second, .val (.int p3), .val (.ref b102), .val (.int (0 : Int32))] [(.int (2 : Int32)), (.ref b102)])) _
      refine XS.iloadN X145.here hx rfl (hb hby at_118) rfl ?_
      show Steps p.tables e below (T145.setTop (mkF m 119 #[.val (.int p1), .val (.long q2), .second, .val (.int p3), .val (.ref b102), .val (.int (0 : Int32))] [(.int p1), (.int (2 : Int32)), (.ref b102)])) _
      refine XS.bipush X145.here hx rfl (hb hby at_119) ?_
      show Steps p.tables e below (T145.setTop (mkF m 121 #[.val (.int p1), .val (.long q2), .second, .val (.int p3), .val (.ref b102), .val (.int (0 : Int32))] [(.int (16 : Int32)), (.int p1), (.int (2 : Int32)), (.ref b102)])) _
      refine XS.iushr X145.here hx rfl (hb hby at_121) rfl ?_
      show Steps p.tables e below (T145.setTop (mkF m 122 #[.val (.int p1), .val (.long q2), .second, .val (.int p3), .val (.ref b102), .val (.int (0 : Int32))] [(.int ((p1.toUInt32 >>> (16 : UInt32)).toInt32)), (.int (2 : Int32)), (.ref b102)])) _
      refine XS.i2b X145.here hx rfl (hb hby at_122) rfl ?_
      show Steps p.tables e below (T145.setTop (mkF m 123 #[.val (.int p1), .val (.long q2), .second, .val (.int p3), .val (.ref b102), .val (.int (0 : Int32))] [(.int (((p1.toUInt32 >>> (16 : UInt32)).toInt32).toInt8.toInt32)), (.int (2 : Int32)), (.ref b102)])) _
      exact k)
    obtain ⟨cl149, Ar149, q149, S149, Ng149, H149, G149⟩ := id V145
    have hin149 := inb_of S149 (j := (2 : Int32)) ⟨by decide, by decide⟩
    obtain ⟨T149, h149, X149, e149, W149, st149⟩ := stB X145 hx hZ e145 Ar149 (j := (2 : Int32)) hin149 (g := (mkF m 123 #[.val (.int p1), .val (.long q2), .second, .val (.int p3), .val (.ref b102), .val (.int (0 : Int32))] [(.int (((p1.toUInt32 >>> (16 : UInt32)).toInt32).toInt8.toInt32)), (.int (2 : Int32)), (.ref b102)])) rfl rfl (hb hby at_123)
    have K150 : Keep h0 h149 [] := K146.wr W149 (Or.inr sz_b102)
    have N149 := Fr.snoc X149 N145 ge_b102
    have p151 : Go p.tables e below _ (T149.setTop (mkF m 124 #[.val (.int p1), .val (.long q2), .second, .val (.int p3), .val (.ref b102), .val (.int (0 : Int32))] [])) := fun t k => p148 t (st149 t k)
    have V149 : Arv Z h149 b102 k102 .byte (8 : Int32) [(.int (nar .byte (p1.toInt8.toInt32))), (.int (nar .byte (((p1.toUInt32 >>> (8 : UInt32)).toInt32).toInt8.toInt32))), (.int (nar .byte (((p1.toUInt32 >>> (16 : UInt32)).toInt32).toInt8.toInt32))), (.int (nar .byte ((((q2.toUInt64 >>> (24 : UInt64)).toInt64).toInt32).toInt8.toInt32))), (.int (nar .byte ((((q2.toUInt64 >>> (32 : UInt64)).toInt64).toInt32).toInt8.toInt32))), (.int (nar .byte ((((q2.toUInt64 >>> (40 : UInt64)).toInt64).toInt32).toInt8.toInt32))), (.int (nar .byte ((((q2.toUInt64 >>> (48 : UInt64)).toInt64).toInt32).toInt8.toInt32))), (.int (nar .byte ((((q2.toUInt64 >>> (56 : UInt64)).toInt64).toInt32).toInt8.toInt32)))] (.int (0 : Int32)) := Arv.set Ar149 q149 S149 Ng149 H149 G149 (fits_nar_byte _) W149 2 rfl (Nat.le_of_ble_eq_true rfl)
    have p152 : Go p.tables e below _ (T149.setTop (mkF m 135 #[.val (.int p1), .val (.long q2), .second, .val (.int p3), .val (.ref b102), .val (.int (0 : Int32))] [(.int (((p1.toUInt32 >>> (24 : UInt32)).toInt32).toInt8.toInt32)), (.int (3 : Int32)), (.ref b102)])) := fun t k => p151 t (by
      show Steps p.tables e below (T149.setTop (mkF m 124 #[.val (.int p1), .val (.long q2), .second, .val (.int p3), .val (.ref b102), .val (.int (0 : Int32))] [])) _
      refine XS.aload X149.here hx rfl (hb hby at_124) rfl rfl ?_
      show Steps p.tables e below (T149.setTop (mkF m 126 #[.val (.int p1), .val (.long q2), .second, .val (.int p3), .val (.ref b102), .val (.int (0 : Int32))] [(.ref b102)])) _
      refine XS.iload X149.here hx rfl (hb hby at_126) rfl ?_
      show Steps p.tables e below (T149.setTop (mkF m 128 #[.val (.int p1), .val (.long q2), .second, .val (.int p3), .val (.ref b102), .val (.int (0 : Int32))] [(.int (0 : Int32)), (.ref b102)])) _
      refine XS.iconst X149.here hx rfl (hb hby at_128) ?_
      show Steps p.tables e below (T149.setTop (mkF m 129 #[.val (.int p1), .val (.long q2), .second, .val (.int p3), .val (.ref b102), .val (.int (0 : Int32))] [(.int (3 : Int32)), (.int (0 : Int32)), (.ref b102)])) _
      refine XS.iadd X149.here hx rfl (hb hby at_129) rfl ?_
      show Steps p.tables e below (T149.setTop (mkF m 130 #[.val (.int p1), .val (.long q2), .second, .val (.int p3), .val (.ref b102), .val (.int (0 : Int32))] [(.int (3 : Int32)), (.ref b102)])) _
      refine XS.iloadN X149.here hx rfl (hb hby at_130) rfl ?_
      show Steps p.tables e below (T149.setTop (mkF m 131 #[.val (.int p1), .val (.long q2), .second, .val (.int p3), .val (.ref b102), .val (.int (0 : Int32))] [(.int p1), (.int (3 : Int32)), (.ref b102)])) _
      refine XS.bipush X149.here hx rfl (hb hby at_131) ?_
      show Steps p.tables e below (T149.setTop (mkF m 133 #[.val (.int p1), .val (.long q2), .second, .val (.int p3), .val (.ref b102), .val (.int (0 : Int32))] [(.int (24 : Int32)), (.int p1), (.int (3 : Int32)), (.ref b102)])) _
      refine XS.iushr X149.here hx rfl (hb hby at_133) rfl ?_
      show Steps p.tables e below (T149.setTop (mkF m 134 #[.val (.int p1), .val (.long q2), .second, .val (.int p3), .val (.ref b102), .val (.int (0 : Int32))] [(.int ((p1.toUInt32 >>> (24 : UInt32)).toInt32)), (.int (3 : Int32)), (.ref b102)])) _
      refine XS.i2b X149.here hx rfl (hb hby at_134) rfl ?_
      show Steps p.tables e below (T149.setTop (mkF m 135 #[.val (.int p1), .val (.long q2), .second, .val (.int p3), .val (.ref b102), .val (.int (0 : Int32))] [(.int (((p1.toUInt32 >>> (24 : UInt32)).toInt32).toInt8.toInt32)), (.int (3 : Int32)), (.ref b102)])) _
      exact k)
    obtain ⟨cl153, Ar153, q153, S153, Ng153, H153, G153⟩ := id V149
    have hin153 := inb_of S153 (j := (3 : Int32)) ⟨by decide, by decide⟩
    obtain ⟨T153, h153, X153, e153, W153, st153⟩ := stB X149 hx hZ e149 Ar153 (j := (3 : Int32)) hin153 (g := (mkF m 135 #[.val (.int p1), .val (.long q2), .second, .val (.int p3), .val (.ref b102), .val (.int (0 : Int32))] [(.int (((p1.toUInt32 >>> (24 : UInt32)).toInt32).toInt8.toInt32)), (.int (3 : Int32)), (.ref b102)])) rfl rfl (hb hby at_135)
    have K154 : Keep h0 h153 [] := K150.wr W153 (Or.inr sz_b102)
    have N153 := Fr.snoc X153 N149 ge_b102
    have p155 : Go p.tables e below _ (T153.setTop (mkF m 136 #[.val (.int p1), .val (.long q2), .second, .val (.int p3), .val (.ref b102), .val (.int (0 : Int32))] [])) := fun t k => p152 t (st153 t k)
    have V153 : Arv Z h153 b102 k102 .byte (8 : Int32) [(.int (nar .byte (p1.toInt8.toInt32))), (.int (nar .byte (((p1.toUInt32 >>> (8 : UInt32)).toInt32).toInt8.toInt32))), (.int (nar .byte (((p1.toUInt32 >>> (16 : UInt32)).toInt32).toInt8.toInt32))), (.int (nar .byte (((p1.toUInt32 >>> (24 : UInt32)).toInt32).toInt8.toInt32))), (.int (nar .byte ((((q2.toUInt64 >>> (32 : UInt64)).toInt64).toInt32).toInt8.toInt32))), (.int (nar .byte ((((q2.toUInt64 >>> (40 : UInt64)).toInt64).toInt32).toInt8.toInt32))), (.int (nar .byte ((((q2.toUInt64 >>> (48 : UInt64)).toInt64).toInt32).toInt8.toInt32))), (.int (nar .byte ((((q2.toUInt64 >>> (56 : UInt64)).toInt64).toInt32).toInt8.toInt32)))] (.int (0 : Int32)) := Arv.set Ar153 q153 S153 Ng153 H153 G153 (fits_nar_byte _) W153 3 rfl (Nat.le_of_ble_eq_true rfl)
    have p156 : Go p.tables e below _ (T153.setTop (mkF m 140 #[.val (.int p1), .val (.long q2), .second, .val (.int p3), .val (.ref b102), .val (.int (0 : Int32))] [(.int (0 : Int32)), (.ref b102)])) := fun t k => p155 t (by
      show Steps p.tables e below (T153.setTop (mkF m 136 #[.val (.int p1), .val (.long q2), .second, .val (.int p3), .val (.ref b102), .val (.int (0 : Int32))] [])) _
      refine XS.aload X153.here hx rfl (hb hby at_136) rfl rfl ?_
      show Steps p.tables e below (T153.setTop (mkF m 138 #[.val (.int p1), .val (.long q2), .second, .val (.int p3), .val (.ref b102), .val (.int (0 : Int32))] [(.ref b102)])) _
      refine XS.iload X153.here hx rfl (hb hby at_138) rfl ?_
      show Steps p.tables e below (T153.setTop (mkF m 140 #[.val (.int p1), .val (.long q2), .second, .val (.int p3), .val (.ref b102), .val (.int (0 : Int32))] [(.int (0 : Int32)), (.ref b102)])) _
      exact k)
    obtain ⟨_, _, ⟨T157, L157, k157, n157⟩, -, X157, ⟨Lc157, hQ157, l157, y157, z157⟩, st157⟩ := Jvm.LawKit.callS X153 hx (y := (⟨"com/example/boot_sealer/bootsealer/rp2350/Block", "word", "([BI)I"⟩ : MethodName)) hown (mvT hZ (own_w hw 2 rfl)) (mvT hZ (own_w hw 3 rfl)) (mvT hZ (own_w hw 4 rfl)) (mvT hZ (own_w hw 5 rfl)) (by decide) (backOf (W := 0) (rm1 l Z a0 hw [] b102 (0 : Int32) k102 [(.int (nar .byte (p1.toInt8.toInt32))), (.int (nar .byte (((p1.toUInt32 >>> (8 : UInt32)).toInt32).toInt8.toInt32))), (.int (nar .byte (((p1.toUInt32 >>> (16 : UInt32)).toInt32).toInt8.toInt32))), (.int (nar .byte (((p1.toUInt32 >>> (24 : UInt32)).toInt32).toInt8.toInt32))), (.int (nar .byte ((((q2.toUInt64 >>> (32 : UInt64)).toInt64).toInt32).toInt8.toInt32))), (.int (nar .byte ((((q2.toUInt64 >>> (40 : UInt64)).toInt64).toInt32).toInt8.toInt32))), (.int (nar .byte ((((q2.toUInt64 >>> (48 : UInt64)).toInt64).toInt32).toInt8.toInt32))), (.int (nar .byte ((((q2.toUInt64 >>> (56 : UInt64)).toInt64).toInt32).toInt8.toInt32)))] (nar .byte (p1.toInt8.toInt32)) (nar .byte (((p1.toUInt32 >>> (8 : UInt32)).toInt32).toInt8.toInt32)) (nar .byte (((p1.toUInt32 >>> (16 : UInt32)).toInt32).toInt8.toInt32)) (nar .byte (((p1.toUInt32 >>> (24 : UInt32)).toInt32).toInt8.toInt32)) h153 n0 (Nat.le_trans Z0 K154.1) V153 ⟨by decide, by decide⟩ ⟨by decide, by decide⟩ ⟨by decide, by decide⟩ ⟨by decide, by decide⟩ rfl rfl rfl rfl) hZ (own_w hw 5 rfl) (own_w hw 4 rfl) (by decide) (by decide)) (g := (mkF m 140 #[.val (.int p1), .val (.long q2), .second, .val (.int p3), .val (.ref b102), .val (.int (0 : Int32))] [(.int (0 : Int32)), (.ref b102)])) rfl (by rw [hml]; rfl) (argsL := [(.ref b102), (.int (0 : Int32))]) (rest := []) (lenOf pd0 rfl) rfl (by show 2 * 0 + _ ≤ _; exact Nat.le_of_eq rfl) (hb hby at_140) (fun _ _ => ⟨rfl, e153, (by decide : 1 + 0 ≤ _), (by decide : 8 + 0 ≤ _)⟩)
    dsimp only [Pt.U, Pt.locs, Pt.cells, Pt.slots] at X157 l157 y157 z157 st157 hQ157
    subst l157 y157 z157
    obtain ⟨rfl, N157q, q157_hh⟩ := hQ157
    have N157 := Fr.app N153 N157q
    have p158 : Go p.tables e below _ (T157.setTop (mkF m 143 #[.val (.int p1), .val (.long q2), .second, .val (.int p3), .val (.ref b102), .val (.int (0 : Int32))] [(.int (own_word (nar .byte (p1.toInt8.toInt32)) (nar .byte (((p1.toUInt32 >>> (8 : UInt32)).toInt32).toInt8.toInt32)) (nar .byte (((p1.toUInt32 >>> (16 : UInt32)).toInt32).toInt8.toInt32)) (nar .byte (((p1.toUInt32 >>> (24 : UInt32)).toInt32).toInt8.toInt32))))])) := fun t k => p156 t (st157 _ k)
    have p159 : Go p.tables e below _ (T157.setTop (mkF m 144 #[.val (.int p1), .val (.long q2), .second, .val (.int p3), .val (.ref b102), .val (.int (0 : Int32))] [(.int p1), (.int (own_word (nar .byte (p1.toInt8.toInt32)) (nar .byte (((p1.toUInt32 >>> (8 : UInt32)).toInt32).toInt8.toInt32)) (nar .byte (((p1.toUInt32 >>> (16 : UInt32)).toInt32).toInt8.toInt32)) (nar .byte (((p1.toUInt32 >>> (24 : UInt32)).toInt32).toInt8.toInt32))))])) := fun t k => p158 t (by
      show Steps p.tables e below (T157.setTop (mkF m 143 #[.val (.int p1), .val (.long q2), .second, .val (.int p3), .val (.ref b102), .val (.int (0 : Int32))] [(.int (own_word (nar .byte (p1.toInt8.toInt32)) (nar .byte (((p1.toUInt32 >>> (8 : UInt32)).toInt32).toInt8.toInt32)) (nar .byte (((p1.toUInt32 >>> (16 : UInt32)).toInt32).toInt8.toInt32)) (nar .byte (((p1.toUInt32 >>> (24 : UInt32)).toInt32).toInt8.toInt32))))])) _
      refine XS.iloadN X157.here hx rfl (hb hby at_143) rfl ?_
      show Steps p.tables e below (T157.setTop (mkF m 144 #[.val (.int p1), .val (.long q2), .second, .val (.int p3), .val (.ref b102), .val (.int (0 : Int32))] [(.int p1), (.int (own_word (nar .byte (p1.toInt8.toInt32)) (nar .byte (((p1.toUInt32 >>> (8 : UInt32)).toInt32).toInt8.toInt32)) (nar .byte (((p1.toUInt32 >>> (16 : UInt32)).toInt32).toInt8.toInt32)) (nar .byte (((p1.toUInt32 >>> (24 : UInt32)).toInt32).toInt8.toInt32))))])) _
      exact k)
    have c160 : ((own_word (nar .byte (p1.toInt8.toInt32)) (nar .byte (((p1.toUInt32 >>> (8 : UInt32)).toInt32).toInt8.toInt32)) (nar .byte (((p1.toUInt32 >>> (16 : UInt32)).toInt32).toInt8.toInt32)) (nar .byte (((p1.toUInt32 >>> (24 : UInt32)).toInt32).toInt8.toInt32))) = p1) := own_wd p1
    have p161 : Go p.tables e below _ (T157.setTop (mkF m 152 #[.val (.int p1), .val (.long q2), .second, .val (.int p3), .val (.ref b102), .val (.int (0 : Int32))] [(.int (1 : Int32))])) := fun t k => p159 t (by
      show Steps p.tables e below (T157.setTop (mkF m 144 #[.val (.int p1), .val (.long q2), .second, .val (.int p3), .val (.ref b102), .val (.int (0 : Int32))] [(.int p1), (.int (own_word (nar .byte (p1.toInt8.toInt32)) (nar .byte (((p1.toUInt32 >>> (8 : UInt32)).toInt32).toInt8.toInt32)) (nar .byte (((p1.toUInt32 >>> (16 : UInt32)).toInt32).toInt8.toInt32)) (nar .byte (((p1.toUInt32 >>> (24 : UInt32)).toInt32).toInt8.toInt32))))])) _
      refine XS.icmpNo X157.here hx rfl (hb hby at_144) rfl (teq c160).2 ?_
      show Steps p.tables e below (T157.setTop (mkF m 147 #[.val (.int p1), .val (.long q2), .second, .val (.int p3), .val (.ref b102), .val (.int (0 : Int32))] [])) _
      refine XS.iconst X157.here hx rfl (hb hby at_147) ?_
      show Steps p.tables e below (T157.setTop (mkF m 148 #[.val (.int p1), .val (.long q2), .second, .val (.int p3), .val (.ref b102), .val (.int (0 : Int32))] [(.int (1 : Int32))])) _
      refine XS.goto X157.here hx rfl (pc0 := 148) (pc' := 152) rfl (hb hby at_148) (by decide) (by decide) ?_
      show Steps p.tables e below (T157.setTop (mkF m 152 #[.val (.int p1), .val (.long q2), .second, .val (.int p3), .val (.ref b102), .val (.int (0 : Int32))] [(.int (1 : Int32))])) _
      exact k)
    obtain ⟨fs, hr, hrun, hended, hW, hsame⟩ := X157.leave (v := some (.int (1 : Int32))) (fun h => by rw [Bd.returns] at h; cases h)
    refine ⟨_, _, p161 _ (retN X157 hx (t := .boolean) Bd.returns (by simp) (hb hby at_152) hr), hrun, hended, _, _, rfl, ?_, ⟨_, rfl⟩, hW, hsame.mono (by decide) (by decide)⟩
    show Q0 Z p1 q2 p3 h0 n0 _ T157.heap _
    rw [q157_hh]
    exact ⟨rfl, N157⟩
  · have p162 : Go p.tables e below (s₁.setTop (entryFrame m #[(.int p1), (.long q2), (.int p3)] maxLocals)) (T134.setTop (mkF m 93 #[.val (.int p1), .val (.long q2), .second, .val (.int p3), .val (.ref b102), .val (.int (1 : Int32))] [])) := by rw [← ro]; exact p138
    have p163 : Go p.tables e below _ (T134.setTop (mkF m 99 #[.val (.int p1), .val (.long q2), .second, .val (.int p3), .val (.ref b102), .val (.int (1 : Int32))] [(.int (p1.toInt8.toInt32)), (.int (1 : Int32)), (.ref b102)])) := fun t k => p162 t (by
      show Steps p.tables e below (T134.setTop (mkF m 93 #[.val (.int p1), .val (.long q2), .second, .val (.int p3), .val (.ref b102), .val (.int (1 : Int32))] [])) _
      refine XS.aload X134.here hx rfl (hb hby at_93) rfl rfl ?_
      show Steps p.tables e below (T134.setTop (mkF m 95 #[.val (.int p1), .val (.long q2), .second, .val (.int p3), .val (.ref b102), .val (.int (1 : Int32))] [(.ref b102)])) _
      refine XS.iload X134.here hx rfl (hb hby at_95) rfl ?_
      show Steps p.tables e below (T134.setTop (mkF m 97 #[.val (.int p1), .val (.long q2), .second, .val (.int p3), .val (.ref b102), .val (.int (1 : Int32))] [(.int (1 : Int32)), (.ref b102)])) _
      refine XS.iloadN X134.here hx rfl (hb hby at_97) rfl ?_
      show Steps p.tables e below (T134.setTop (mkF m 98 #[.val (.int p1), .val (.long q2), .second, .val (.int p3), .val (.ref b102), .val (.int (1 : Int32))] [(.int p1), (.int (1 : Int32)), (.ref b102)])) _
      refine XS.i2b X134.here hx rfl (hb hby at_98) rfl ?_
      show Steps p.tables e below (T134.setTop (mkF m 99 #[.val (.int p1), .val (.long q2), .second, .val (.int p3), .val (.ref b102), .val (.int (1 : Int32))] [(.int (p1.toInt8.toInt32)), (.int (1 : Int32)), (.ref b102)])) _
      exact k)
    obtain ⟨cl164, Ar164, q164, S164, Ng164, H164, G164⟩ := id V134
    have hin164 := inb_of S164 (j := (1 : Int32)) ⟨by decide, by decide⟩
    obtain ⟨T164, h164, X164, e164, W164, st164⟩ := stB X134 hx hZ e134 Ar164 (j := (1 : Int32)) hin164 (g := (mkF m 99 #[.val (.int p1), .val (.long q2), .second, .val (.int p3), .val (.ref b102), .val (.int (1 : Int32))] [(.int (p1.toInt8.toInt32)), (.int (1 : Int32)), (.ref b102)])) rfl rfl (hb hby at_99)
    have K165 : Keep h0 h164 [] := K135.wr W164 (Or.inr sz_b102)
    have N164 := Fr.snoc X164 N134 ge_b102
    have p166 : Go p.tables e below _ (T164.setTop (mkF m 100 #[.val (.int p1), .val (.long q2), .second, .val (.int p3), .val (.ref b102), .val (.int (1 : Int32))] [])) := fun t k => p163 t (st164 t k)
    have V164 : Arv Z h164 b102 k102 .byte (8 : Int32) [(.int (nar .byte ((q2.toInt32).toInt8.toInt32))), (.int (nar .byte (p1.toInt8.toInt32))), (.int (nar .byte ((((q2.toUInt64 >>> (16 : UInt64)).toInt64).toInt32).toInt8.toInt32))), (.int (nar .byte ((((q2.toUInt64 >>> (24 : UInt64)).toInt64).toInt32).toInt8.toInt32))), (.int (nar .byte ((((q2.toUInt64 >>> (32 : UInt64)).toInt64).toInt32).toInt8.toInt32))), (.int (nar .byte ((((q2.toUInt64 >>> (40 : UInt64)).toInt64).toInt32).toInt8.toInt32))), (.int (nar .byte ((((q2.toUInt64 >>> (48 : UInt64)).toInt64).toInt32).toInt8.toInt32))), (.int (nar .byte ((((q2.toUInt64 >>> (56 : UInt64)).toInt64).toInt32).toInt8.toInt32)))] (.int (0 : Int32)) := Arv.set Ar164 q164 S164 Ng164 H164 G164 (fits_nar_byte _) W164 1 rfl (Nat.le_of_ble_eq_true rfl)
    have p167 : Go p.tables e below _ (T164.setTop (mkF m 111 #[.val (.int p1), .val (.long q2), .second, .val (.int p3), .val (.ref b102), .val (.int (1 : Int32))] [(.int (((p1.toUInt32 >>> (8 : UInt32)).toInt32).toInt8.toInt32)), (.int (2 : Int32)), (.ref b102)])) := fun t k => p166 t (by
      show Steps p.tables e below (T164.setTop (mkF m 100 #[.val (.int p1), .val (.long q2), .second, .val (.int p3), .val (.ref b102), .val (.int (1 : Int32))] [])) _
      refine XS.aload X164.here hx rfl (hb hby at_100) rfl rfl ?_
      show Steps p.tables e below (T164.setTop (mkF m 102 #[.val (.int p1), .val (.long q2), .second, .val (.int p3), .val (.ref b102), .val (.int (1 : Int32))] [(.ref b102)])) _
      refine XS.iload X164.here hx rfl (hb hby at_102) rfl ?_
      show Steps p.tables e below (T164.setTop (mkF m 104 #[.val (.int p1), .val (.long q2), .second, .val (.int p3), .val (.ref b102), .val (.int (1 : Int32))] [(.int (1 : Int32)), (.ref b102)])) _
      refine XS.iconst X164.here hx rfl (hb hby at_104) ?_
      show Steps p.tables e below (T164.setTop (mkF m 105 #[.val (.int p1), .val (.long q2), .second, .val (.int p3), .val (.ref b102), .val (.int (1 : Int32))] [(.int (1 : Int32)), (.int (1 : Int32)), (.ref b102)])) _
      refine XS.iadd X164.here hx rfl (hb hby at_105) rfl ?_
      show Steps p.tables e below (T164.setTop (mkF m 106 #[.val (.int p1), .val (.long q2), .second, .val (.int p3), .val (.ref b102), .val (.int (1 : Int32))] [(.int (2 : Int32)), (.ref b102)])) _
      refine XS.iloadN X164.here hx rfl (hb hby at_106) rfl ?_
      show Steps p.tables e below (T164.setTop (mkF m 107 #[.val (.int p1), .val (.long q2), .second, .val (.int p3), .val (.ref b102), .val (.int (1 : Int32))] [(.int p1), (.int (2 : Int32)), (.ref b102)])) _
      refine XS.bipush X164.here hx rfl (hb hby at_107) ?_
      show Steps p.tables e below (T164.setTop (mkF m 109 #[.val (.int p1), .val (.long q2), .second, .val (.int p3), .val (.ref b102), .val (.int (1 : Int32))] [(.int (8 : Int32)), (.int p1), (.int (2 : Int32)), (.ref b102)])) _
      refine XS.iushr X164.here hx rfl (hb hby at_109) rfl ?_
      show Steps p.tables e below (T164.setTop (mkF m 110 #[.val (.int p1), .val (.long q2), .second, .val (.int p3), .val (.ref b102), .val (.int (1 : Int32))] [(.int ((p1.toUInt32 >>> (8 : UInt32)).toInt32)), (.int (2 : Int32)), (.ref b102)])) _
      refine XS.i2b X164.here hx rfl (hb hby at_110) rfl ?_
      show Steps p.tables e below (T164.setTop (mkF m 111 #[.val (.int p1), .val (.long q2), .second, .val (.int p3), .val (.ref b102), .val (.int (1 : Int32))] [(.int (((p1.toUInt32 >>> (8 : UInt32)).toInt32).toInt8.toInt32)), (.int (2 : Int32)), (.ref b102)])) _
      exact k)
    obtain ⟨cl168, Ar168, q168, S168, Ng168, H168, G168⟩ := id V164
    have hin168 := inb_of S168 (j := (2 : Int32)) ⟨by decide, by decide⟩
    obtain ⟨T168, h168, X168, e168, W168, st168⟩ := stB X164 hx hZ e164 Ar168 (j := (2 : Int32)) hin168 (g := (mkF m 111 #[.val (.int p1), .val (.long q2), .second, .val (.int p3), .val (.ref b102), .val (.int (1 : Int32))] [(.int (((p1.toUInt32 >>> (8 : UInt32)).toInt32).toInt8.toInt32)), (.int (2 : Int32)), (.ref b102)])) rfl rfl (hb hby at_111)
    have K169 : Keep h0 h168 [] := K165.wr W168 (Or.inr sz_b102)
    have N168 := Fr.snoc X168 N164 ge_b102
    have p170 : Go p.tables e below _ (T168.setTop (mkF m 112 #[.val (.int p1), .val (.long q2), .second, .val (.int p3), .val (.ref b102), .val (.int (1 : Int32))] [])) := fun t k => p167 t (st168 t k)
    have V168 : Arv Z h168 b102 k102 .byte (8 : Int32) [(.int (nar .byte ((q2.toInt32).toInt8.toInt32))), (.int (nar .byte (p1.toInt8.toInt32))), (.int (nar .byte (((p1.toUInt32 >>> (8 : UInt32)).toInt32).toInt8.toInt32))), (.int (nar .byte ((((q2.toUInt64 >>> (24 : UInt64)).toInt64).toInt32).toInt8.toInt32))), (.int (nar .byte ((((q2.toUInt64 >>> (32 : UInt64)).toInt64).toInt32).toInt8.toInt32))), (.int (nar .byte ((((q2.toUInt64 >>> (40 : UInt64)).toInt64).toInt32).toInt8.toInt32))), (.int (nar .byte ((((q2.toUInt64 >>> (48 : UInt64)).toInt64).toInt32).toInt8.toInt32))), (.int (nar .byte ((((q2.toUInt64 >>> (56 : UInt64)).toInt64).toInt32).toInt8.toInt32)))] (.int (0 : Int32)) := Arv.set Ar168 q168 S168 Ng168 H168 G168 (fits_nar_byte _) W168 2 rfl (Nat.le_of_ble_eq_true rfl)
    have p171 : Go p.tables e below _ (T168.setTop (mkF m 123 #[.val (.int p1), .val (.long q2), .second, .val (.int p3), .val (.ref b102), .val (.int (1 : Int32))] [(.int (((p1.toUInt32 >>> (16 : UInt32)).toInt32).toInt8.toInt32)), (.int (3 : Int32)), (.ref b102)])) := fun t k => p170 t (by
      show Steps p.tables e below (T168.setTop (mkF m 112 #[.val (.int p1), .val (.long q2), .second, .val (.int p3), .val (.ref b102), .val (.int (1 : Int32))] [])) _
      refine XS.aload X168.here hx rfl (hb hby at_112) rfl rfl ?_
      show Steps p.tables e below (T168.setTop (mkF m 114 #[.val (.int p1), .val (.long q2), .second, .val (.int p3), .val (.ref b102), .val (.int (1 : Int32))] [(.ref b102)])) _
      refine XS.iload X168.here hx rfl (hb hby at_114) rfl ?_
      show Steps p.tables e below (T168.setTop (mkF m 116 #[.val (.int p1), .val (.long q2), .second, .val (.int p3), .val (.ref b102), .val (.int (1 : Int32))] [(.int (1 : Int32)), (.ref b102)])) _
      refine XS.iconst X168.here hx rfl (hb hby at_116) ?_
      show Steps p.tables e below (T168.setTop (mkF m 117 #[.val (.int p1), .val (.long q2), .second, .val (.int p3), .val (.ref b102), .val (.int (1 : Int32))] [(.int (2 : Int32)), (.int (1 : Int32)), (.ref b102)])) _
      refine XS.iadd X168.here hx rfl (hb hby at_117) rfl ?_
      show Steps p.tables e below (T168.setTop (mkF m 118 #[.val (.int p1), .val (.long q2), .second, .val (.int p3), .val (.ref b102), .val (.int (1 : Int32))] [(.int (3 : Int32)), (.ref b102)])) _
      refine XS.iloadN X168.here hx rfl (hb hby at_118) rfl ?_
      show Steps p.tables e below (T168.setTop (mkF m 119 #[.val (.int p1), .val (.long q2), .second, .val (.int p3), .val (.ref b102), .val (.int (1 : Int32))] [(.int p1), (.int (3 : Int32)), (.ref b102)])) _
      refine XS.bipush X168.here hx rfl (hb hby at_119) ?_
      show Steps p.tables e below (T168.setTop (mkF m 121 #[.val (.int p1), .val (.long q2), .second, .val (.int p3), .val (.ref b102), .val (.int (1 : Int32))] [(.int (16 : Int32)), (.int p1), (.int (3 : Int32)), (.ref b102)])) _
      refine XS.iushr X168.here hx rfl (hb hby at_121) rfl ?_
      show Steps p.tables e below (T168.setTop (mkF m 122 #[.val (.int p1), .val (.long q2), .second, .val (.int p3), .val (.ref b102), .val (.int (1 : Int32))] [(.int ((p1.toUInt32 >>> (16 : UInt32)).toInt32)), (.int (3 : Int32)), (.ref b102)])) _
      refine XS.i2b X168.here hx rfl (hb hby at_122) rfl ?_
      show Steps p.tables e below (T168.setTop (mkF m 123 #[.val (.int p1), .val (.long q2), .second, .val (.int p3), .val (.ref b102), .val (.int (1 : Int32))] [(.int (((p1.toUInt32 >>> (16 : UInt32)).toInt32).toInt8.toInt32)), (.int (3 : Int32)), (.ref b102)])) _
      exact k)
    obtain ⟨cl172, Ar172, q172, S172, Ng172, H172, G172⟩ := id V168
    have hin172 := inb_of S172 (j := (3 : Int32)) ⟨by decide, by decide⟩
    obtain ⟨T172, h172, X172, e172, W172, st172⟩ := stB X168 hx hZ e168 Ar172 (j := (3 : Int32)) hin172 (g := (mkF m 123 #[.val (.int p1), .val (.long q2), .second, .val (.int p3), .val (.ref b102), .val (.int (1 : Int32))] [(.int (((p1.toUInt32 >>> (16 : UInt32)).toInt32).toInt8.toInt32)), (.int (3 : Int32)), (.ref b102)])) rfl rfl (hb hby at_123)
    have K173 : Keep h0 h172 [] := K169.wr W172 (Or.inr sz_b102)
    have N172 := Fr.snoc X172 N168 ge_b102
    have p174 : Go p.tables e below _ (T172.setTop (mkF m 124 #[.val (.int p1), .val (.long q2), .second, .val (.int p3), .val (.ref b102), .val (.int (1 : Int32))] [])) := fun t k => p171 t (st172 t k)
    have V172 : Arv Z h172 b102 k102 .byte (8 : Int32) [(.int (nar .byte ((q2.toInt32).toInt8.toInt32))), (.int (nar .byte (p1.toInt8.toInt32))), (.int (nar .byte (((p1.toUInt32 >>> (8 : UInt32)).toInt32).toInt8.toInt32))), (.int (nar .byte (((p1.toUInt32 >>> (16 : UInt32)).toInt32).toInt8.toInt32))), (.int (nar .byte ((((q2.toUInt64 >>> (32 : UInt64)).toInt64).toInt32).toInt8.toInt32))), (.int (nar .byte ((((q2.toUInt64 >>> (40 : UInt64)).toInt64).toInt32).toInt8.toInt32))), (.int (nar .byte ((((q2.toUInt64 >>> (48 : UInt64)).toInt64).toInt32).toInt8.toInt32))), (.int (nar .byte ((((q2.toUInt64 >>> (56 : UInt64)).toInt64).toInt32).toInt8.toInt32)))] (.int (0 : Int32)) := Arv.set Ar172 q172 S172 Ng172 H172 G172 (fits_nar_byte _) W172 3 rfl (Nat.le_of_ble_eq_true rfl)
    have p175 : Go p.tables e below _ (T172.setTop (mkF m 135 #[.val (.int p1), .val (.long q2), .second, .val (.int p3), .val (.ref b102), .val (.int (1 : Int32))] [(.int (((p1.toUInt32 >>> (24 : UInt32)).toInt32).toInt8.toInt32)), (.int (4 : Int32)), (.ref b102)])) := fun t k => p174 t (by
      show Steps p.tables e below (T172.setTop (mkF m 124 #[.val (.int p1), .val (.long q2), .second, .val (.int p3), .val (.ref b102), .val (.int (1 : Int32))] [])) _
      refine XS.aload X172.here hx rfl (hb hby at_124) rfl rfl ?_
      show Steps p.tables e below (T172.setTop (mkF m 126 #[.val (.int p1), .val (.long q2), .second, .val (.int p3), .val (.ref b102), .val (.int (1 : Int32))] [(.ref b102)])) _
      refine XS.iload X172.here hx rfl (hb hby at_126) rfl ?_
      show Steps p.tables e below (T172.setTop (mkF m 128 #[.val (.int p1), .val (.long q2), .second, .val (.int p3), .val (.ref b102), .val (.int (1 : Int32))] [(.int (1 : Int32)), (.ref b102)])) _
      refine XS.iconst X172.here hx rfl (hb hby at_128) ?_
      show Steps p.tables e below (T172.setTop (mkF m 129 #[.val (.int p1), .val (.long q2), .second, .val (.int p3), .val (.ref b102), .val (.int (1 : Int32))] [(.int (3 : Int32)), (.int (1 : Int32)), (.ref b102)])) _
      refine XS.iadd X172.here hx rfl (hb hby at_129) rfl ?_
      show Steps p.tables e below (T172.setTop (mkF m 130 #[.val (.int p1), .val (.long q2), .second, .val (.int p3), .val (.ref b102), .val (.int (1 : Int32))] [(.int (4 : Int32)), (.ref b102)])) _
      refine XS.iloadN X172.here hx rfl (hb hby at_130) rfl ?_
      show Steps p.tables e below (T172.setTop (mkF m 131 #[.val (.int p1), .val (.long q2), .second, .val (.int p3), .val (.ref b102), .val (.int (1 : Int32))] [(.int p1), (.int (4 : Int32)), (.ref b102)])) _
      refine XS.bipush X172.here hx rfl (hb hby at_131) ?_
      show Steps p.tables e below (T172.setTop (mkF m 133 #[.val (.int p1), .val (.long q2), .second, .val (.int p3), .val (.ref b102), .val (.int (1 : Int32))] [(.int (24 : Int32)), (.int p1), (.int (4 : Int32)), (.ref b102)])) _
      refine XS.iushr X172.here hx rfl (hb hby at_133) rfl ?_
      show Steps p.tables e below (T172.setTop (mkF m 134 #[.val (.int p1), .val (.long q2), .second, .val (.int p3), .val (.ref b102), .val (.int (1 : Int32))] [(.int ((p1.toUInt32 >>> (24 : UInt32)).toInt32)), (.int (4 : Int32)), (.ref b102)])) _
      refine XS.i2b X172.here hx rfl (hb hby at_134) rfl ?_
      show Steps p.tables e below (T172.setTop (mkF m 135 #[.val (.int p1), .val (.long q2), .second, .val (.int p3), .val (.ref b102), .val (.int (1 : Int32))] [(.int (((p1.toUInt32 >>> (24 : UInt32)).toInt32).toInt8.toInt32)), (.int (4 : Int32)), (.ref b102)])) _
      exact k)
    obtain ⟨cl176, Ar176, q176, S176, Ng176, H176, G176⟩ := id V172
    have hin176 := inb_of S176 (j := (4 : Int32)) ⟨by decide, by decide⟩
    obtain ⟨T176, h176, X176, e176, W176, st176⟩ := stB X172 hx hZ e172 Ar176 (j := (4 : Int32)) hin176 (g := (mkF m 135 #[.val (.int p1), .val (.long q2), .second, .val (.int p3), .val (.ref b102), .val (.int (1 : Int32))] [(.int (((p1.toUInt32 >>> (24 : UInt32)).toInt32).toInt8.toInt32)), (.int (4 : Int32)), (.ref b102)])) rfl rfl (hb hby at_135)
    have K177 : Keep h0 h176 [] := K173.wr W176 (Or.inr sz_b102)
    have N176 := Fr.snoc X176 N172 ge_b102
    have p178 : Go p.tables e below _ (T176.setTop (mkF m 136 #[.val (.int p1), .val (.long q2), .second, .val (.int p3), .val (.ref b102), .val (.int (1 : Int32))] [])) := fun t k => p175 t (st176 t k)
    have V176 : Arv Z h176 b102 k102 .byte (8 : Int32) [(.int (nar .byte ((q2.toInt32).toInt8.toInt32))), (.int (nar .byte (p1.toInt8.toInt32))), (.int (nar .byte (((p1.toUInt32 >>> (8 : UInt32)).toInt32).toInt8.toInt32))), (.int (nar .byte (((p1.toUInt32 >>> (16 : UInt32)).toInt32).toInt8.toInt32))), (.int (nar .byte (((p1.toUInt32 >>> (24 : UInt32)).toInt32).toInt8.toInt32))), (.int (nar .byte ((((q2.toUInt64 >>> (40 : UInt64)).toInt64).toInt32).toInt8.toInt32))), (.int (nar .byte ((((q2.toUInt64 >>> (48 : UInt64)).toInt64).toInt32).toInt8.toInt32))), (.int (nar .byte ((((q2.toUInt64 >>> (56 : UInt64)).toInt64).toInt32).toInt8.toInt32)))] (.int (0 : Int32)) := Arv.set Ar176 q176 S176 Ng176 H176 G176 (fits_nar_byte _) W176 4 rfl (Nat.le_of_ble_eq_true rfl)
    have p179 : Go p.tables e below _ (T176.setTop (mkF m 140 #[.val (.int p1), .val (.long q2), .second, .val (.int p3), .val (.ref b102), .val (.int (1 : Int32))] [(.int (1 : Int32)), (.ref b102)])) := fun t k => p178 t (by
      show Steps p.tables e below (T176.setTop (mkF m 136 #[.val (.int p1), .val (.long q2), .second, .val (.int p3), .val (.ref b102), .val (.int (1 : Int32))] [])) _
      refine XS.aload X176.here hx rfl (hb hby at_136) rfl rfl ?_
      show Steps p.tables e below (T176.setTop (mkF m 138 #[.val (.int p1), .val (.long q2), .second, .val (.int p3), .val (.ref b102), .val (.int (1 : Int32))] [(.ref b102)])) _
      refine XS.iload X176.here hx rfl (hb hby at_138) rfl ?_
      show Steps p.tables e below (T176.setTop (mkF m 140 #[.val (.int p1), .val (.long q2), .second, .val (.int p3), .val (.ref b102), .val (.int (1 : Int32))] [(.int (1 : Int32)), (.ref b102)])) _
      exact k)
    obtain ⟨_, _, ⟨T180, L180, k180, n180⟩, -, X180, ⟨Lc180, hQ180, l180, y180, z180⟩, st180⟩ := Jvm.LawKit.callS X176 hx (y := (⟨"com/example/boot_sealer/bootsealer/rp2350/Block", "word", "([BI)I"⟩ : MethodName)) hown (mvT hZ (own_w hw 2 rfl)) (mvT hZ (own_w hw 3 rfl)) (mvT hZ (own_w hw 4 rfl)) (mvT hZ (own_w hw 5 rfl)) (by decide) (backOf (W := 0) (rm1 l Z a0 hw [] b102 (1 : Int32) k102 [(.int (nar .byte ((q2.toInt32).toInt8.toInt32))), (.int (nar .byte (p1.toInt8.toInt32))), (.int (nar .byte (((p1.toUInt32 >>> (8 : UInt32)).toInt32).toInt8.toInt32))), (.int (nar .byte (((p1.toUInt32 >>> (16 : UInt32)).toInt32).toInt8.toInt32))), (.int (nar .byte (((p1.toUInt32 >>> (24 : UInt32)).toInt32).toInt8.toInt32))), (.int (nar .byte ((((q2.toUInt64 >>> (40 : UInt64)).toInt64).toInt32).toInt8.toInt32))), (.int (nar .byte ((((q2.toUInt64 >>> (48 : UInt64)).toInt64).toInt32).toInt8.toInt32))), (.int (nar .byte ((((q2.toUInt64 >>> (56 : UInt64)).toInt64).toInt32).toInt8.toInt32)))] (nar .byte (p1.toInt8.toInt32)) (nar .byte (((p1.toUInt32 >>> (8 : UInt32)).toInt32).toInt8.toInt32)) (nar .byte (((p1.toUInt32 >>> (16 : UInt32)).toInt32).toInt8.toInt32)) (nar .byte (((p1.toUInt32 >>> (24 : UInt32)).toInt32).toInt8.toInt32)) h176 n0 (Nat.le_trans Z0 K177.1) V176 ⟨by decide, by decide⟩ ⟨by decide, by decide⟩ ⟨by decide, by decide⟩ ⟨by decide, by decide⟩ rfl rfl rfl rfl) hZ (own_w hw 5 rfl) (own_w hw 4 rfl) (by decide) (by decide)) (g := (mkF m 140 #[.val (.int p1), .val (.long q2), .second, .val (.int p3), .val (.ref b102), .val (.int (1 : Int32))] [(.int (1 : Int32)), (.ref b102)])) rfl (by rw [hml]; rfl) (argsL := [(.ref b102), (.int (1 : Int32))]) (rest := []) (lenOf pd0 rfl) rfl (by show 2 * 0 + _ ≤ _; exact Nat.le_of_eq rfl) (hb hby at_140) (fun _ _ => ⟨rfl, e176, (by decide : 1 + 0 ≤ _), (by decide : 8 + 0 ≤ _)⟩)
    dsimp only [Pt.U, Pt.locs, Pt.cells, Pt.slots] at X180 l180 y180 z180 st180 hQ180
    subst l180 y180 z180
    obtain ⟨rfl, N180q, q180_hh⟩ := hQ180
    have N180 := Fr.app N176 N180q
    have p181 : Go p.tables e below _ (T180.setTop (mkF m 143 #[.val (.int p1), .val (.long q2), .second, .val (.int p3), .val (.ref b102), .val (.int (1 : Int32))] [(.int (own_word (nar .byte (p1.toInt8.toInt32)) (nar .byte (((p1.toUInt32 >>> (8 : UInt32)).toInt32).toInt8.toInt32)) (nar .byte (((p1.toUInt32 >>> (16 : UInt32)).toInt32).toInt8.toInt32)) (nar .byte (((p1.toUInt32 >>> (24 : UInt32)).toInt32).toInt8.toInt32))))])) := fun t k => p179 t (st180 _ k)
    have p182 : Go p.tables e below _ (T180.setTop (mkF m 144 #[.val (.int p1), .val (.long q2), .second, .val (.int p3), .val (.ref b102), .val (.int (1 : Int32))] [(.int p1), (.int (own_word (nar .byte (p1.toInt8.toInt32)) (nar .byte (((p1.toUInt32 >>> (8 : UInt32)).toInt32).toInt8.toInt32)) (nar .byte (((p1.toUInt32 >>> (16 : UInt32)).toInt32).toInt8.toInt32)) (nar .byte (((p1.toUInt32 >>> (24 : UInt32)).toInt32).toInt8.toInt32))))])) := fun t k => p181 t (by
      show Steps p.tables e below (T180.setTop (mkF m 143 #[.val (.int p1), .val (.long q2), .second, .val (.int p3), .val (.ref b102), .val (.int (1 : Int32))] [(.int (own_word (nar .byte (p1.toInt8.toInt32)) (nar .byte (((p1.toUInt32 >>> (8 : UInt32)).toInt32).toInt8.toInt32)) (nar .byte (((p1.toUInt32 >>> (16 : UInt32)).toInt32).toInt8.toInt32)) (nar .byte (((p1.toUInt32 >>> (24 : UInt32)).toInt32).toInt8.toInt32))))])) _
      refine XS.iloadN X180.here hx rfl (hb hby at_143) rfl ?_
      show Steps p.tables e below (T180.setTop (mkF m 144 #[.val (.int p1), .val (.long q2), .second, .val (.int p3), .val (.ref b102), .val (.int (1 : Int32))] [(.int p1), (.int (own_word (nar .byte (p1.toInt8.toInt32)) (nar .byte (((p1.toUInt32 >>> (8 : UInt32)).toInt32).toInt8.toInt32)) (nar .byte (((p1.toUInt32 >>> (16 : UInt32)).toInt32).toInt8.toInt32)) (nar .byte (((p1.toUInt32 >>> (24 : UInt32)).toInt32).toInt8.toInt32))))])) _
      exact k)
    have c183 : ((own_word (nar .byte (p1.toInt8.toInt32)) (nar .byte (((p1.toUInt32 >>> (8 : UInt32)).toInt32).toInt8.toInt32)) (nar .byte (((p1.toUInt32 >>> (16 : UInt32)).toInt32).toInt8.toInt32)) (nar .byte (((p1.toUInt32 >>> (24 : UInt32)).toInt32).toInt8.toInt32))) = p1) := own_wd p1
    have p184 : Go p.tables e below _ (T180.setTop (mkF m 152 #[.val (.int p1), .val (.long q2), .second, .val (.int p3), .val (.ref b102), .val (.int (1 : Int32))] [(.int (1 : Int32))])) := fun t k => p182 t (by
      show Steps p.tables e below (T180.setTop (mkF m 144 #[.val (.int p1), .val (.long q2), .second, .val (.int p3), .val (.ref b102), .val (.int (1 : Int32))] [(.int p1), (.int (own_word (nar .byte (p1.toInt8.toInt32)) (nar .byte (((p1.toUInt32 >>> (8 : UInt32)).toInt32).toInt8.toInt32)) (nar .byte (((p1.toUInt32 >>> (16 : UInt32)).toInt32).toInt8.toInt32)) (nar .byte (((p1.toUInt32 >>> (24 : UInt32)).toInt32).toInt8.toInt32))))])) _
      refine XS.icmpNo X180.here hx rfl (hb hby at_144) rfl (teq c183).2 ?_
      show Steps p.tables e below (T180.setTop (mkF m 147 #[.val (.int p1), .val (.long q2), .second, .val (.int p3), .val (.ref b102), .val (.int (1 : Int32))] [])) _
      refine XS.iconst X180.here hx rfl (hb hby at_147) ?_
      show Steps p.tables e below (T180.setTop (mkF m 148 #[.val (.int p1), .val (.long q2), .second, .val (.int p3), .val (.ref b102), .val (.int (1 : Int32))] [(.int (1 : Int32))])) _
      refine XS.goto X180.here hx rfl (pc0 := 148) (pc' := 152) rfl (hb hby at_148) (by decide) (by decide) ?_
      show Steps p.tables e below (T180.setTop (mkF m 152 #[.val (.int p1), .val (.long q2), .second, .val (.int p3), .val (.ref b102), .val (.int (1 : Int32))] [(.int (1 : Int32))])) _
      exact k)
    obtain ⟨fs, hr, hrun, hended, hW, hsame⟩ := X180.leave (v := some (.int (1 : Int32))) (fun h => by rw [Bd.returns] at h; cases h)
    refine ⟨_, _, p184 _ (retN X180 hx (t := .boolean) Bd.returns (by simp) (hb hby at_152) hr), hrun, hended, _, _, rfl, ?_, ⟨_, rfl⟩, hW, hsame.mono (by decide) (by decide)⟩
    show Q0 Z p1 q2 p3 h0 n0 _ T180.heap _
    rw [q180_hh]
    exact ⟨rfl, N180⟩
  · have p185 : Go p.tables e below (s₁.setTop (entryFrame m #[(.int p1), (.long q2), (.int p3)] maxLocals)) (T134.setTop (mkF m 93 #[.val (.int p1), .val (.long q2), .second, .val (.int p3), .val (.ref b102), .val (.int (2 : Int32))] [])) := by rw [← ro]; exact p138
    have p186 : Go p.tables e below _ (T134.setTop (mkF m 99 #[.val (.int p1), .val (.long q2), .second, .val (.int p3), .val (.ref b102), .val (.int (2 : Int32))] [(.int (p1.toInt8.toInt32)), (.int (2 : Int32)), (.ref b102)])) := fun t k => p185 t (by
      show Steps p.tables e below (T134.setTop (mkF m 93 #[.val (.int p1), .val (.long q2), .second, .val (.int p3), .val (.ref b102), .val (.int (2 : Int32))] [])) _
      refine XS.aload X134.here hx rfl (hb hby at_93) rfl rfl ?_
      show Steps p.tables e below (T134.setTop (mkF m 95 #[.val (.int p1), .val (.long q2), .second, .val (.int p3), .val (.ref b102), .val (.int (2 : Int32))] [(.ref b102)])) _
      refine XS.iload X134.here hx rfl (hb hby at_95) rfl ?_
      show Steps p.tables e below (T134.setTop (mkF m 97 #[.val (.int p1), .val (.long q2), .second, .val (.int p3), .val (.ref b102), .val (.int (2 : Int32))] [(.int (2 : Int32)), (.ref b102)])) _
      refine XS.iloadN X134.here hx rfl (hb hby at_97) rfl ?_
      show Steps p.tables e below (T134.setTop (mkF m 98 #[.val (.int p1), .val (.long q2), .second, .val (.int p3), .val (.ref b102), .val (.int (2 : Int32))] [(.int p1), (.int (2 : Int32)), (.ref b102)])) _
      refine XS.i2b X134.here hx rfl (hb hby at_98) rfl ?_
      show Steps p.tables e below (T134.setTop (mkF m 99 #[.val (.int p1), .val (.long q2), .second, .val (.int p3), .val (.ref b102), .val (.int (2 : Int32))] [(.int (p1.toInt8.toInt32)), (.int (2 : Int32)), (.ref b102)])) _
      exact k)
    obtain ⟨cl187, Ar187, q187, S187, Ng187, H187, G187⟩ := id V134
    have hin187 := inb_of S187 (j := (2 : Int32)) ⟨by decide, by decide⟩
    obtain ⟨T187, h187, X187, e187, W187, st187⟩ := stB X134 hx hZ e134 Ar187 (j := (2 : Int32)) hin187 (g := (mkF m 99 #[.val (.int p1), .val (.long q2), .second, .val (.int p3), .val (.ref b102), .val (.int (2 : Int32))] [(.int (p1.toInt8.toInt32)), (.int (2 : Int32)), (.ref b102)])) rfl rfl (hb hby at_99)
    have K188 : Keep h0 h187 [] := K135.wr W187 (Or.inr sz_b102)
    have N187 := Fr.snoc X187 N134 ge_b102
    have p189 : Go p.tables e below _ (T187.setTop (mkF m 100 #[.val (.int p1), .val (.long q2), .second, .val (.int p3), .val (.ref b102), .val (.int (2 : Int32))] [])) := fun t k => p186 t (st187 t k)
    have V187 : Arv Z h187 b102 k102 .byte (8 : Int32) [(.int (nar .byte ((q2.toInt32).toInt8.toInt32))), (.int (nar .byte ((((q2.toUInt64 >>> (8 : UInt64)).toInt64).toInt32).toInt8.toInt32))), (.int (nar .byte (p1.toInt8.toInt32))), (.int (nar .byte ((((q2.toUInt64 >>> (24 : UInt64)).toInt64).toInt32).toInt8.toInt32))), (.int (nar .byte ((((q2.toUInt64 >>> (32 : UInt64)).toInt64).toInt32).toInt8.toInt32))), (.int (nar .byte ((((q2.toUInt64 >>> (40 : UInt64)).toInt64).toInt32).toInt8.toInt32))), (.int (nar .byte ((((q2.toUInt64 >>> (48 : UInt64)).toInt64).toInt32).toInt8.toInt32))), (.int (nar .byte ((((q2.toUInt64 >>> (56 : UInt64)).toInt64).toInt32).toInt8.toInt32)))] (.int (0 : Int32)) := Arv.set Ar187 q187 S187 Ng187 H187 G187 (fits_nar_byte _) W187 2 rfl (Nat.le_of_ble_eq_true rfl)
    have p190 : Go p.tables e below _ (T187.setTop (mkF m 111 #[.val (.int p1), .val (.long q2), .second, .val (.int p3), .val (.ref b102), .val (.int (2 : Int32))] [(.int (((p1.toUInt32 >>> (8 : UInt32)).toInt32).toInt8.toInt32)), (.int (3 : Int32)), (.ref b102)])) := fun t k => p189 t (by
      show Steps p.tables e below (T187.setTop (mkF m 100 #[.val (.int p1), .val (.long q2), .second, .val (.int p3), .val (.ref b102), .val (.int (2 : Int32))] [])) _
      refine XS.aload X187.here hx rfl (hb hby at_100) rfl rfl ?_
      show Steps p.tables e below (T187.setTop (mkF m 102 #[.val (.int p1), .val (.long q2), .second, .val (.int p3), .val (.ref b102), .val (.int (2 : Int32))] [(.ref b102)])) _
      refine XS.iload X187.here hx rfl (hb hby at_102) rfl ?_
      show Steps p.tables e below (T187.setTop (mkF m 104 #[.val (.int p1), .val (.long q2), .second, .val (.int p3), .val (.ref b102), .val (.int (2 : Int32))] [(.int (2 : Int32)), (.ref b102)])) _
      refine XS.iconst X187.here hx rfl (hb hby at_104) ?_
      show Steps p.tables e below (T187.setTop (mkF m 105 #[.val (.int p1), .val (.long q2), .second, .val (.int p3), .val (.ref b102), .val (.int (2 : Int32))] [(.int (1 : Int32)), (.int (2 : Int32)), (.ref b102)])) _
      refine XS.iadd X187.here hx rfl (hb hby at_105) rfl ?_
      show Steps p.tables e below (T187.setTop (mkF m 106 #[.val (.int p1), .val (.long q2), .second, .val (.int p3), .val (.ref b102), .val (.int (2 : Int32))] [(.int (3 : Int32)), (.ref b102)])) _
      refine XS.iloadN X187.here hx rfl (hb hby at_106) rfl ?_
      show Steps p.tables e below (T187.setTop (mkF m 107 #[.val (.int p1), .val (.long q2), .second, .val (.int p3), .val (.ref b102), .val (.int (2 : Int32))] [(.int p1), (.int (3 : Int32)), (.ref b102)])) _
      refine XS.bipush X187.here hx rfl (hb hby at_107) ?_
      show Steps p.tables e below (T187.setTop (mkF m 109 #[.val (.int p1), .val (.long q2), .second, .val (.int p3), .val (.ref b102), .val (.int (2 : Int32))] [(.int (8 : Int32)), (.int p1), (.int (3 : Int32)), (.ref b102)])) _
      refine XS.iushr X187.here hx rfl (hb hby at_109) rfl ?_
      show Steps p.tables e below (T187.setTop (mkF m 110 #[.val (.int p1), .val (.long q2), .second, .val (.int p3), .val (.ref b102), .val (.int (2 : Int32))] [(.int ((p1.toUInt32 >>> (8 : UInt32)).toInt32)), (.int (3 : Int32)), (.ref b102)])) _
      refine XS.i2b X187.here hx rfl (hb hby at_110) rfl ?_
      show Steps p.tables e below (T187.setTop (mkF m 111 #[.val (.int p1), .val (.long q2), .second, .val (.int p3), .val (.ref b102), .val (.int (2 : Int32))] [(.int (((p1.toUInt32 >>> (8 : UInt32)).toInt32).toInt8.toInt32)), (.int (3 : Int32)), (.ref b102)])) _
      exact k)
    obtain ⟨cl191, Ar191, q191, S191, Ng191, H191, G191⟩ := id V187
    have hin191 := inb_of S191 (j := (3 : Int32)) ⟨by decide, by decide⟩
    obtain ⟨T191, h191, X191, e191, W191, st191⟩ := stB X187 hx hZ e187 Ar191 (j := (3 : Int32)) hin191 (g := (mkF m 111 #[.val (.int p1), .val (.long q2), .second, .val (.int p3), .val (.ref b102), .val (.int (2 : Int32))] [(.int (((p1.toUInt32 >>> (8 : UInt32)).toInt32).toInt8.toInt32)), (.int (3 : Int32)), (.ref b102)])) rfl rfl (hb hby at_111)
    have K192 : Keep h0 h191 [] := K188.wr W191 (Or.inr sz_b102)
    have N191 := Fr.snoc X191 N187 ge_b102
    have p193 : Go p.tables e below _ (T191.setTop (mkF m 112 #[.val (.int p1), .val (.long q2), .second, .val (.int p3), .val (.ref b102), .val (.int (2 : Int32))] [])) := fun t k => p190 t (st191 t k)
    have V191 : Arv Z h191 b102 k102 .byte (8 : Int32) [(.int (nar .byte ((q2.toInt32).toInt8.toInt32))), (.int (nar .byte ((((q2.toUInt64 >>> (8 : UInt64)).toInt64).toInt32).toInt8.toInt32))), (.int (nar .byte (p1.toInt8.toInt32))), (.int (nar .byte (((p1.toUInt32 >>> (8 : UInt32)).toInt32).toInt8.toInt32))), (.int (nar .byte ((((q2.toUInt64 >>> (32 : UInt64)).toInt64).toInt32).toInt8.toInt32))), (.int (nar .byte ((((q2.toUInt64 >>> (40 : UInt64)).toInt64).toInt32).toInt8.toInt32))), (.int (nar .byte ((((q2.toUInt64 >>> (48 : UInt64)).toInt64).toInt32).toInt8.toInt32))), (.int (nar .byte ((((q2.toUInt64 >>> (56 : UInt64)).toInt64).toInt32).toInt8.toInt32)))] (.int (0 : Int32)) := Arv.set Ar191 q191 S191 Ng191 H191 G191 (fits_nar_byte _) W191 3 rfl (Nat.le_of_ble_eq_true rfl)
    have p194 : Go p.tables e below _ (T191.setTop (mkF m 123 #[.val (.int p1), .val (.long q2), .second, .val (.int p3), .val (.ref b102), .val (.int (2 : Int32))] [(.int (((p1.toUInt32 >>> (16 : UInt32)).toInt32).toInt8.toInt32)), (.int (4 : Int32)), (.ref b102)])) := fun t k => p193 t (by
      show Steps p.tables e below (T191.setTop (mkF m 112 #[.val (.int p1), .val (.long q2), .second, .val (.int p3), .val (.ref b102), .val (.int (2 : Int32))] [])) _
      refine XS.aload X191.here hx rfl (hb hby at_112) rfl rfl ?_
      show Steps p.tables e below (T191.setTop (mkF m 114 #[.val (.int p1), .val (.long q2), .second, .val (.int p3), .val (.ref b102), .val (.int (2 : Int32))] [(.ref b102)])) _
      refine XS.iload X191.here hx rfl (hb hby at_114) rfl ?_
      show Steps p.tables e below (T191.setTop (mkF m 116 #[.val (.int p1), .val (.long q2), .second, .val (.int p3), .val (.ref b102), .val (.int (2 : Int32))] [(.int (2 : Int32)), (.ref b102)])) _
      refine XS.iconst X191.here hx rfl (hb hby at_116) ?_
      show Steps p.tables e below (T191.setTop (mkF m 117 #[.val (.int p1), .val (.long q2), .second, .val (.int p3), .val (.ref b102), .val (.int (2 : Int32))] [(.int (2 : Int32)), (.int (2 : Int32)), (.ref b102)])) _
      refine XS.iadd X191.here hx rfl (hb hby at_117) rfl ?_
      show Steps p.tables e below (T191.setTop (mkF m 118 #[.val (.int p1), .val (.long q2), .second, .val (.int p3), .val (.ref b102), .val (.int (2 : Int32))] [(.int (4 : Int32)), (.ref b102)])) _
      refine XS.iloadN X191.here hx rfl (hb hby at_118) rfl ?_
      show Steps p.tables e below (T191.setTop (mkF m 119 #[.val (.int p1), .val (.long q2), .second, .val (.int p3), .val (.ref b102), .val (.int (2 : Int32))] [(.int p1), (.int (4 : Int32)), (.ref b102)])) _
      refine XS.bipush X191.here hx rfl (hb hby at_119) ?_
      show Steps p.tables e below (T191.setTop (mkF m 121 #[.val (.int p1), .val (.long q2), .second, .val (.int p3), .val (.ref b102), .val (.int (2 : Int32))] [(.int (16 : Int32)), (.int p1), (.int (4 : Int32)), (.ref b102)])) _
      refine XS.iushr X191.here hx rfl (hb hby at_121) rfl ?_
      show Steps p.tables e below (T191.setTop (mkF m 122 #[.val (.int p1), .val (.long q2), .second, .val (.int p3), .val (.ref b102), .val (.int (2 : Int32))] [(.int ((p1.toUInt32 >>> (16 : UInt32)).toInt32)), (.int (4 : Int32)), (.ref b102)])) _
      refine XS.i2b X191.here hx rfl (hb hby at_122) rfl ?_
      show Steps p.tables e below (T191.setTop (mkF m 123 #[.val (.int p1), .val (.long q2), .second, .val (.int p3), .val (.ref b102), .val (.int (2 : Int32))] [(.int (((p1.toUInt32 >>> (16 : UInt32)).toInt32).toInt8.toInt32)), (.int (4 : Int32)), (.ref b102)])) _
      exact k)
    obtain ⟨cl195, Ar195, q195, S195, Ng195, H195, G195⟩ := id V191
    have hin195 := inb_of S195 (j := (4 : Int32)) ⟨by decide, by decide⟩
    obtain ⟨T195, h195, X195, e195, W195, st195⟩ := stB X191 hx hZ e191 Ar195 (j := (4 : Int32)) hin195 (g := (mkF m 123 #[.val (.int p1), .val (.long q2), .second, .val (.int p3), .val (.ref b102), .val (.int (2 : Int32))] [(.int (((p1.toUInt32 >>> (16 : UInt32)).toInt32).toInt8.toInt32)), (.int (4 : Int32)), (.ref b102)])) rfl rfl (hb hby at_123)
    have K196 : Keep h0 h195 [] := K192.wr W195 (Or.inr sz_b102)
    have N195 := Fr.snoc X195 N191 ge_b102
    have p197 : Go p.tables e below _ (T195.setTop (mkF m 124 #[.val (.int p1), .val (.long q2), .second, .val (.int p3), .val (.ref b102), .val (.int (2 : Int32))] [])) := fun t k => p194 t (st195 t k)
    have V195 : Arv Z h195 b102 k102 .byte (8 : Int32) [(.int (nar .byte ((q2.toInt32).toInt8.toInt32))), (.int (nar .byte ((((q2.toUInt64 >>> (8 : UInt64)).toInt64).toInt32).toInt8.toInt32))), (.int (nar .byte (p1.toInt8.toInt32))), (.int (nar .byte (((p1.toUInt32 >>> (8 : UInt32)).toInt32).toInt8.toInt32))), (.int (nar .byte (((p1.toUInt32 >>> (16 : UInt32)).toInt32).toInt8.toInt32))), (.int (nar .byte ((((q2.toUInt64 >>> (40 : UInt64)).toInt64).toInt32).toInt8.toInt32))), (.int (nar .byte ((((q2.toUInt64 >>> (48 : UInt64)).toInt64).toInt32).toInt8.toInt32))), (.int (nar .byte ((((q2.toUInt64 >>> (56 : UInt64)).toInt64).toInt32).toInt8.toInt32)))] (.int (0 : Int32)) := Arv.set Ar195 q195 S195 Ng195 H195 G195 (fits_nar_byte _) W195 4 rfl (Nat.le_of_ble_eq_true rfl)
    have p198 : Go p.tables e below _ (T195.setTop (mkF m 135 #[.val (.int p1), .val (.long q2), .second, .val (.int p3), .val (.ref b102), .val (.int (2 : Int32))] [(.int (((p1.toUInt32 >>> (24 : UInt32)).toInt32).toInt8.toInt32)), (.int (5 : Int32)), (.ref b102)])) := fun t k => p197 t (by
      show Steps p.tables e below (T195.setTop (mkF m 124 #[.val (.int p1), .val (.long q2), .second, .val (.int p3), .val (.ref b102), .val (.int (2 : Int32))] [])) _
      refine XS.aload X195.here hx rfl (hb hby at_124) rfl rfl ?_
      show Steps p.tables e below (T195.setTop (mkF m 126 #[.val (.int p1), .val (.long q2), .second, .val (.int p3), .val (.ref b102), .val (.int (2 : Int32))] [(.ref b102)])) _
      refine XS.iload X195.here hx rfl (hb hby at_126) rfl ?_
      show Steps p.tables e below (T195.setTop (mkF m 128 #[.val (.int p1), .val (.long q2), .second, .val (.int p3), .val (.ref b102), .val (.int (2 : Int32))] [(.int (2 : Int32)), (.ref b102)])) _
      refine XS.iconst X195.here hx rfl (hb hby at_128) ?_
      show Steps p.tables e below (T195.setTop (mkF m 129 #[.val (.int p1), .val (.long q2), .second, .val (.int p3), .val (.ref b102), .val (.int (2 : Int32))] [(.int (3 : Int32)), (.int (2 : Int32)), (.ref b102)])) _
      refine XS.iadd X195.here hx rfl (hb hby at_129) rfl ?_
      show Steps p.tables e below (T195.setTop (mkF m 130 #[.val (.int p1), .val (.long q2), .second, .val (.int p3), .val (.ref b102), .val (.int (2 : Int32))] [(.int (5 : Int32)), (.ref b102)])) _
      refine XS.iloadN X195.here hx rfl (hb hby at_130) rfl ?_
      show Steps p.tables e below (T195.setTop (mkF m 131 #[.val (.int p1), .val (.long q2), .second, .val (.int p3), .val (.ref b102), .val (.int (2 : Int32))] [(.int p1), (.int (5 : Int32)), (.ref b102)])) _
      refine XS.bipush X195.here hx rfl (hb hby at_131) ?_
      show Steps p.tables e below (T195.setTop (mkF m 133 #[.val (.int p1), .val (.long q2), .second, .val (.int p3), .val (.ref b102), .val (.int (2 : Int32))] [(.int (24 : Int32)), (.int p1), (.int (5 : Int32)), (.ref b102)])) _
      refine XS.iushr X195.here hx rfl (hb hby at_133) rfl ?_
      show Steps p.tables e below (T195.setTop (mkF m 134 #[.val (.int p1), .val (.long q2), .second, .val (.int p3), .val (.ref b102), .val (.int (2 : Int32))] [(.int ((p1.toUInt32 >>> (24 : UInt32)).toInt32)), (.int (5 : Int32)), (.ref b102)])) _
      refine XS.i2b X195.here hx rfl (hb hby at_134) rfl ?_
      show Steps p.tables e below (T195.setTop (mkF m 135 #[.val (.int p1), .val (.long q2), .second, .val (.int p3), .val (.ref b102), .val (.int (2 : Int32))] [(.int (((p1.toUInt32 >>> (24 : UInt32)).toInt32).toInt8.toInt32)), (.int (5 : Int32)), (.ref b102)])) _
      exact k)
    obtain ⟨cl199, Ar199, q199, S199, Ng199, H199, G199⟩ := id V195
    have hin199 := inb_of S199 (j := (5 : Int32)) ⟨by decide, by decide⟩
    obtain ⟨T199, h199, X199, e199, W199, st199⟩ := stB X195 hx hZ e195 Ar199 (j := (5 : Int32)) hin199 (g := (mkF m 135 #[.val (.int p1), .val (.long q2), .second, .val (.int p3), .val (.ref b102), .val (.int (2 : Int32))] [(.int (((p1.toUInt32 >>> (24 : UInt32)).toInt32).toInt8.toInt32)), (.int (5 : Int32)), (.ref b102)])) rfl rfl (hb hby at_135)
    have K200 : Keep h0 h199 [] := K196.wr W199 (Or.inr sz_b102)
    have N199 := Fr.snoc X199 N195 ge_b102
    have p201 : Go p.tables e below _ (T199.setTop (mkF m 136 #[.val (.int p1), .val (.long q2), .second, .val (.int p3), .val (.ref b102), .val (.int (2 : Int32))] [])) := fun t k => p198 t (st199 t k)
    have V199 : Arv Z h199 b102 k102 .byte (8 : Int32) [(.int (nar .byte ((q2.toInt32).toInt8.toInt32))), (.int (nar .byte ((((q2.toUInt64 >>> (8 : UInt64)).toInt64).toInt32).toInt8.toInt32))), (.int (nar .byte (p1.toInt8.toInt32))), (.int (nar .byte (((p1.toUInt32 >>> (8 : UInt32)).toInt32).toInt8.toInt32))), (.int (nar .byte (((p1.toUInt32 >>> (16 : UInt32)).toInt32).toInt8.toInt32))), (.int (nar .byte (((p1.toUInt32 >>> (24 : UInt32)).toInt32).toInt8.toInt32))), (.int (nar .byte ((((q2.toUInt64 >>> (48 : UInt64)).toInt64).toInt32).toInt8.toInt32))), (.int (nar .byte ((((q2.toUInt64 >>> (56 : UInt64)).toInt64).toInt32).toInt8.toInt32)))] (.int (0 : Int32)) := Arv.set Ar199 q199 S199 Ng199 H199 G199 (fits_nar_byte _) W199 5 rfl (Nat.le_of_ble_eq_true rfl)
    have p202 : Go p.tables e below _ (T199.setTop (mkF m 140 #[.val (.int p1), .val (.long q2), .second, .val (.int p3), .val (.ref b102), .val (.int (2 : Int32))] [(.int (2 : Int32)), (.ref b102)])) := fun t k => p201 t (by
      show Steps p.tables e below (T199.setTop (mkF m 136 #[.val (.int p1), .val (.long q2), .second, .val (.int p3), .val (.ref b102), .val (.int (2 : Int32))] [])) _
      refine XS.aload X199.here hx rfl (hb hby at_136) rfl rfl ?_
      show Steps p.tables e below (T199.setTop (mkF m 138 #[.val (.int p1), .val (.long q2), .second, .val (.int p3), .val (.ref b102), .val (.int (2 : Int32))] [(.ref b102)])) _
      refine XS.iload X199.here hx rfl (hb hby at_138) rfl ?_
      show Steps p.tables e below (T199.setTop (mkF m 140 #[.val (.int p1), .val (.long q2), .second, .val (.int p3), .val (.ref b102), .val (.int (2 : Int32))] [(.int (2 : Int32)), (.ref b102)])) _
      exact k)
    obtain ⟨_, _, ⟨T203, L203, k203, n203⟩, -, X203, ⟨Lc203, hQ203, l203, y203, z203⟩, st203⟩ := Jvm.LawKit.callS X199 hx (y := (⟨"com/example/boot_sealer/bootsealer/rp2350/Block", "word", "([BI)I"⟩ : MethodName)) hown (mvT hZ (own_w hw 2 rfl)) (mvT hZ (own_w hw 3 rfl)) (mvT hZ (own_w hw 4 rfl)) (mvT hZ (own_w hw 5 rfl)) (by decide) (backOf (W := 0) (rm1 l Z a0 hw [] b102 (2 : Int32) k102 [(.int (nar .byte ((q2.toInt32).toInt8.toInt32))), (.int (nar .byte ((((q2.toUInt64 >>> (8 : UInt64)).toInt64).toInt32).toInt8.toInt32))), (.int (nar .byte (p1.toInt8.toInt32))), (.int (nar .byte (((p1.toUInt32 >>> (8 : UInt32)).toInt32).toInt8.toInt32))), (.int (nar .byte (((p1.toUInt32 >>> (16 : UInt32)).toInt32).toInt8.toInt32))), (.int (nar .byte (((p1.toUInt32 >>> (24 : UInt32)).toInt32).toInt8.toInt32))), (.int (nar .byte ((((q2.toUInt64 >>> (48 : UInt64)).toInt64).toInt32).toInt8.toInt32))), (.int (nar .byte ((((q2.toUInt64 >>> (56 : UInt64)).toInt64).toInt32).toInt8.toInt32)))] (nar .byte (p1.toInt8.toInt32)) (nar .byte (((p1.toUInt32 >>> (8 : UInt32)).toInt32).toInt8.toInt32)) (nar .byte (((p1.toUInt32 >>> (16 : UInt32)).toInt32).toInt8.toInt32)) (nar .byte (((p1.toUInt32 >>> (24 : UInt32)).toInt32).toInt8.toInt32)) h199 n0 (Nat.le_trans Z0 K200.1) V199 ⟨by decide, by decide⟩ ⟨by decide, by decide⟩ ⟨by decide, by decide⟩ ⟨by decide, by decide⟩ rfl rfl rfl rfl) hZ (own_w hw 5 rfl) (own_w hw 4 rfl) (by decide) (by decide)) (g := (mkF m 140 #[.val (.int p1), .val (.long q2), .second, .val (.int p3), .val (.ref b102), .val (.int (2 : Int32))] [(.int (2 : Int32)), (.ref b102)])) rfl (by rw [hml]; rfl) (argsL := [(.ref b102), (.int (2 : Int32))]) (rest := []) (lenOf pd0 rfl) rfl (by show 2 * 0 + _ ≤ _; exact Nat.le_of_eq rfl) (hb hby at_140) (fun _ _ => ⟨rfl, e199, (by decide : 1 + 0 ≤ _), (by decide : 8 + 0 ≤ _)⟩)
    dsimp only [Pt.U, Pt.locs, Pt.cells, Pt.slots] at X203 l203 y203 z203 st203 hQ203
    subst l203 y203 z203
    obtain ⟨rfl, N203q, q203_hh⟩ := hQ203
    have N203 := Fr.app N199 N203q
    have p204 : Go p.tables e below _ (T203.setTop (mkF m 143 #[.val (.int p1), .val (.long q2), .second, .val (.int p3), .val (.ref b102), .val (.int (2 : Int32))] [(.int (own_word (nar .byte (p1.toInt8.toInt32)) (nar .byte (((p1.toUInt32 >>> (8 : UInt32)).toInt32).toInt8.toInt32)) (nar .byte (((p1.toUInt32 >>> (16 : UInt32)).toInt32).toInt8.toInt32)) (nar .byte (((p1.toUInt32 >>> (24 : UInt32)).toInt32).toInt8.toInt32))))])) := fun t k => p202 t (st203 _ k)
    have p205 : Go p.tables e below _ (T203.setTop (mkF m 144 #[.val (.int p1), .val (.long q2), .second, .val (.int p3), .val (.ref b102), .val (.int (2 : Int32))] [(.int p1), (.int (own_word (nar .byte (p1.toInt8.toInt32)) (nar .byte (((p1.toUInt32 >>> (8 : UInt32)).toInt32).toInt8.toInt32)) (nar .byte (((p1.toUInt32 >>> (16 : UInt32)).toInt32).toInt8.toInt32)) (nar .byte (((p1.toUInt32 >>> (24 : UInt32)).toInt32).toInt8.toInt32))))])) := fun t k => p204 t (by
      show Steps p.tables e below (T203.setTop (mkF m 143 #[.val (.int p1), .val (.long q2), .second, .val (.int p3), .val (.ref b102), .val (.int (2 : Int32))] [(.int (own_word (nar .byte (p1.toInt8.toInt32)) (nar .byte (((p1.toUInt32 >>> (8 : UInt32)).toInt32).toInt8.toInt32)) (nar .byte (((p1.toUInt32 >>> (16 : UInt32)).toInt32).toInt8.toInt32)) (nar .byte (((p1.toUInt32 >>> (24 : UInt32)).toInt32).toInt8.toInt32))))])) _
      refine XS.iloadN X203.here hx rfl (hb hby at_143) rfl ?_
      show Steps p.tables e below (T203.setTop (mkF m 144 #[.val (.int p1), .val (.long q2), .second, .val (.int p3), .val (.ref b102), .val (.int (2 : Int32))] [(.int p1), (.int (own_word (nar .byte (p1.toInt8.toInt32)) (nar .byte (((p1.toUInt32 >>> (8 : UInt32)).toInt32).toInt8.toInt32)) (nar .byte (((p1.toUInt32 >>> (16 : UInt32)).toInt32).toInt8.toInt32)) (nar .byte (((p1.toUInt32 >>> (24 : UInt32)).toInt32).toInt8.toInt32))))])) _
      exact k)
    have c206 : ((own_word (nar .byte (p1.toInt8.toInt32)) (nar .byte (((p1.toUInt32 >>> (8 : UInt32)).toInt32).toInt8.toInt32)) (nar .byte (((p1.toUInt32 >>> (16 : UInt32)).toInt32).toInt8.toInt32)) (nar .byte (((p1.toUInt32 >>> (24 : UInt32)).toInt32).toInt8.toInt32))) = p1) := own_wd p1
    have p207 : Go p.tables e below _ (T203.setTop (mkF m 152 #[.val (.int p1), .val (.long q2), .second, .val (.int p3), .val (.ref b102), .val (.int (2 : Int32))] [(.int (1 : Int32))])) := fun t k => p205 t (by
      show Steps p.tables e below (T203.setTop (mkF m 144 #[.val (.int p1), .val (.long q2), .second, .val (.int p3), .val (.ref b102), .val (.int (2 : Int32))] [(.int p1), (.int (own_word (nar .byte (p1.toInt8.toInt32)) (nar .byte (((p1.toUInt32 >>> (8 : UInt32)).toInt32).toInt8.toInt32)) (nar .byte (((p1.toUInt32 >>> (16 : UInt32)).toInt32).toInt8.toInt32)) (nar .byte (((p1.toUInt32 >>> (24 : UInt32)).toInt32).toInt8.toInt32))))])) _
      refine XS.icmpNo X203.here hx rfl (hb hby at_144) rfl (teq c206).2 ?_
      show Steps p.tables e below (T203.setTop (mkF m 147 #[.val (.int p1), .val (.long q2), .second, .val (.int p3), .val (.ref b102), .val (.int (2 : Int32))] [])) _
      refine XS.iconst X203.here hx rfl (hb hby at_147) ?_
      show Steps p.tables e below (T203.setTop (mkF m 148 #[.val (.int p1), .val (.long q2), .second, .val (.int p3), .val (.ref b102), .val (.int (2 : Int32))] [(.int (1 : Int32))])) _
      refine XS.goto X203.here hx rfl (pc0 := 148) (pc' := 152) rfl (hb hby at_148) (by decide) (by decide) ?_
      show Steps p.tables e below (T203.setTop (mkF m 152 #[.val (.int p1), .val (.long q2), .second, .val (.int p3), .val (.ref b102), .val (.int (2 : Int32))] [(.int (1 : Int32))])) _
      exact k)
    obtain ⟨fs, hr, hrun, hended, hW, hsame⟩ := X203.leave (v := some (.int (1 : Int32))) (fun h => by rw [Bd.returns] at h; cases h)
    refine ⟨_, _, p207 _ (retN X203 hx (t := .boolean) Bd.returns (by simp) (hb hby at_152) hr), hrun, hended, _, _, rfl, ?_, ⟨_, rfl⟩, hW, hsame.mono (by decide) (by decide)⟩
    show Q0 Z p1 q2 p3 h0 n0 _ T203.heap _
    rw [q203_hh]
    exact ⟨rfl, N203⟩
  · have p208 : Go p.tables e below (s₁.setTop (entryFrame m #[(.int p1), (.long q2), (.int p3)] maxLocals)) (T134.setTop (mkF m 93 #[.val (.int p1), .val (.long q2), .second, .val (.int p3), .val (.ref b102), .val (.int (3 : Int32))] [])) := by rw [← ro]; exact p138
    have p209 : Go p.tables e below _ (T134.setTop (mkF m 99 #[.val (.int p1), .val (.long q2), .second, .val (.int p3), .val (.ref b102), .val (.int (3 : Int32))] [(.int (p1.toInt8.toInt32)), (.int (3 : Int32)), (.ref b102)])) := fun t k => p208 t (by
      show Steps p.tables e below (T134.setTop (mkF m 93 #[.val (.int p1), .val (.long q2), .second, .val (.int p3), .val (.ref b102), .val (.int (3 : Int32))] [])) _
      refine XS.aload X134.here hx rfl (hb hby at_93) rfl rfl ?_
      show Steps p.tables e below (T134.setTop (mkF m 95 #[.val (.int p1), .val (.long q2), .second, .val (.int p3), .val (.ref b102), .val (.int (3 : Int32))] [(.ref b102)])) _
      refine XS.iload X134.here hx rfl (hb hby at_95) rfl ?_
      show Steps p.tables e below (T134.setTop (mkF m 97 #[.val (.int p1), .val (.long q2), .second, .val (.int p3), .val (.ref b102), .val (.int (3 : Int32))] [(.int (3 : Int32)), (.ref b102)])) _
      refine XS.iloadN X134.here hx rfl (hb hby at_97) rfl ?_
      show Steps p.tables e below (T134.setTop (mkF m 98 #[.val (.int p1), .val (.long q2), .second, .val (.int p3), .val (.ref b102), .val (.int (3 : Int32))] [(.int p1), (.int (3 : Int32)), (.ref b102)])) _
      refine XS.i2b X134.here hx rfl (hb hby at_98) rfl ?_
      show Steps p.tables e below (T134.setTop (mkF m 99 #[.val (.int p1), .val (.long q2), .second, .val (.int p3), .val (.ref b102), .val (.int (3 : Int32))] [(.int (p1.toInt8.toInt32)), (.int (3 : Int32)), (.ref b102)])) _
      exact k)
    obtain ⟨cl210, Ar210, q210, S210, Ng210, H210, G210⟩ := id V134
    have hin210 := inb_of S210 (j := (3 : Int32)) ⟨by decide, by decide⟩
    obtain ⟨T210, h210, X210, e210, W210, st210⟩ := stB X134 hx hZ e134 Ar210 (j := (3 : Int32)) hin210 (g := (mkF m 99 #[.val (.int p1), .val (.long q2), .second, .val (.int p3), .val (.ref b102), .val (.int (3 : Int32))] [(.int (p1.toInt8.toInt32)), (.int (3 : Int32)), (.ref b102)])) rfl rfl (hb hby at_99)
    have K211 : Keep h0 h210 [] := K135.wr W210 (Or.inr sz_b102)
    have N210 := Fr.snoc X210 N134 ge_b102
    have p212 : Go p.tables e below _ (T210.setTop (mkF m 100 #[.val (.int p1), .val (.long q2), .second, .val (.int p3), .val (.ref b102), .val (.int (3 : Int32))] [])) := fun t k => p209 t (st210 t k)
    have V210 : Arv Z h210 b102 k102 .byte (8 : Int32) [(.int (nar .byte ((q2.toInt32).toInt8.toInt32))), (.int (nar .byte ((((q2.toUInt64 >>> (8 : UInt64)).toInt64).toInt32).toInt8.toInt32))), (.int (nar .byte ((((q2.toUInt64 >>> (16 : UInt64)).toInt64).toInt32).toInt8.toInt32))), (.int (nar .byte (p1.toInt8.toInt32))), (.int (nar .byte ((((q2.toUInt64 >>> (32 : UInt64)).toInt64).toInt32).toInt8.toInt32))), (.int (nar .byte ((((q2.toUInt64 >>> (40 : UInt64)).toInt64).toInt32).toInt8.toInt32))), (.int (nar .byte ((((q2.toUInt64 >>> (48 : UInt64)).toInt64).toInt32).toInt8.toInt32))), (.int (nar .byte ((((q2.toUInt64 >>> (56 : UInt64)).toInt64).toInt32).toInt8.toInt32)))] (.int (0 : Int32)) := Arv.set Ar210 q210 S210 Ng210 H210 G210 (fits_nar_byte _) W210 3 rfl (Nat.le_of_ble_eq_true rfl)
    have p213 : Go p.tables e below _ (T210.setTop (mkF m 111 #[.val (.int p1), .val (.long q2), .second, .val (.int p3), .val (.ref b102), .val (.int (3 : Int32))] [(.int (((p1.toUInt32 >>> (8 : UInt32)).toInt32).toInt8.toInt32)), (.int (4 : Int32)), (.ref b102)])) := fun t k => p212 t (by
      show Steps p.tables e below (T210.setTop (mkF m 100 #[.val (.int p1), .val (.long q2), .second, .val (.int p3), .val (.ref b102), .val (.int (3 : Int32))] [])) _
      refine XS.aload X210.here hx rfl (hb hby at_100) rfl rfl ?_
      show Steps p.tables e below (T210.setTop (mkF m 102 #[.val (.int p1), .val (.long q2), .second, .val (.int p3), .val (.ref b102), .val (.int (3 : Int32))] [(.ref b102)])) _
      refine XS.iload X210.here hx rfl (hb hby at_102) rfl ?_
      show Steps p.tables e below (T210.setTop (mkF m 104 #[.val (.int p1), .val (.long q2), .second, .val (.int p3), .val (.ref b102), .val (.int (3 : Int32))] [(.int (3 : Int32)), (.ref b102)])) _
      refine XS.iconst X210.here hx rfl (hb hby at_104) ?_
      show Steps p.tables e below (T210.setTop (mkF m 105 #[.val (.int p1), .val (.long q2), .second, .val (.int p3), .val (.ref b102), .val (.int (3 : Int32))] [(.int (1 : Int32)), (.int (3 : Int32)), (.ref b102)])) _
      refine XS.iadd X210.here hx rfl (hb hby at_105) rfl ?_
      show Steps p.tables e below (T210.setTop (mkF m 106 #[.val (.int p1), .val (.long q2), .second, .val (.int p3), .val (.ref b102), .val (.int (3 : Int32))] [(.int (4 : Int32)), (.ref b102)])) _
      refine XS.iloadN X210.here hx rfl (hb hby at_106) rfl ?_
      show Steps p.tables e below (T210.setTop (mkF m 107 #[.val (.int p1), .val (.long q2), .second, .val (.int p3), .val (.ref b102), .val (.int (3 : Int32))] [(.int p1), (.int (4 : Int32)), (.ref b102)])) _
      refine XS.bipush X210.here hx rfl (hb hby at_107) ?_
      show Steps p.tables e below (T210.setTop (mkF m 109 #[.val (.int p1), .val (.long q2), .second, .val (.int p3), .val (.ref b102), .val (.int (3 : Int32))] [(.int (8 : Int32)), (.int p1), (.int (4 : Int32)), (.ref b102)])) _
      refine XS.iushr X210.here hx rfl (hb hby at_109) rfl ?_
      show Steps p.tables e below (T210.setTop (mkF m 110 #[.val (.int p1), .val (.long q2), .second, .val (.int p3), .val (.ref b102), .val (.int (3 : Int32))] [(.int ((p1.toUInt32 >>> (8 : UInt32)).toInt32)), (.int (4 : Int32)), (.ref b102)])) _
      refine XS.i2b X210.here hx rfl (hb hby at_110) rfl ?_
      show Steps p.tables e below (T210.setTop (mkF m 111 #[.val (.int p1), .val (.long q2), .second, .val (.int p3), .val (.ref b102), .val (.int (3 : Int32))] [(.int (((p1.toUInt32 >>> (8 : UInt32)).toInt32).toInt8.toInt32)), (.int (4 : Int32)), (.ref b102)])) _
      exact k)
    obtain ⟨cl214, Ar214, q214, S214, Ng214, H214, G214⟩ := id V210
    have hin214 := inb_of S214 (j := (4 : Int32)) ⟨by decide, by decide⟩
    obtain ⟨T214, h214, X214, e214, W214, st214⟩ := stB X210 hx hZ e210 Ar214 (j := (4 : Int32)) hin214 (g := (mkF m 111 #[.val (.int p1), .val (.long q2), .second, .val (.int p3), .val (.ref b102), .val (.int (3 : Int32))] [(.int (((p1.toUInt32 >>> (8 : UInt32)).toInt32).toInt8.toInt32)), (.int (4 : Int32)), (.ref b102)])) rfl rfl (hb hby at_111)
    have K215 : Keep h0 h214 [] := K211.wr W214 (Or.inr sz_b102)
    have N214 := Fr.snoc X214 N210 ge_b102
    have p216 : Go p.tables e below _ (T214.setTop (mkF m 112 #[.val (.int p1), .val (.long q2), .second, .val (.int p3), .val (.ref b102), .val (.int (3 : Int32))] [])) := fun t k => p213 t (st214 t k)
    have V214 : Arv Z h214 b102 k102 .byte (8 : Int32) [(.int (nar .byte ((q2.toInt32).toInt8.toInt32))), (.int (nar .byte ((((q2.toUInt64 >>> (8 : UInt64)).toInt64).toInt32).toInt8.toInt32))), (.int (nar .byte ((((q2.toUInt64 >>> (16 : UInt64)).toInt64).toInt32).toInt8.toInt32))), (.int (nar .byte (p1.toInt8.toInt32))), (.int (nar .byte (((p1.toUInt32 >>> (8 : UInt32)).toInt32).toInt8.toInt32))), (.int (nar .byte ((((q2.toUInt64 >>> (40 : UInt64)).toInt64).toInt32).toInt8.toInt32))), (.int (nar .byte ((((q2.toUInt64 >>> (48 : UInt64)).toInt64).toInt32).toInt8.toInt32))), (.int (nar .byte ((((q2.toUInt64 >>> (56 : UInt64)).toInt64).toInt32).toInt8.toInt32)))] (.int (0 : Int32)) := Arv.set Ar214 q214 S214 Ng214 H214 G214 (fits_nar_byte _) W214 4 rfl (Nat.le_of_ble_eq_true rfl)
    have p217 : Go p.tables e below _ (T214.setTop (mkF m 123 #[.val (.int p1), .val (.long q2), .second, .val (.int p3), .val (.ref b102), .val (.int (3 : Int32))] [(.int (((p1.toUInt32 >>> (16 : UInt32)).toInt32).toInt8.toInt32)), (.int (5 : Int32)), (.ref b102)])) := fun t k => p216 t (by
      show Steps p.tables e below (T214.setTop (mkF m 112 #[.val (.int p1), .val (.long q2), .second, .val (.int p3), .val (.ref b102), .val (.int (3 : Int32))] [])) _
      refine XS.aload X214.here hx rfl (hb hby at_112) rfl rfl ?_
      show Steps p.tables e below (T214.setTop (mkF m 114 #[.val (.int p1), .val (.long q2), .second, .val (.int p3), .val (.ref b102), .val (.int (3 : Int32))] [(.ref b102)])) _
      refine XS.iload X214.here hx rfl (hb hby at_114) rfl ?_
      show Steps p.tables e below (T214.setTop (mkF m 116 #[.val (.int p1), .val (.long q2), .second, .val (.int p3), .val (.ref b102), .val (.int (3 : Int32))] [(.int (3 : Int32)), (.ref b102)])) _
      refine XS.iconst X214.here hx rfl (hb hby at_116) ?_
      show Steps p.tables e below (T214.setTop (mkF m 117 #[.val (.int p1), .val (.long q2), .second, .val (.int p3), .val (.ref b102), .val (.int (3 : Int32))] [(.int (2 : Int32)), (.int (3 : Int32)), (.ref b102)])) _
      refine XS.iadd X214.here hx rfl (hb hby at_117) rfl ?_
      show Steps p.tables e below (T214.setTop (mkF m 118 #[.val (.int p1), .val (.long q2), .second, .val (.int p3), .val (.ref b102), .val (.int (3 : Int32))] [(.int (5 : Int32)), (.ref b102)])) _
      refine XS.iloadN X214.here hx rfl (hb hby at_118) rfl ?_
      show Steps p.tables e below (T214.setTop (mkF m 119 #[.val (.int p1), .val (.long q2), .second, .val (.int p3), .val (.ref b102), .val (.int (3 : Int32))] [(.int p1), (.int (5 : Int32)), (.ref b102)])) _
      refine XS.bipush X214.here hx rfl (hb hby at_119) ?_
      show Steps p.tables e below (T214.setTop (mkF m 121 #[.val (.int p1), .val (.long q2), .second, .val (.int p3), .val (.ref b102), .val (.int (3 : Int32))] [(.int (16 : Int32)), (.int p1), (.int (5 : Int32)), (.ref b102)])) _
      refine XS.iushr X214.here hx rfl (hb hby at_121) rfl ?_
      show Steps p.tables e below (T214.setTop (mkF m 122 #[.val (.int p1), .val (.long q2), .second, .val (.int p3), .val (.ref b102), .val (.int (3 : Int32))] [(.int ((p1.toUInt32 >>> (16 : UInt32)).toInt32)), (.int (5 : Int32)), (.ref b102)])) _
      refine XS.i2b X214.here hx rfl (hb hby at_122) rfl ?_
      show Steps p.tables e below (T214.setTop (mkF m 123 #[.val (.int p1), .val (.long q2), .second, .val (.int p3), .val (.ref b102), .val (.int (3 : Int32))] [(.int (((p1.toUInt32 >>> (16 : UInt32)).toInt32).toInt8.toInt32)), (.int (5 : Int32)), (.ref b102)])) _
      exact k)
    obtain ⟨cl218, Ar218, q218, S218, Ng218, H218, G218⟩ := id V214
    have hin218 := inb_of S218 (j := (5 : Int32)) ⟨by decide, by decide⟩
    obtain ⟨T218, h218, X218, e218, W218, st218⟩ := stB X214 hx hZ e214 Ar218 (j := (5 : Int32)) hin218 (g := (mkF m 123 #[.val (.int p1), .val (.long q2), .second, .val (.int p3), .val (.ref b102), .val (.int (3 : Int32))] [(.int (((p1.toUInt32 >>> (16 : UInt32)).toInt32).toInt8.toInt32)), (.int (5 : Int32)), (.ref b102)])) rfl rfl (hb hby at_123)
    have K219 : Keep h0 h218 [] := K215.wr W218 (Or.inr sz_b102)
    have N218 := Fr.snoc X218 N214 ge_b102
    have p220 : Go p.tables e below _ (T218.setTop (mkF m 124 #[.val (.int p1), .val (.long q2), .second, .val (.int p3), .val (.ref b102), .val (.int (3 : Int32))] [])) := fun t k => p217 t (st218 t k)
    have V218 : Arv Z h218 b102 k102 .byte (8 : Int32) [(.int (nar .byte ((q2.toInt32).toInt8.toInt32))), (.int (nar .byte ((((q2.toUInt64 >>> (8 : UInt64)).toInt64).toInt32).toInt8.toInt32))), (.int (nar .byte ((((q2.toUInt64 >>> (16 : UInt64)).toInt64).toInt32).toInt8.toInt32))), (.int (nar .byte (p1.toInt8.toInt32))), (.int (nar .byte (((p1.toUInt32 >>> (8 : UInt32)).toInt32).toInt8.toInt32))), (.int (nar .byte (((p1.toUInt32 >>> (16 : UInt32)).toInt32).toInt8.toInt32))), (.int (nar .byte ((((q2.toUInt64 >>> (48 : UInt64)).toInt64).toInt32).toInt8.toInt32))), (.int (nar .byte ((((q2.toUInt64 >>> (56 : UInt64)).toInt64).toInt32).toInt8.toInt32)))] (.int (0 : Int32)) := Arv.set Ar218 q218 S218 Ng218 H218 G218 (fits_nar_byte _) W218 5 rfl (Nat.le_of_ble_eq_true rfl)
    have p221 : Go p.tables e below _ (T218.setTop (mkF m 135 #[.val (.int p1), .val (.long q2), .second, .val (.int p3), .val (.ref b102), .val (.int (3 : Int32))] [(.int (((p1.toUInt32 >>> (24 : UInt32)).toInt32).toInt8.toInt32)), (.int (6 : Int32)), (.ref b102)])) := fun t k => p220 t (by
      show Steps p.tables e below (T218.setTop (mkF m 124 #[.val (.int p1), .val (.long q2), .second, .val (.int p3), .val (.ref b102), .val (.int (3 : Int32))] [])) _
      refine XS.aload X218.here hx rfl (hb hby at_124) rfl rfl ?_
      show Steps p.tables e below (T218.setTop (mkF m 126 #[.val (.int p1), .val (.long q2), .second, .val (.int p3), .val (.ref b102), .val (.int (3 : Int32))] [(.ref b102)])) _
      refine XS.iload X218.here hx rfl (hb hby at_126) rfl ?_
      show Steps p.tables e below (T218.setTop (mkF m 128 #[.val (.int p1), .val (.long q2), .second, .val (.int p3), .val (.ref b102), .val (.int (3 : Int32))] [(.int (3 : Int32)), (.ref b102)])) _
      refine XS.iconst X218.here hx rfl (hb hby at_128) ?_
      show Steps p.tables e below (T218.setTop (mkF m 129 #[.val (.int p1), .val (.long q2), .second, .val (.int p3), .val (.ref b102), .val (.int (3 : Int32))] [(.int (3 : Int32)), (.int (3 : Int32)), (.ref b102)])) _
      refine XS.iadd X218.here hx rfl (hb hby at_129) rfl ?_
      show Steps p.tables e below (T218.setTop (mkF m 130 #[.val (.int p1), .val (.long q2), .second, .val (.int p3), .val (.ref b102), .val (.int (3 : Int32))] [(.int (6 : Int32)), (.ref b102)])) _
      refine XS.iloadN X218.here hx rfl (hb hby at_130) rfl ?_
      show Steps p.tables e below (T218.setTop (mkF m 131 #[.val (.int p1), .val (.long q2), .second, .val (.int p3), .val (.ref b102), .val (.int (3 : Int32))] [(.int p1), (.int (6 : Int32)), (.ref b102)])) _
      refine XS.bipush X218.here hx rfl (hb hby at_131) ?_
      show Steps p.tables e below (T218.setTop (mkF m 133 #[.val (.int p1), .val (.long q2), .second, .val (.int p3), .val (.ref b102), .val (.int (3 : Int32))] [(.int (24 : Int32)), (.int p1), (.int (6 : Int32)), (.ref b102)])) _
      refine XS.iushr X218.here hx rfl (hb hby at_133) rfl ?_
      show Steps p.tables e below (T218.setTop (mkF m 134 #[.val (.int p1), .val (.long q2), .second, .val (.int p3), .val (.ref b102), .val (.int (3 : Int32))] [(.int ((p1.toUInt32 >>> (24 : UInt32)).toInt32)), (.int (6 : Int32)), (.ref b102)])) _
      refine XS.i2b X218.here hx rfl (hb hby at_134) rfl ?_
      show Steps p.tables e below (T218.setTop (mkF m 135 #[.val (.int p1), .val (.long q2), .second, .val (.int p3), .val (.ref b102), .val (.int (3 : Int32))] [(.int (((p1.toUInt32 >>> (24 : UInt32)).toInt32).toInt8.toInt32)), (.int (6 : Int32)), (.ref b102)])) _
      exact k)
    obtain ⟨cl222, Ar222, q222, S222, Ng222, H222, G222⟩ := id V218
    have hin222 := inb_of S222 (j := (6 : Int32)) ⟨by decide, by decide⟩
    obtain ⟨T222, h222, X222, e222, W222, st222⟩ := stB X218 hx hZ e218 Ar222 (j := (6 : Int32)) hin222 (g := (mkF m 135 #[.val (.int p1), .val (.long q2), .second, .val (.int p3), .val (.ref b102), .val (.int (3 : Int32))] [(.int (((p1.toUInt32 >>> (24 : UInt32)).toInt32).toInt8.toInt32)), (.int (6 : Int32)), (.ref b102)])) rfl rfl (hb hby at_135)
    have K223 : Keep h0 h222 [] := K219.wr W222 (Or.inr sz_b102)
    have N222 := Fr.snoc X222 N218 ge_b102
    have p224 : Go p.tables e below _ (T222.setTop (mkF m 136 #[.val (.int p1), .val (.long q2), .second, .val (.int p3), .val (.ref b102), .val (.int (3 : Int32))] [])) := fun t k => p221 t (st222 t k)
    have V222 : Arv Z h222 b102 k102 .byte (8 : Int32) [(.int (nar .byte ((q2.toInt32).toInt8.toInt32))), (.int (nar .byte ((((q2.toUInt64 >>> (8 : UInt64)).toInt64).toInt32).toInt8.toInt32))), (.int (nar .byte ((((q2.toUInt64 >>> (16 : UInt64)).toInt64).toInt32).toInt8.toInt32))), (.int (nar .byte (p1.toInt8.toInt32))), (.int (nar .byte (((p1.toUInt32 >>> (8 : UInt32)).toInt32).toInt8.toInt32))), (.int (nar .byte (((p1.toUInt32 >>> (16 : UInt32)).toInt32).toInt8.toInt32))), (.int (nar .byte (((p1.toUInt32 >>> (24 : UInt32)).toInt32).toInt8.toInt32))), (.int (nar .byte ((((q2.toUInt64 >>> (56 : UInt64)).toInt64).toInt32).toInt8.toInt32)))] (.int (0 : Int32)) := Arv.set Ar222 q222 S222 Ng222 H222 G222 (fits_nar_byte _) W222 6 rfl (Nat.le_of_ble_eq_true rfl)
    have p225 : Go p.tables e below _ (T222.setTop (mkF m 140 #[.val (.int p1), .val (.long q2), .second, .val (.int p3), .val (.ref b102), .val (.int (3 : Int32))] [(.int (3 : Int32)), (.ref b102)])) := fun t k => p224 t (by
      show Steps p.tables e below (T222.setTop (mkF m 136 #[.val (.int p1), .val (.long q2), .second, .val (.int p3), .val (.ref b102), .val (.int (3 : Int32))] [])) _
      refine XS.aload X222.here hx rfl (hb hby at_136) rfl rfl ?_
      show Steps p.tables e below (T222.setTop (mkF m 138 #[.val (.int p1), .val (.long q2), .second, .val (.int p3), .val (.ref b102), .val (.int (3 : Int32))] [(.ref b102)])) _
      refine XS.iload X222.here hx rfl (hb hby at_138) rfl ?_
      show Steps p.tables e below (T222.setTop (mkF m 140 #[.val (.int p1), .val (.long q2), .second, .val (.int p3), .val (.ref b102), .val (.int (3 : Int32))] [(.int (3 : Int32)), (.ref b102)])) _
      exact k)
    obtain ⟨_, _, ⟨T226, L226, k226, n226⟩, -, X226, ⟨Lc226, hQ226, l226, y226, z226⟩, st226⟩ := Jvm.LawKit.callS X222 hx (y := (⟨"com/example/boot_sealer/bootsealer/rp2350/Block", "word", "([BI)I"⟩ : MethodName)) hown (mvT hZ (own_w hw 2 rfl)) (mvT hZ (own_w hw 3 rfl)) (mvT hZ (own_w hw 4 rfl)) (mvT hZ (own_w hw 5 rfl)) (by decide) (backOf (W := 0) (rm1 l Z a0 hw [] b102 (3 : Int32) k102 [(.int (nar .byte ((q2.toInt32).toInt8.toInt32))), (.int (nar .byte ((((q2.toUInt64 >>> (8 : UInt64)).toInt64).toInt32).toInt8.toInt32))), (.int (nar .byte ((((q2.toUInt64 >>> (16 : UInt64)).toInt64).toInt32).toInt8.toInt32))), (.int (nar .byte (p1.toInt8.toInt32))), (.int (nar .byte (((p1.toUInt32 >>> (8 : UInt32)).toInt32).toInt8.toInt32))), (.int (nar .byte (((p1.toUInt32 >>> (16 : UInt32)).toInt32).toInt8.toInt32))), (.int (nar .byte (((p1.toUInt32 >>> (24 : UInt32)).toInt32).toInt8.toInt32))), (.int (nar .byte ((((q2.toUInt64 >>> (56 : UInt64)).toInt64).toInt32).toInt8.toInt32)))] (nar .byte (p1.toInt8.toInt32)) (nar .byte (((p1.toUInt32 >>> (8 : UInt32)).toInt32).toInt8.toInt32)) (nar .byte (((p1.toUInt32 >>> (16 : UInt32)).toInt32).toInt8.toInt32)) (nar .byte (((p1.toUInt32 >>> (24 : UInt32)).toInt32).toInt8.toInt32)) h222 n0 (Nat.le_trans Z0 K223.1) V222 ⟨by decide, by decide⟩ ⟨by decide, by decide⟩ ⟨by decide, by decide⟩ ⟨by decide, by decide⟩ rfl rfl rfl rfl) hZ (own_w hw 5 rfl) (own_w hw 4 rfl) (by decide) (by decide)) (g := (mkF m 140 #[.val (.int p1), .val (.long q2), .second, .val (.int p3), .val (.ref b102), .val (.int (3 : Int32))] [(.int (3 : Int32)), (.ref b102)])) rfl (by rw [hml]; rfl) (argsL := [(.ref b102), (.int (3 : Int32))]) (rest := []) (lenOf pd0 rfl) rfl (by show 2 * 0 + _ ≤ _; exact Nat.le_of_eq rfl) (hb hby at_140) (fun _ _ => ⟨rfl, e222, (by decide : 1 + 0 ≤ _), (by decide : 8 + 0 ≤ _)⟩)
    dsimp only [Pt.U, Pt.locs, Pt.cells, Pt.slots] at X226 l226 y226 z226 st226 hQ226
    subst l226 y226 z226
    obtain ⟨rfl, N226q, q226_hh⟩ := hQ226
    have N226 := Fr.app N222 N226q
    have p227 : Go p.tables e below _ (T226.setTop (mkF m 143 #[.val (.int p1), .val (.long q2), .second, .val (.int p3), .val (.ref b102), .val (.int (3 : Int32))] [(.int (own_word (nar .byte (p1.toInt8.toInt32)) (nar .byte (((p1.toUInt32 >>> (8 : UInt32)).toInt32).toInt8.toInt32)) (nar .byte (((p1.toUInt32 >>> (16 : UInt32)).toInt32).toInt8.toInt32)) (nar .byte (((p1.toUInt32 >>> (24 : UInt32)).toInt32).toInt8.toInt32))))])) := fun t k => p225 t (st226 _ k)
    have p228 : Go p.tables e below _ (T226.setTop (mkF m 144 #[.val (.int p1), .val (.long q2), .second, .val (.int p3), .val (.ref b102), .val (.int (3 : Int32))] [(.int p1), (.int (own_word (nar .byte (p1.toInt8.toInt32)) (nar .byte (((p1.toUInt32 >>> (8 : UInt32)).toInt32).toInt8.toInt32)) (nar .byte (((p1.toUInt32 >>> (16 : UInt32)).toInt32).toInt8.toInt32)) (nar .byte (((p1.toUInt32 >>> (24 : UInt32)).toInt32).toInt8.toInt32))))])) := fun t k => p227 t (by
      show Steps p.tables e below (T226.setTop (mkF m 143 #[.val (.int p1), .val (.long q2), .second, .val (.int p3), .val (.ref b102), .val (.int (3 : Int32))] [(.int (own_word (nar .byte (p1.toInt8.toInt32)) (nar .byte (((p1.toUInt32 >>> (8 : UInt32)).toInt32).toInt8.toInt32)) (nar .byte (((p1.toUInt32 >>> (16 : UInt32)).toInt32).toInt8.toInt32)) (nar .byte (((p1.toUInt32 >>> (24 : UInt32)).toInt32).toInt8.toInt32))))])) _
      refine XS.iloadN X226.here hx rfl (hb hby at_143) rfl ?_
      show Steps p.tables e below (T226.setTop (mkF m 144 #[.val (.int p1), .val (.long q2), .second, .val (.int p3), .val (.ref b102), .val (.int (3 : Int32))] [(.int p1), (.int (own_word (nar .byte (p1.toInt8.toInt32)) (nar .byte (((p1.toUInt32 >>> (8 : UInt32)).toInt32).toInt8.toInt32)) (nar .byte (((p1.toUInt32 >>> (16 : UInt32)).toInt32).toInt8.toInt32)) (nar .byte (((p1.toUInt32 >>> (24 : UInt32)).toInt32).toInt8.toInt32))))])) _
      exact k)
    have c229 : ((own_word (nar .byte (p1.toInt8.toInt32)) (nar .byte (((p1.toUInt32 >>> (8 : UInt32)).toInt32).toInt8.toInt32)) (nar .byte (((p1.toUInt32 >>> (16 : UInt32)).toInt32).toInt8.toInt32)) (nar .byte (((p1.toUInt32 >>> (24 : UInt32)).toInt32).toInt8.toInt32))) = p1) := own_wd p1
    have p230 : Go p.tables e below _ (T226.setTop (mkF m 152 #[.val (.int p1), .val (.long q2), .second, .val (.int p3), .val (.ref b102), .val (.int (3 : Int32))] [(.int (1 : Int32))])) := fun t k => p228 t (by
      show Steps p.tables e below (T226.setTop (mkF m 144 #[.val (.int p1), .val (.long q2), .second, .val (.int p3), .val (.ref b102), .val (.int (3 : Int32))] [(.int p1), (.int (own_word (nar .byte (p1.toInt8.toInt32)) (nar .byte (((p1.toUInt32 >>> (8 : UInt32)).toInt32).toInt8.toInt32)) (nar .byte (((p1.toUInt32 >>> (16 : UInt32)).toInt32).toInt8.toInt32)) (nar .byte (((p1.toUInt32 >>> (24 : UInt32)).toInt32).toInt8.toInt32))))])) _
      refine XS.icmpNo X226.here hx rfl (hb hby at_144) rfl (teq c229).2 ?_
      show Steps p.tables e below (T226.setTop (mkF m 147 #[.val (.int p1), .val (.long q2), .second, .val (.int p3), .val (.ref b102), .val (.int (3 : Int32))] [])) _
      refine XS.iconst X226.here hx rfl (hb hby at_147) ?_
      show Steps p.tables e below (T226.setTop (mkF m 148 #[.val (.int p1), .val (.long q2), .second, .val (.int p3), .val (.ref b102), .val (.int (3 : Int32))] [(.int (1 : Int32))])) _
      refine XS.goto X226.here hx rfl (pc0 := 148) (pc' := 152) rfl (hb hby at_148) (by decide) (by decide) ?_
      show Steps p.tables e below (T226.setTop (mkF m 152 #[.val (.int p1), .val (.long q2), .second, .val (.int p3), .val (.ref b102), .val (.int (3 : Int32))] [(.int (1 : Int32))])) _
      exact k)
    obtain ⟨fs, hr, hrun, hended, hW, hsame⟩ := X226.leave (v := some (.int (1 : Int32))) (fun h => by rw [Bd.returns] at h; cases h)
    refine ⟨_, _, p230 _ (retN X226 hx (t := .boolean) Bd.returns (by simp) (hb hby at_152) hr), hrun, hended, _, _, rfl, ?_, ⟨_, rfl⟩, hW, hsame.mono (by decide) (by decide)⟩
    show Q0 Z p1 q2 p3 h0 n0 _ T226.heap _
    rw [q226_hh]
    exact ⟨rfl, N226⟩
  · have p231 : Go p.tables e below (s₁.setTop (entryFrame m #[(.int p1), (.long q2), (.int p3)] maxLocals)) (T134.setTop (mkF m 93 #[.val (.int p1), .val (.long q2), .second, .val (.int p3), .val (.ref b102), .val (.int (4 : Int32))] [])) := by rw [← ro]; exact p138
    have p232 : Go p.tables e below _ (T134.setTop (mkF m 99 #[.val (.int p1), .val (.long q2), .second, .val (.int p3), .val (.ref b102), .val (.int (4 : Int32))] [(.int (p1.toInt8.toInt32)), (.int (4 : Int32)), (.ref b102)])) := fun t k => p231 t (by
      show Steps p.tables e below (T134.setTop (mkF m 93 #[.val (.int p1), .val (.long q2), .second, .val (.int p3), .val (.ref b102), .val (.int (4 : Int32))] [])) _
      refine XS.aload X134.here hx rfl (hb hby at_93) rfl rfl ?_
      show Steps p.tables e below (T134.setTop (mkF m 95 #[.val (.int p1), .val (.long q2), .second, .val (.int p3), .val (.ref b102), .val (.int (4 : Int32))] [(.ref b102)])) _
      refine XS.iload X134.here hx rfl (hb hby at_95) rfl ?_
      show Steps p.tables e below (T134.setTop (mkF m 97 #[.val (.int p1), .val (.long q2), .second, .val (.int p3), .val (.ref b102), .val (.int (4 : Int32))] [(.int (4 : Int32)), (.ref b102)])) _
      refine XS.iloadN X134.here hx rfl (hb hby at_97) rfl ?_
      show Steps p.tables e below (T134.setTop (mkF m 98 #[.val (.int p1), .val (.long q2), .second, .val (.int p3), .val (.ref b102), .val (.int (4 : Int32))] [(.int p1), (.int (4 : Int32)), (.ref b102)])) _
      refine XS.i2b X134.here hx rfl (hb hby at_98) rfl ?_
      show Steps p.tables e below (T134.setTop (mkF m 99 #[.val (.int p1), .val (.long q2), .second, .val (.int p3), .val (.ref b102), .val (.int (4 : Int32))] [(.int (p1.toInt8.toInt32)), (.int (4 : Int32)), (.ref b102)])) _
      exact k)
    obtain ⟨cl233, Ar233, q233, S233, Ng233, H233, G233⟩ := id V134
    have hin233 := inb_of S233 (j := (4 : Int32)) ⟨by decide, by decide⟩
    obtain ⟨T233, h233, X233, e233, W233, st233⟩ := stB X134 hx hZ e134 Ar233 (j := (4 : Int32)) hin233 (g := (mkF m 99 #[.val (.int p1), .val (.long q2), .second, .val (.int p3), .val (.ref b102), .val (.int (4 : Int32))] [(.int (p1.toInt8.toInt32)), (.int (4 : Int32)), (.ref b102)])) rfl rfl (hb hby at_99)
    have K234 : Keep h0 h233 [] := K135.wr W233 (Or.inr sz_b102)
    have N233 := Fr.snoc X233 N134 ge_b102
    have p235 : Go p.tables e below _ (T233.setTop (mkF m 100 #[.val (.int p1), .val (.long q2), .second, .val (.int p3), .val (.ref b102), .val (.int (4 : Int32))] [])) := fun t k => p232 t (st233 t k)
    have V233 : Arv Z h233 b102 k102 .byte (8 : Int32) [(.int (nar .byte ((q2.toInt32).toInt8.toInt32))), (.int (nar .byte ((((q2.toUInt64 >>> (8 : UInt64)).toInt64).toInt32).toInt8.toInt32))), (.int (nar .byte ((((q2.toUInt64 >>> (16 : UInt64)).toInt64).toInt32).toInt8.toInt32))), (.int (nar .byte ((((q2.toUInt64 >>> (24 : UInt64)).toInt64).toInt32).toInt8.toInt32))), (.int (nar .byte (p1.toInt8.toInt32))), (.int (nar .byte ((((q2.toUInt64 >>> (40 : UInt64)).toInt64).toInt32).toInt8.toInt32))), (.int (nar .byte ((((q2.toUInt64 >>> (48 : UInt64)).toInt64).toInt32).toInt8.toInt32))), (.int (nar .byte ((((q2.toUInt64 >>> (56 : UInt64)).toInt64).toInt32).toInt8.toInt32)))] (.int (0 : Int32)) := Arv.set Ar233 q233 S233 Ng233 H233 G233 (fits_nar_byte _) W233 4 rfl (Nat.le_of_ble_eq_true rfl)
    have p236 : Go p.tables e below _ (T233.setTop (mkF m 111 #[.val (.int p1), .val (.long q2), .second, .val (.int p3), .val (.ref b102), .val (.int (4 : Int32))] [(.int (((p1.toUInt32 >>> (8 : UInt32)).toInt32).toInt8.toInt32)), (.int (5 : Int32)), (.ref b102)])) := fun t k => p235 t (by
      show Steps p.tables e below (T233.setTop (mkF m 100 #[.val (.int p1), .val (.long q2), .second, .val (.int p3), .val (.ref b102), .val (.int (4 : Int32))] [])) _
      refine XS.aload X233.here hx rfl (hb hby at_100) rfl rfl ?_
      show Steps p.tables e below (T233.setTop (mkF m 102 #[.val (.int p1), .val (.long q2), .second, .val (.int p3), .val (.ref b102), .val (.int (4 : Int32))] [(.ref b102)])) _
      refine XS.iload X233.here hx rfl (hb hby at_102) rfl ?_
      show Steps p.tables e below (T233.setTop (mkF m 104 #[.val (.int p1), .val (.long q2), .second, .val (.int p3), .val (.ref b102), .val (.int (4 : Int32))] [(.int (4 : Int32)), (.ref b102)])) _
      refine XS.iconst X233.here hx rfl (hb hby at_104) ?_
      show Steps p.tables e below (T233.setTop (mkF m 105 #[.val (.int p1), .val (.long q2), .second, .val (.int p3), .val (.ref b102), .val (.int (4 : Int32))] [(.int (1 : Int32)), (.int (4 : Int32)), (.ref b102)])) _
      refine XS.iadd X233.here hx rfl (hb hby at_105) rfl ?_
      show Steps p.tables e below (T233.setTop (mkF m 106 #[.val (.int p1), .val (.long q2), .second, .val (.int p3), .val (.ref b102), .val (.int (4 : Int32))] [(.int (5 : Int32)), (.ref b102)])) _
      refine XS.iloadN X233.here hx rfl (hb hby at_106) rfl ?_
      show Steps p.tables e below (T233.setTop (mkF m 107 #[.val (.int p1), .val (.long q2), .second, .val (.int p3), .val (.ref b102), .val (.int (4 : Int32))] [(.int p1), (.int (5 : Int32)), (.ref b102)])) _
      refine XS.bipush X233.here hx rfl (hb hby at_107) ?_
      show Steps p.tables e below (T233.setTop (mkF m 109 #[.val (.int p1), .val (.long q2), .second, .val (.int p3), .val (.ref b102), .val (.int (4 : Int32))] [(.int (8 : Int32)), (.int p1), (.int (5 : Int32)), (.ref b102)])) _
      refine XS.iushr X233.here hx rfl (hb hby at_109) rfl ?_
      show Steps p.tables e below (T233.setTop (mkF m 110 #[.val (.int p1), .val (.long q2), .second, .val (.int p3), .val (.ref b102), .val (.int (4 : Int32))] [(.int ((p1.toUInt32 >>> (8 : UInt32)).toInt32)), (.int (5 : Int32)), (.ref b102)])) _
      refine XS.i2b X233.here hx rfl (hb hby at_110) rfl ?_
      show Steps p.tables e below (T233.setTop (mkF m 111 #[.val (.int p1), .val (.long q2), .second, .val (.int p3), .val (.ref b102), .val (.int (4 : Int32))] [(.int (((p1.toUInt32 >>> (8 : UInt32)).toInt32).toInt8.toInt32)), (.int (5 : Int32)), (.ref b102)])) _
      exact k)
    obtain ⟨cl237, Ar237, q237, S237, Ng237, H237, G237⟩ := id V233
    have hin237 := inb_of S237 (j := (5 : Int32)) ⟨by decide, by decide⟩
    obtain ⟨T237, h237, X237, e237, W237, st237⟩ := stB X233 hx hZ e233 Ar237 (j := (5 : Int32)) hin237 (g := (mkF m 111 #[.val (.int p1), .val (.long q2), .second, .val (.int p3), .val (.ref b102), .val (.int (4 : Int32))] [(.int (((p1.toUInt32 >>> (8 : UInt32)).toInt32).toInt8.toInt32)), (.int (5 : Int32)), (.ref b102)])) rfl rfl (hb hby at_111)
    have K238 : Keep h0 h237 [] := K234.wr W237 (Or.inr sz_b102)
    have N237 := Fr.snoc X237 N233 ge_b102
    have p239 : Go p.tables e below _ (T237.setTop (mkF m 112 #[.val (.int p1), .val (.long q2), .second, .val (.int p3), .val (.ref b102), .val (.int (4 : Int32))] [])) := fun t k => p236 t (st237 t k)
    have V237 : Arv Z h237 b102 k102 .byte (8 : Int32) [(.int (nar .byte ((q2.toInt32).toInt8.toInt32))), (.int (nar .byte ((((q2.toUInt64 >>> (8 : UInt64)).toInt64).toInt32).toInt8.toInt32))), (.int (nar .byte ((((q2.toUInt64 >>> (16 : UInt64)).toInt64).toInt32).toInt8.toInt32))), (.int (nar .byte ((((q2.toUInt64 >>> (24 : UInt64)).toInt64).toInt32).toInt8.toInt32))), (.int (nar .byte (p1.toInt8.toInt32))), (.int (nar .byte (((p1.toUInt32 >>> (8 : UInt32)).toInt32).toInt8.toInt32))), (.int (nar .byte ((((q2.toUInt64 >>> (48 : UInt64)).toInt64).toInt32).toInt8.toInt32))), (.int (nar .byte ((((q2.toUInt64 >>> (56 : UInt64)).toInt64).toInt32).toInt8.toInt32)))] (.int (0 : Int32)) := Arv.set Ar237 q237 S237 Ng237 H237 G237 (fits_nar_byte _) W237 5 rfl (Nat.le_of_ble_eq_true rfl)
    have p240 : Go p.tables e below _ (T237.setTop (mkF m 123 #[.val (.int p1), .val (.long q2), .second, .val (.int p3), .val (.ref b102), .val (.int (4 : Int32))] [(.int (((p1.toUInt32 >>> (16 : UInt32)).toInt32).toInt8.toInt32)), (.int (6 : Int32)), (.ref b102)])) := fun t k => p239 t (by
      show Steps p.tables e below (T237.setTop (mkF m 112 #[.val (.int p1), .val (.long q2), .second, .val (.int p3), .val (.ref b102), .val (.int (4 : Int32))] [])) _
      refine XS.aload X237.here hx rfl (hb hby at_112) rfl rfl ?_
      show Steps p.tables e below (T237.setTop (mkF m 114 #[.val (.int p1), .val (.long q2), .second, .val (.int p3), .val (.ref b102), .val (.int (4 : Int32))] [(.ref b102)])) _
      refine XS.iload X237.here hx rfl (hb hby at_114) rfl ?_
      show Steps p.tables e below (T237.setTop (mkF m 116 #[.val (.int p1), .val (.long q2), .second, .val (.int p3), .val (.ref b102), .val (.int (4 : Int32))] [(.int (4 : Int32)), (.ref b102)])) _
      refine XS.iconst X237.here hx rfl (hb hby at_116) ?_
      show Steps p.tables e below (T237.setTop (mkF m 117 #[.val (.int p1), .val (.long q2), .second, .val (.int p3), .val (.ref b102), .val (.int (4 : Int32))] [(.int (2 : Int32)), (.int (4 : Int32)), (.ref b102)])) _
      refine XS.iadd X237.here hx rfl (hb hby at_117) rfl ?_
      show Steps p.tables e below (T237.setTop (mkF m 118 #[.val (.int p1), .val (.long q2), .second, .val (.int p3), .val (.ref b102), .val (.int (4 : Int32))] [(.int (6 : Int32)), (.ref b102)])) _
      refine XS.iloadN X237.here hx rfl (hb hby at_118) rfl ?_
      show Steps p.tables e below (T237.setTop (mkF m 119 #[.val (.int p1), .val (.long q2), .second, .val (.int p3), .val (.ref b102), .val (.int (4 : Int32))] [(.int p1), (.int (6 : Int32)), (.ref b102)])) _
      refine XS.bipush X237.here hx rfl (hb hby at_119) ?_
      show Steps p.tables e below (T237.setTop (mkF m 121 #[.val (.int p1), .val (.long q2), .second, .val (.int p3), .val (.ref b102), .val (.int (4 : Int32))] [(.int (16 : Int32)), (.int p1), (.int (6 : Int32)), (.ref b102)])) _
      refine XS.iushr X237.here hx rfl (hb hby at_121) rfl ?_
      show Steps p.tables e below (T237.setTop (mkF m 122 #[.val (.int p1), .val (.long q2), .second, .val (.int p3), .val (.ref b102), .val (.int (4 : Int32))] [(.int ((p1.toUInt32 >>> (16 : UInt32)).toInt32)), (.int (6 : Int32)), (.ref b102)])) _
      refine XS.i2b X237.here hx rfl (hb hby at_122) rfl ?_
      show Steps p.tables e below (T237.setTop (mkF m 123 #[.val (.int p1), .val (.long q2), .second, .val (.int p3), .val (.ref b102), .val (.int (4 : Int32))] [(.int (((p1.toUInt32 >>> (16 : UInt32)).toInt32).toInt8.toInt32)), (.int (6 : Int32)), (.ref b102)])) _
      exact k)
    obtain ⟨cl241, Ar241, q241, S241, Ng241, H241, G241⟩ := id V237
    have hin241 := inb_of S241 (j := (6 : Int32)) ⟨by decide, by decide⟩
    obtain ⟨T241, h241, X241, e241, W241, st241⟩ := stB X237 hx hZ e237 Ar241 (j := (6 : Int32)) hin241 (g := (mkF m 123 #[.val (.int p1), .val (.long q2), .second, .val (.int p3), .val (.ref b102), .val (.int (4 : Int32))] [(.int (((p1.toUInt32 >>> (16 : UInt32)).toInt32).toInt8.toInt32)), (.int (6 : Int32)), (.ref b102)])) rfl rfl (hb hby at_123)
    have K242 : Keep h0 h241 [] := K238.wr W241 (Or.inr sz_b102)
    have N241 := Fr.snoc X241 N237 ge_b102
    have p243 : Go p.tables e below _ (T241.setTop (mkF m 124 #[.val (.int p1), .val (.long q2), .second, .val (.int p3), .val (.ref b102), .val (.int (4 : Int32))] [])) := fun t k => p240 t (st241 t k)
    have V241 : Arv Z h241 b102 k102 .byte (8 : Int32) [(.int (nar .byte ((q2.toInt32).toInt8.toInt32))), (.int (nar .byte ((((q2.toUInt64 >>> (8 : UInt64)).toInt64).toInt32).toInt8.toInt32))), (.int (nar .byte ((((q2.toUInt64 >>> (16 : UInt64)).toInt64).toInt32).toInt8.toInt32))), (.int (nar .byte ((((q2.toUInt64 >>> (24 : UInt64)).toInt64).toInt32).toInt8.toInt32))), (.int (nar .byte (p1.toInt8.toInt32))), (.int (nar .byte (((p1.toUInt32 >>> (8 : UInt32)).toInt32).toInt8.toInt32))), (.int (nar .byte (((p1.toUInt32 >>> (16 : UInt32)).toInt32).toInt8.toInt32))), (.int (nar .byte ((((q2.toUInt64 >>> (56 : UInt64)).toInt64).toInt32).toInt8.toInt32)))] (.int (0 : Int32)) := Arv.set Ar241 q241 S241 Ng241 H241 G241 (fits_nar_byte _) W241 6 rfl (Nat.le_of_ble_eq_true rfl)
    have p244 : Go p.tables e below _ (T241.setTop (mkF m 135 #[.val (.int p1), .val (.long q2), .second, .val (.int p3), .val (.ref b102), .val (.int (4 : Int32))] [(.int (((p1.toUInt32 >>> (24 : UInt32)).toInt32).toInt8.toInt32)), (.int (7 : Int32)), (.ref b102)])) := fun t k => p243 t (by
      show Steps p.tables e below (T241.setTop (mkF m 124 #[.val (.int p1), .val (.long q2), .second, .val (.int p3), .val (.ref b102), .val (.int (4 : Int32))] [])) _
      refine XS.aload X241.here hx rfl (hb hby at_124) rfl rfl ?_
      show Steps p.tables e below (T241.setTop (mkF m 126 #[.val (.int p1), .val (.long q2), .second, .val (.int p3), .val (.ref b102), .val (.int (4 : Int32))] [(.ref b102)])) _
      refine XS.iload X241.here hx rfl (hb hby at_126) rfl ?_
      show Steps p.tables e below (T241.setTop (mkF m 128 #[.val (.int p1), .val (.long q2), .second, .val (.int p3), .val (.ref b102), .val (.int (4 : Int32))] [(.int (4 : Int32)), (.ref b102)])) _
      refine XS.iconst X241.here hx rfl (hb hby at_128) ?_
      show Steps p.tables e below (T241.setTop (mkF m 129 #[.val (.int p1), .val (.long q2), .second, .val (.int p3), .val (.ref b102), .val (.int (4 : Int32))] [(.int (3 : Int32)), (.int (4 : Int32)), (.ref b102)])) _
      refine XS.iadd X241.here hx rfl (hb hby at_129) rfl ?_
      show Steps p.tables e below (T241.setTop (mkF m 130 #[.val (.int p1), .val (.long q2), .second, .val (.int p3), .val (.ref b102), .val (.int (4 : Int32))] [(.int (7 : Int32)), (.ref b102)])) _
      refine XS.iloadN X241.here hx rfl (hb hby at_130) rfl ?_
      show Steps p.tables e below (T241.setTop (mkF m 131 #[.val (.int p1), .val (.long q2), .second, .val (.int p3), .val (.ref b102), .val (.int (4 : Int32))] [(.int p1), (.int (7 : Int32)), (.ref b102)])) _
      refine XS.bipush X241.here hx rfl (hb hby at_131) ?_
      show Steps p.tables e below (T241.setTop (mkF m 133 #[.val (.int p1), .val (.long q2), .second, .val (.int p3), .val (.ref b102), .val (.int (4 : Int32))] [(.int (24 : Int32)), (.int p1), (.int (7 : Int32)), (.ref b102)])) _
      refine XS.iushr X241.here hx rfl (hb hby at_133) rfl ?_
      show Steps p.tables e below (T241.setTop (mkF m 134 #[.val (.int p1), .val (.long q2), .second, .val (.int p3), .val (.ref b102), .val (.int (4 : Int32))] [(.int ((p1.toUInt32 >>> (24 : UInt32)).toInt32)), (.int (7 : Int32)), (.ref b102)])) _
      refine XS.i2b X241.here hx rfl (hb hby at_134) rfl ?_
      show Steps p.tables e below (T241.setTop (mkF m 135 #[.val (.int p1), .val (.long q2), .second, .val (.int p3), .val (.ref b102), .val (.int (4 : Int32))] [(.int (((p1.toUInt32 >>> (24 : UInt32)).toInt32).toInt8.toInt32)), (.int (7 : Int32)), (.ref b102)])) _
      exact k)
    obtain ⟨cl245, Ar245, q245, S245, Ng245, H245, G245⟩ := id V241
    have hin245 := inb_of S245 (j := (7 : Int32)) ⟨by decide, by decide⟩
    obtain ⟨T245, h245, X245, e245, W245, st245⟩ := stB X241 hx hZ e241 Ar245 (j := (7 : Int32)) hin245 (g := (mkF m 135 #[.val (.int p1), .val (.long q2), .second, .val (.int p3), .val (.ref b102), .val (.int (4 : Int32))] [(.int (((p1.toUInt32 >>> (24 : UInt32)).toInt32).toInt8.toInt32)), (.int (7 : Int32)), (.ref b102)])) rfl rfl (hb hby at_135)
    have K246 : Keep h0 h245 [] := K242.wr W245 (Or.inr sz_b102)
    have N245 := Fr.snoc X245 N241 ge_b102
    have p247 : Go p.tables e below _ (T245.setTop (mkF m 136 #[.val (.int p1), .val (.long q2), .second, .val (.int p3), .val (.ref b102), .val (.int (4 : Int32))] [])) := fun t k => p244 t (st245 t k)
    have V245 : Arv Z h245 b102 k102 .byte (8 : Int32) [(.int (nar .byte ((q2.toInt32).toInt8.toInt32))), (.int (nar .byte ((((q2.toUInt64 >>> (8 : UInt64)).toInt64).toInt32).toInt8.toInt32))), (.int (nar .byte ((((q2.toUInt64 >>> (16 : UInt64)).toInt64).toInt32).toInt8.toInt32))), (.int (nar .byte ((((q2.toUInt64 >>> (24 : UInt64)).toInt64).toInt32).toInt8.toInt32))), (.int (nar .byte (p1.toInt8.toInt32))), (.int (nar .byte (((p1.toUInt32 >>> (8 : UInt32)).toInt32).toInt8.toInt32))), (.int (nar .byte (((p1.toUInt32 >>> (16 : UInt32)).toInt32).toInt8.toInt32))), (.int (nar .byte (((p1.toUInt32 >>> (24 : UInt32)).toInt32).toInt8.toInt32)))] (.int (0 : Int32)) := Arv.set Ar245 q245 S245 Ng245 H245 G245 (fits_nar_byte _) W245 7 rfl (Nat.le_of_ble_eq_true rfl)
    have p248 : Go p.tables e below _ (T245.setTop (mkF m 140 #[.val (.int p1), .val (.long q2), .second, .val (.int p3), .val (.ref b102), .val (.int (4 : Int32))] [(.int (4 : Int32)), (.ref b102)])) := fun t k => p247 t (by
      show Steps p.tables e below (T245.setTop (mkF m 136 #[.val (.int p1), .val (.long q2), .second, .val (.int p3), .val (.ref b102), .val (.int (4 : Int32))] [])) _
      refine XS.aload X245.here hx rfl (hb hby at_136) rfl rfl ?_
      show Steps p.tables e below (T245.setTop (mkF m 138 #[.val (.int p1), .val (.long q2), .second, .val (.int p3), .val (.ref b102), .val (.int (4 : Int32))] [(.ref b102)])) _
      refine XS.iload X245.here hx rfl (hb hby at_138) rfl ?_
      show Steps p.tables e below (T245.setTop (mkF m 140 #[.val (.int p1), .val (.long q2), .second, .val (.int p3), .val (.ref b102), .val (.int (4 : Int32))] [(.int (4 : Int32)), (.ref b102)])) _
      exact k)
    obtain ⟨_, _, ⟨T249, L249, k249, n249⟩, -, X249, ⟨Lc249, hQ249, l249, y249, z249⟩, st249⟩ := Jvm.LawKit.callS X245 hx (y := (⟨"com/example/boot_sealer/bootsealer/rp2350/Block", "word", "([BI)I"⟩ : MethodName)) hown (mvT hZ (own_w hw 2 rfl)) (mvT hZ (own_w hw 3 rfl)) (mvT hZ (own_w hw 4 rfl)) (mvT hZ (own_w hw 5 rfl)) (by decide) (backOf (W := 0) (rm1 l Z a0 hw [] b102 (4 : Int32) k102 [(.int (nar .byte ((q2.toInt32).toInt8.toInt32))), (.int (nar .byte ((((q2.toUInt64 >>> (8 : UInt64)).toInt64).toInt32).toInt8.toInt32))), (.int (nar .byte ((((q2.toUInt64 >>> (16 : UInt64)).toInt64).toInt32).toInt8.toInt32))), (.int (nar .byte ((((q2.toUInt64 >>> (24 : UInt64)).toInt64).toInt32).toInt8.toInt32))), (.int (nar .byte (p1.toInt8.toInt32))), (.int (nar .byte (((p1.toUInt32 >>> (8 : UInt32)).toInt32).toInt8.toInt32))), (.int (nar .byte (((p1.toUInt32 >>> (16 : UInt32)).toInt32).toInt8.toInt32))), (.int (nar .byte (((p1.toUInt32 >>> (24 : UInt32)).toInt32).toInt8.toInt32)))] (nar .byte (p1.toInt8.toInt32)) (nar .byte (((p1.toUInt32 >>> (8 : UInt32)).toInt32).toInt8.toInt32)) (nar .byte (((p1.toUInt32 >>> (16 : UInt32)).toInt32).toInt8.toInt32)) (nar .byte (((p1.toUInt32 >>> (24 : UInt32)).toInt32).toInt8.toInt32)) h245 n0 (Nat.le_trans Z0 K246.1) V245 ⟨by decide, by decide⟩ ⟨by decide, by decide⟩ ⟨by decide, by decide⟩ ⟨by decide, by decide⟩ rfl rfl rfl rfl) hZ (own_w hw 5 rfl) (own_w hw 4 rfl) (by decide) (by decide)) (g := (mkF m 140 #[.val (.int p1), .val (.long q2), .second, .val (.int p3), .val (.ref b102), .val (.int (4 : Int32))] [(.int (4 : Int32)), (.ref b102)])) rfl (by rw [hml]; rfl) (argsL := [(.ref b102), (.int (4 : Int32))]) (rest := []) (lenOf pd0 rfl) rfl (by show 2 * 0 + _ ≤ _; exact Nat.le_of_eq rfl) (hb hby at_140) (fun _ _ => ⟨rfl, e245, (by decide : 1 + 0 ≤ _), (by decide : 8 + 0 ≤ _)⟩)
    dsimp only [Pt.U, Pt.locs, Pt.cells, Pt.slots] at X249 l249 y249 z249 st249 hQ249
    subst l249 y249 z249
    obtain ⟨rfl, N249q, q249_hh⟩ := hQ249
    have N249 := Fr.app N245 N249q
    have p250 : Go p.tables e below _ (T249.setTop (mkF m 143 #[.val (.int p1), .val (.long q2), .second, .val (.int p3), .val (.ref b102), .val (.int (4 : Int32))] [(.int (own_word (nar .byte (p1.toInt8.toInt32)) (nar .byte (((p1.toUInt32 >>> (8 : UInt32)).toInt32).toInt8.toInt32)) (nar .byte (((p1.toUInt32 >>> (16 : UInt32)).toInt32).toInt8.toInt32)) (nar .byte (((p1.toUInt32 >>> (24 : UInt32)).toInt32).toInt8.toInt32))))])) := fun t k => p248 t (st249 _ k)
    have p251 : Go p.tables e below _ (T249.setTop (mkF m 144 #[.val (.int p1), .val (.long q2), .second, .val (.int p3), .val (.ref b102), .val (.int (4 : Int32))] [(.int p1), (.int (own_word (nar .byte (p1.toInt8.toInt32)) (nar .byte (((p1.toUInt32 >>> (8 : UInt32)).toInt32).toInt8.toInt32)) (nar .byte (((p1.toUInt32 >>> (16 : UInt32)).toInt32).toInt8.toInt32)) (nar .byte (((p1.toUInt32 >>> (24 : UInt32)).toInt32).toInt8.toInt32))))])) := fun t k => p250 t (by
      show Steps p.tables e below (T249.setTop (mkF m 143 #[.val (.int p1), .val (.long q2), .second, .val (.int p3), .val (.ref b102), .val (.int (4 : Int32))] [(.int (own_word (nar .byte (p1.toInt8.toInt32)) (nar .byte (((p1.toUInt32 >>> (8 : UInt32)).toInt32).toInt8.toInt32)) (nar .byte (((p1.toUInt32 >>> (16 : UInt32)).toInt32).toInt8.toInt32)) (nar .byte (((p1.toUInt32 >>> (24 : UInt32)).toInt32).toInt8.toInt32))))])) _
      refine XS.iloadN X249.here hx rfl (hb hby at_143) rfl ?_
      show Steps p.tables e below (T249.setTop (mkF m 144 #[.val (.int p1), .val (.long q2), .second, .val (.int p3), .val (.ref b102), .val (.int (4 : Int32))] [(.int p1), (.int (own_word (nar .byte (p1.toInt8.toInt32)) (nar .byte (((p1.toUInt32 >>> (8 : UInt32)).toInt32).toInt8.toInt32)) (nar .byte (((p1.toUInt32 >>> (16 : UInt32)).toInt32).toInt8.toInt32)) (nar .byte (((p1.toUInt32 >>> (24 : UInt32)).toInt32).toInt8.toInt32))))])) _
      exact k)
    have c252 : ((own_word (nar .byte (p1.toInt8.toInt32)) (nar .byte (((p1.toUInt32 >>> (8 : UInt32)).toInt32).toInt8.toInt32)) (nar .byte (((p1.toUInt32 >>> (16 : UInt32)).toInt32).toInt8.toInt32)) (nar .byte (((p1.toUInt32 >>> (24 : UInt32)).toInt32).toInt8.toInt32))) = p1) := own_wd p1
    have p253 : Go p.tables e below _ (T249.setTop (mkF m 152 #[.val (.int p1), .val (.long q2), .second, .val (.int p3), .val (.ref b102), .val (.int (4 : Int32))] [(.int (1 : Int32))])) := fun t k => p251 t (by
      show Steps p.tables e below (T249.setTop (mkF m 144 #[.val (.int p1), .val (.long q2), .second, .val (.int p3), .val (.ref b102), .val (.int (4 : Int32))] [(.int p1), (.int (own_word (nar .byte (p1.toInt8.toInt32)) (nar .byte (((p1.toUInt32 >>> (8 : UInt32)).toInt32).toInt8.toInt32)) (nar .byte (((p1.toUInt32 >>> (16 : UInt32)).toInt32).toInt8.toInt32)) (nar .byte (((p1.toUInt32 >>> (24 : UInt32)).toInt32).toInt8.toInt32))))])) _
      refine XS.icmpNo X249.here hx rfl (hb hby at_144) rfl (teq c252).2 ?_
      show Steps p.tables e below (T249.setTop (mkF m 147 #[.val (.int p1), .val (.long q2), .second, .val (.int p3), .val (.ref b102), .val (.int (4 : Int32))] [])) _
      refine XS.iconst X249.here hx rfl (hb hby at_147) ?_
      show Steps p.tables e below (T249.setTop (mkF m 148 #[.val (.int p1), .val (.long q2), .second, .val (.int p3), .val (.ref b102), .val (.int (4 : Int32))] [(.int (1 : Int32))])) _
      refine XS.goto X249.here hx rfl (pc0 := 148) (pc' := 152) rfl (hb hby at_148) (by decide) (by decide) ?_
      show Steps p.tables e below (T249.setTop (mkF m 152 #[.val (.int p1), .val (.long q2), .second, .val (.int p3), .val (.ref b102), .val (.int (4 : Int32))] [(.int (1 : Int32))])) _
      exact k)
    obtain ⟨fs, hr, hrun, hended, hW, hsame⟩ := X249.leave (v := some (.int (1 : Int32))) (fun h => by rw [Bd.returns] at h; cases h)
    refine ⟨_, _, p253 _ (retN X249 hx (t := .boolean) Bd.returns (by simp) (hb hby at_152) hr), hrun, hended, _, _, rfl, ?_, ⟨_, rfl⟩, hW, hsame.mono (by decide) (by decide)⟩
    show Q0 Z p1 q2 p3 h0 n0 _ T249.heap _
    rw [q249_hh]
    exact ⟨rfl, N249⟩
set_option maxRecDepth 65536 in
set_option maxHeartbeats 40000000 in
theorem comes_1 {Post : Tables → Env → Array Value → State → Outcome → State → Prop} (hpost : ∀ tb e args s v u, (limb_1_1.after args s (.returned v) u = true ∧ limb_1_2.after args s (.returned v) u = true ∧ True) → FrameEnd s (.returned v) u (Jvm.fieldLocs frame_1_writes args s ++ Jvm.arrayLocs frame_1_arrays args s ++ Jvm.staticLocs frame_1_statics s) 16 128 → Post tb e args s (.returned v) u) :
    ArmFor flags0 classFile x code maxLocals ret World_1 tables_1 room_1 Calls_1 rest_1 Pre_1 Post := by
  intro l hfl _ _ p e ha hc hk s m args below hf hA hF happ hP
  obtain ⟨hcalls, hrest, hpre⟩ := hP
  obtain ⟨-, -, -, hnamed, -, -, -, hat⟩ := (Spec.applies_iff hf).mp happ
  obtain ⟨hg, hn⟩ := and_e (Cond.before_iff.mp (show (Jvm.Cond.and given_1 narrow_1).before args s = true from hpre))
  obtain ⟨ga, gb0⟩ := and_e hg
  obtain ⟨gi0, gb1⟩ := and_e gb0
  obtain ⟨gi1, gb2⟩ := and_e gb1
  have gi2 := gb2
  obtain ⟨w0, w1, w2, rfl⟩ : ∃ w0 w1 w2 : Value, args = #[w0, w1, w2] := by
    have hs : args.size = 3 := by simpa [Cond.value, given_1] using ga
    obtain ⟨L⟩ := args
    match L, hs with
    | [w0, w1, w2], _ => exact ⟨w0, w1, w2, rfl⟩
  have hw := fun d (hd : d ∈ tables_1) => atoms_spec (ws := Jvm.Cond.code x code maxLocals ret :: tables_1) hat d (List.mem_cons_of_mem _ hd)
  have hfit : Fit s := fun {y c} hc i hi => by
    obtain ⟨ha, rfl⟩ := Array.getElem?_eq_some_iff.mp hc
    have q := List.all_eq_true.mp ((Array.all_eq_true_iff_forall_mem.mp hF) _ (Array.getElem_mem ha)) i (List.mem_range.mpr hi)
    simpa [Array.getElem?_eq_getElem hi] using q
  obtain ⟨i0, ei0⟩ := is_v gi0
  obtain rfl : w0 = (.int i0) := Option.some.inj ei0
  obtain ⟨i1, ei1⟩ := isL_v gi1
  obtain rfl : w1 = (.long i1) := Option.some.inj ei1
  obtain ⟨i2, ei2⟩ := is_v gi2
  obtain rfl : w2 = (.int i2) := Option.some.inj ei2
  obtain ⟨n, o, h1, h2, h3, _, L, rfl, ⟨rfl, N⟩, hq⟩ := rm0 l s _ hw tables_1 i0 i1 i2 s.heap s.heap.size (Nat.le_refl _) p e ha hc hk s m _ below hf ((Spec.applies_iff_loose hf).mp happ).1 ⟨rfl, State.Warmed39.refl s, rfl⟩ trivial
  refine ⟨n, _, h1, h2, h3, hpost _ _ _ _ _ _ ⟨Cond.after_iff.mpr rfl, Cond.after_iff.mpr (eq_i res_at (Term.int_eval (1)) rfl), trivial⟩ ⟨hq.1, hq.2.1, (hq.2.2.sift fun y hy => Or.inr (N y hy)).mono (by decide) (by decide)⟩⟩
theorem main_1_1 : Claimed_1_1 := comes_1 fun _ _ _ _ _ _ h hF => ⟨h.1, hF⟩
theorem main_1_2 : Claimed_1_2 := comes_1 fun _ _ _ _ _ _ h hF => ⟨h.2.1, hF⟩
end Jvm.Pilot.@@N@@
namespace Jvm.Pilot.@@N@@
open Jvm Jvm.ClassFile Sem Op Lib Jvm.Free Jvm.Stand Jvm.Pilot.@@N@@.Jvm.D
/-! MADE BY PROGRAM (witnessworld.py) out of the Statement's table words and the real class files: 9 classes; the members and pool entries that the words name. The judged class is class 1, her method 1. -/
namespace start1
open Jvm.ClassFile
def u (s : String) : CpInfo := .utf8 (stringToUtf16 s)
/-- a pool by its gaps: so many unusable entries, then the entry; so many at the end -/
def gap : Nat → List CpInfo → List CpInfo
  | 0, r => r
  | n + 1, r => .unusable :: gap n r
def poolList (es : List (Nat × CpInfo)) (last : Nat) : List CpInfo := es.foldr (fun e r => gap e.1 (e.2 :: r)) (gap last [])
def pool (es : List (Nat × CpInfo)) (last : Nat) : Array CpInfo := ⟨poolList es last⟩
def fileOf (pool : Array CpInfo) (this : Nat) (attrs : Array Attribute := #[]) (ms : Array MethodInfo := #[]) (fl : Nat := 33) (sup : Nat := 0) (ifs : Array Nat := #[]) (fds : Array FieldInfo := #[]) : ClassFile where
  minorVersion := 0
  majorVersion := 65
  constantPool := pool
  accessFlags := fl
  thisClass := this
  superClass := sup
  interfaces := ifs
  fields := fds
  methods := ms
  attributes := attrs
def plain (name : String) (sup : Option ClassId) : Class where
  name := name
  kind := .ordinary
  loader := none
  accessFlags := 33
  super := sup
  interfaces := #[]
  cf := none
  fields := #[]
  methods := #[]
  instanceTypes := #[]
  staticTypes := #[]
  resolved := #[]
  callSites := []
  init := .initialized
  statics := none
  mirror := none

def pool0 : Array CpInfo := pool [(5, u "<init>"), (0, u "()V"), (1, .class_ 10), (1, u "java/lang/Object")] 113

def k0m0 : Method := { name := "<init>", desc := "()V", sig := { parameters := [], returnType := none }, accessFlags := 1, code := none }
/-- java/lang/Object -/
def k0 : Class := { plain "java/lang/Object" none with
  accessFlags := 33
  interfaces := #[]
  cf := some (fileOf pool0 8 #[] #[{ accessFlags := 1, nameIndex := 5, descriptorIndex := 6, attributes := #[] }] 33 0 #[] #[])
  fields := #[]
  methods := #[k0m0]
  instanceTypes := #[]
  staticTypes := #[]
  resolved := Array.replicate 124 none
  statics := none }

def pool1 : Array CpInfo := pool [(2, .class_ 4), (1, u "java/lang/Object"), (0, u "<init>"), (0, u "()V"), (0, .integer 2147483647), (0, .methodref 9 10), (0, .class_ 11), (0, .nameAndType 12 13), (0, u "com/example/boot_sealer/bootsealer/rp2350/Block"), (0, u "word"), (0, u "([BI)I"), (0, .class_ 15), (0, u "com/example/boot_sealer/bootsealer/rp2350/BlockWordPinLaw"), (2, u "law"), (0, u "(IJI)Z")] 5

def k1m0 : Method := { name := "<init>", desc := "()V", sig := { parameters := [], returnType := none }, accessFlags := 1, code := none }
def k1c1 : Code := { maxStack := 5, maxLocals := 6, code := code, exceptionTable := #[], attributes := #[] }
def k1m1 : Method := { name := "law", desc := "(IJI)Z", sig := { parameters := [.int, .long, .int], returnType := some .boolean }, accessFlags := 9, code := some k1c1 }
/-- com/example/boot_sealer/bootsealer/rp2350/BlockWordPinLaw -/
def k1 : Class := { plain "com/example/boot_sealer/bootsealer/rp2350/BlockWordPinLaw" (some 0) with
  accessFlags := 49
  interfaces := #[]
  cf := some (fileOf pool1 14 #[] #[{ accessFlags := 1, nameIndex := 5, descriptorIndex := 6, attributes := #[] }, { accessFlags := 9, nameIndex := 18, descriptorIndex := 19, attributes := #[] }] 49 2 #[] #[])
  fields := #[]
  methods := #[k1m0, k1m1]
  instanceTypes := #[]
  staticTypes := #[]
  resolved := Array.replicate 25 none
  statics := none }

def pool2 : Array CpInfo := pool [(2, .class_ 4), (1, u "java/lang/Object"), (3, .class_ 10), (1, u "com/example/boot_sealer/bootsealer/rp2350/Block"), (0, u "offset"), (0, u "I"), (8, u "items"), (0, u "Ljava/util/List;"), (2, u "link"), (6, u "word"), (0, u "([BI)I"), (109, u "START_MARKER"), (2, u "END_MARKER"), (0, u "LAST_ITEM"), (1, u "MAX_IMAGE_DEF_BYTES"), (1, u "TWO_BYTE_SIZE")] 42

def k2c0 : Code := { maxStack := 4, maxLocals := 2, code := prog_29_method_10_code, exceptionTable := #[], attributes := #[] }
def k2m0 : Method := { name := "word", desc := "([BI)I", sig := { parameters := [(.array .byte), .int], returnType := some .int }, accessFlags := 8, code := some k2c0 }
/-- com/example/boot_sealer/bootsealer/rp2350/Block -/
def k2 : Class := { plain "com/example/boot_sealer/bootsealer/rp2350/Block" (some 0) with
  accessFlags := 49
  interfaces := #[]
  cf := some (fileOf pool2 8 #[] #[{ accessFlags := 8, nameIndex := 32, descriptorIndex := 33, attributes := #[] }] 49 2 #[] #[{ accessFlags := 24, nameIndex := 143, descriptorIndex := 12, attributes := #[] }, { accessFlags := 24, nameIndex := 146, descriptorIndex := 12, attributes := #[] }, { accessFlags := 24, nameIndex := 147, descriptorIndex := 12, attributes := #[] }, { accessFlags := 24, nameIndex := 149, descriptorIndex := 12, attributes := #[] }, { accessFlags := 26, nameIndex := 151, descriptorIndex := 12, attributes := #[] }, { accessFlags := 18, nameIndex := 11, descriptorIndex := 12, attributes := #[] }, { accessFlags := 18, nameIndex := 21, descriptorIndex := 22, attributes := #[] }, { accessFlags := 18, nameIndex := 25, descriptorIndex := 12, attributes := #[] }])
  fields := #[{ name := "START_MARKER", type := .int, accessFlags := 24, slot := 0, constantValue := 0 }, { name := "END_MARKER", type := .int, accessFlags := 24, slot := 1, constantValue := 0 }, { name := "LAST_ITEM", type := .int, accessFlags := 24, slot := 2, constantValue := 0 }, { name := "MAX_IMAGE_DEF_BYTES", type := .int, accessFlags := 24, slot := 3, constantValue := 0 }, { name := "TWO_BYTE_SIZE", type := .int, accessFlags := 26, slot := 4, constantValue := 0 }, { name := "offset", type := .int, accessFlags := 18, slot := 0, constantValue := 0 }, { name := "items", type := (.object "java/util/List"), accessFlags := 18, slot := 1, constantValue := 0 }, { name := "link", type := .int, accessFlags := 18, slot := 2, constantValue := 0 }]
  methods := #[k2m0]
  instanceTypes := #[.int, (.object "java/util/List"), .int]
  staticTypes := #[.int, .int, .int, .int, .int]
  resolved := Array.replicate 194 none
  statics := none }

def pool3 : Array CpInfo := pool [(1, u "java/lang/Cloneable"), (0, .class_ 1), (0, u "java/lang/Object"), (0, .class_ 3)] 3

/-- java/lang/Cloneable -/
def k3 : Class := { plain "java/lang/Cloneable" (some 0) with
  accessFlags := 1537
  interfaces := #[]
  cf := some (fileOf pool3 2 #[] #[] 1537 4 #[] #[])
  fields := #[]
  methods := #[]
  instanceTypes := #[]
  staticTypes := #[]
  resolved := Array.replicate 8 none
  statics := none }

def pool4 : Array CpInfo := pool [(1, u "java/io/Serializable"), (0, .class_ 1), (0, u "java/lang/Object"), (0, .class_ 3)] 3

/-- java/io/Serializable -/
def k4 : Class := { plain "java/io/Serializable" (some 0) with
  accessFlags := 1537
  interfaces := #[]
  cf := some (fileOf pool4 2 #[] #[] 1537 4 #[] #[])
  fields := #[]
  methods := #[]
  instanceTypes := #[]
  staticTypes := #[]
  resolved := Array.replicate 8 none
  statics := none }

/-- the primitive byte -/
def k5 : Class := { plain "byte" none with kind := .primitive 'B', accessFlags := 0x411 }
/-- [B -/
def k6 : Class := { plain "[B" (some 0) with kind := .array 5 .byte, interfaces := #[3, 4], accessFlags := 1041 }

/-- the primitive int -/
def k7 : Class := { plain "int" none with kind := .primitive 'I', accessFlags := 0x411 }
/-- [I -/
def k8 : Class := { plain "[I" (some 0) with kind := .array 7 .int, interfaces := #[3, 4], accessFlags := 1041 }

def heap : Heap := #[]
def classes : Array Class := #[k0, k1, k2, k3, k4, k5, k6, k7, k8]
def interned : List (Array UInt16 × Addr) := []
def slotsUsed : Nat := 0
def theMethod : MethodId := ⟨1, 1⟩
def args0 : Array Value := #[.int 90, .long 5, .int 7]
def aboutOver (below : List Frame) : State where
  vm := { classes := classes, interned := interned.toArray }
  heap := heap
  slotsUsed := slotsUsed
  threads := #[{ frames := .invoking theMethod args0 :: below }]
def below0 : List Frame := [.native { method := ⟨0, 0⟩, args := #[] }]
def about1 : State := aboutOver below0
def p0 : Program := .bare "" "" ""
def e0 : Env := launch0.env 0 0 0
theorem w_frames : about1.frames = Frame.invoking theMethod args0 :: below0 := rfl
set_option maxRecDepth 65536 in
theorem w_args : argsFit about1.vm theMethod args0 = true := by decide +kernel
set_option maxRecDepth 65536 in
theorem w_heap : heapFits about1 = true := by decide +kernel
set_option maxRecDepth 65536 in
theorem w_runnable : about1.curStatus? = some .runnable := by decide +kernel
set_option maxRecDepth 65536 in
theorem w_alone : about1.alone = true := by decide +kernel
set_option maxRecDepth 65536 in
theorem w_named : about1.methodNamed? x = some theMethod := by decide +kernel
set_option maxRecDepth 65536 in
theorem w_hears : about1.hears theMethod below0 = true := by decide +kernel
set_option maxRecDepth 65536 in
theorem w_ripe : about1.ripe theMethod args0 below0 = true := by decide +kernel
theorem w_running : about1.status = .running := rfl
set_option maxRecDepth 65536 in
theorem w_room : about1.hasRoom e0.platform room_1 = true :=
  launch0.hasRoom_least _ room_1 (by decide +kernel) (by decide +kernel) (by decide +kernel) (by decide +kernel) (by decide +kernel) (by decide +kernel)
theorem allAtoms_all (ts : List Jvm.Cond) (a : Array Jvm.Value) (st : Jvm.State) : (allAtoms ts).before a st = ts.all (fun c => c.before a st) := by
  induction ts with
  | nil => rfl
  | cons c t ih =>
    show (Jvm.Cond.and c (allAtoms t)).before a st = _
    rw [Jvm.Cond.before_and, ih, List.all_cons]
def words1 : List Jvm.Cond := Jvm.Cond.code x code maxLocals ret :: tables_1
/-- a 'code' word, met by the world's own term for the bytes: nothing is compared byte by byte -/
theorem code_word {y : MethodName} {bytes : ByteArray} {mx : Nat} {rt : Option FieldType} {a : Array Value} {s : State} {m : MethodId} {meth : Method} {c : Code} (h1 : s.methodNamed? y = some m) (h2 : s.vm.method? m = some meth) (h3 : meth.code = some c) (h4 : c.code = bytes)
    (h5 : (c.maxLocals == mx && c.exceptionTable.isEmpty && decide (c.maxStack ≤ mostOperands) && decide (meth.sig.returnType = rt) && !meth.locks && decide (parseMethodDescriptor y.desc = some meth.sig)) = true) : (Jvm.Cond.code y bytes mx rt).before a s = true := by
  simp only [Bool.and_eq_true, beq_iff_eq, Bool.not_eq_true', decide_eq_true_eq] at h5
  obtain ⟨⟨⟨⟨⟨g1, g2⟩, g3⟩, g4⟩, g5⟩, g6⟩ := h5
  simp [Cond.before, Cond.holds, Cond.value, h1, h2, h3, h4, g1, g2, g3, g4, g5, g6]
def isCode : Jvm.Cond → Bool
  | .code _ _ _ _ => true
  | _ => false
theorem all_split {L : List Jvm.Cond} {P : Jvm.Cond → Bool} (h1 : L.all (fun c => isCode c || P c) = true) (h2 : ∀ c ∈ L.filter isCode, P c = true) : L.all P = true := by
  refine List.all_eq_true.mpr fun c hc => ?_
  have h := List.all_eq_true.mp h1 c hc
  rcases Bool.eq_false_or_eq_true (isCode c) with hi | hi
  · exact h2 c (List.mem_filter.mpr ⟨hc, hi⟩)
  · simpa [hi] using h
set_option maxRecDepth 65536 in
theorem w_c0 : (Jvm.Cond.code x code maxLocals ret).before args0 about1 = true := code_word (m := ⟨1, 1⟩) (meth := k1m1) (c := k1c1) (by decide +kernel) rfl rfl rfl (by decide +kernel)
set_option maxRecDepth 65536 in
theorem w_c1 : (Jvm.Cond.code ({ cls := "com/example/boot_sealer/bootsealer/rp2350/Block", name := "word", desc := "([BI)I" } : Jvm.MethodName) prog_29_method_10_code (2 : Nat) (Option.some Jvm.ClassFile.FieldType.int)).before args0 about1 = true := code_word (m := ⟨2, 0⟩) (meth := k2m0) (c := k2c0) (by decide +kernel) rfl rfl rfl (by decide +kernel)
def codes1 : List Jvm.Cond := [Jvm.Cond.code x code maxLocals ret, Jvm.Cond.code ({ cls := "com/example/boot_sealer/bootsealer/rp2350/Block", name := "word", desc := "([BI)I" } : Jvm.MethodName) prog_29_method_10_code (2 : Nat) (Option.some Jvm.ClassFile.FieldType.int)]
set_option maxRecDepth 65536 in
theorem codes_eq : words1.filter isCode = codes1 := rfl
theorem w_codes : ∀ c ∈ words1.filter isCode, c.before args0 about1 = true := by
  rw [codes_eq]
  intro c hc
  simp only [codes1, List.mem_cons, List.not_mem_nil, or_false] at hc
  rcases hc with rfl | rfl
  · exact w_c0
  · exact w_c1
set_option maxRecDepth 65536 in
theorem w_t1 : words1.all (fun c => isCode c || c.before args0 about1) = true := by decide +kernel
theorem w_tables : (allAtoms (Jvm.Cond.code x code maxLocals ret :: tables_1)).before args0 about1 = true := by
  rw [allAtoms_all]
  show words1.all (fun c => c.before args0 about1) = true
  refine all_split ?_ w_codes
  rw [w_t1]
set_option maxRecDepth 65536 in
theorem w_case : (Jvm.Cond.and given_1 narrow_1).before args0 about1 = true := by decide +kernel
theorem w_applies : (headSpec (Jvm.Cond.code x code maxLocals ret :: tables_1) room_1).applies x e0.platform about1 = true :=
  (Spec.applies_iff w_frames).mpr ⟨w_running, w_runnable, w_alone, w_named, w_hears, w_ripe, w_room, w_tables⟩
theorem atStart : AtStart classFile x code maxLocals ret World_1 tables_1 room_1 Calls_1 rest_1 Pre_1 launch0 p0 e0 about1 theMethod args0 below0 :=
  ⟨lists_1, trivial, launch0.admits_env _ _ _, launch0.least_env, fairChoices_fair.cas, fairChoices_fair.clock, w_frames, w_args, w_heap, w_applies, trivial, trivial, w_case⟩
end start1
theorem witness_1 : WitnessClaimed_1 := ⟨start1.p0, start1.e0, start1.about1, start1.theMethod, start1.args0, start1.below0, start1.atStart⟩
end Jvm.Pilot.@@N@@
