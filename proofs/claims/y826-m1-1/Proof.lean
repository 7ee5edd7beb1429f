import JvmDerived
import JvmDerived.Pilot.@@N@@Statement
import JvmDerived.Pilot.@@N@@Code
set_option linter.unusedVariables false
set_option linter.unusedSimpArgs false
namespace Jvm.RoadKit
open Sem ClassFile Op Lib Jvm.Stand Jvm.Free Jvm.LawKit
section New
variable {p : Program} {l : Launch} {e : Env} {R : Room} {s : State} {m : MethodId} {args : Array Value} {below : List Frame} {meth : Method} {c : Code} {T : State} {locs : List Loc} {cells slots : Nat}
theorem retI (X : Stand p l e R s m args below meth c T locs cells slots) (hx : p.tables.exec = Jvm.exec) {pc : Nat} {Ls : Array Slot} {z : Int32} {rest : List Value} (hret : meth.sig.returnType = some .int) (hd : decode c.code pc = .ok (.ireturn, 1)) {fs : List Frame}
    (hl : ∀ (f : JFrame) (acts : List Action), f.method = m → f.locked = none → f.entered = [] → (doReturn e (T.setTop f) acts (some (.int z))).1 = T.setFrames fs) : Steps p.tables e below (T.setTop (mkF m pc Ls (.int z :: rest))) (T.setFrames fs) :=
  retOut X hx (w := .int z) (t := .int) hret rfl (Or.inl ⟨rfl, Or.inl rfl, _, rfl⟩) hd hl
end New
end Jvm.RoadKit
namespace Jvm.Own
open Sem ClassFile Op Lib Jvm.Stand Jvm.Free Jvm.LawKit Jvm.RoadKit
/-- from A on the run comes to B -/
abbrev Go (tb : Tables) (e : Env) (below : List Frame) (A B : State) : Prop := ∀ t, Steps tb e below B t → Steps tb e below A t
theorem lremM {p : Program} {l : Launch} {e : Env} {R : Room} {s : State} {m : MethodId} {args : Array Value} {below : List Frame} {meth : Method} {c : Code} {T : State} {locs : List Loc} {cells slots : Nat} {g : JFrame} {target : State} (X : Stand p l e R s m args below meth c T locs cells slots) (hx : p.tables.exec = Jvm.exec) (hg : g.method = m) {x y : Int64} {rest : List Value} (hd : decode c.code g.pc = .ok (.lrem, 1)) (hs : g.stack = .long y :: .long x :: rest) (hy : y ≠ 0)
    (hr : Steps p.tables e below (T.setTop { g with pc := g.pc + 1, stack := .long (x % y) :: rest }) target) : Steps p.tables e below (T.setTop g) target :=
  XS.lrem X.here hx hg hd hs hy (by rw [lrem_mod]; exact hr)
theorem eqInt {s : State} {args : Array Value} {a : Term} {c : Int32} (h : (Cond.eq a (.int c)).value args s none s [] = some true) : a.eval args s none [] s = some (.int c) := by
  obtain ⟨x, y, hx, hy, k1, k2⟩ := cmp_v (Or.inl h)
  cases hy
  obtain ⟨z, rfl⟩ := k2
  simp [Cond.value, hx, Term.eval] at h
  subst h; exact hx
theorem neqInt {s : State} {args : Array Value} {a : Term} {c x : Int32} (hx : a.eval args s none [] s = some (.int x)) (h : (Cond.not (Cond.eq a (.int c))).value args s none s [] = some true) : ¬ x = c := by
  intro q
  have h2 := not_v h
  subst q
  simp [Cond.value, hx, Term.eval] at h2
theorem elAt {s : State} {args : Array Value} {t u : Term} {a w : Addr} {cl : Cell} {ty : FieldType} {i : Int32} (ht : t.eval args s none [] s = some (.ref a)) (A : Arr s s.heap a cl ty) (h : (Cond.eq (.elem t (.int i)) u).value args s none s [] = some true) (hu : u.eval args s none [] s = some (.ref w)) {j : Nat} (hj : i.toNatClampNeg = j) : cl.slots[j]? = some (.ref w) := by
  obtain ⟨x, y, hx, hy, k1, k2⟩ := cmp_v (Or.inl h)
  rw [hu] at hy; cases hy
  have hr : x.isRef = true := k2.2
  have e := gotT (eq_R hx hu hr rfl) h
  subst e
  have q := (elem_in hx ht (Term.int_eval i) A.1).2
  rw [hj] at q; exact q
theorem arvOf {s : State} {args : Array Value} {t : Term} {a : Addr} {cl : Cell} {ty : FieldType} {z : Int32} {vs : List Value} {dv : Value} (hf : Fit s) (ev : t.eval args s none [] s = some (.ref a)) (A : Arr s s.heap a cl ty) (hl : (Term.length t).eval args s none [] s = some (.int z)) (hz : ¬ z < 0) (hn : z.toNatClampNeg = vs.length) (H : HasL cl 0 vs) : Arv s s.heap a cl.cls ty z vs dv := by
  have ha : s.arrayAt? a = some cl := Arr.fin (Vm.Alike.refl _) A
  by_cases q : cl.slots.size < 2 ^ 31
  · rw [len_f ev ha q] at hl
    cases hl
    exact Arv.start hf A q rfl hz hn H
  · simp [Term.eval, ev, ha, q] at hl
theorem selPriv {s : State} {args : Array Value} {C : String} {z y : MethodName} (w : (Cond.selects C z z).before args s = true) (hc : z.cls = y.cls) (hp : s.PrivateAt y) (hi : (Cond.instanceMethod y).before args s = true) (hy : y.cls ≠ "java/lang/invoke/MethodHandle" ∧ y.cls ≠ "java/lang/invoke/VarHandle") : (Cond.selects y.cls y y).before args s = true := by
  obtain ⟨c2, r2, m2, -, -, q3, -, kP, hkP, hkPi⟩ := Cond.selects_spec w
  exact selects_self_of_private (hc ▸ findClass_of_methodNamed q3) hkP hkPi hp hi hy
end Jvm.Own
namespace Jvm.Pilot.@@N@@
open Jvm Jvm.ClassFile Sem Op Lib Jvm.Free Jvm.Stand Jvm.LawKit Jvm.RoadKit Jvm.Own Bundle Jvm.Pilot.@@N@@.Jvm.D
theorem own_w {Z : State} {a0 : Array Value} (hw : ∀ d ∈ tables_1, d.before a0 Z = true) (i : Nat) {d : Jvm.Cond} (h : tables_1[i]? = some d) : d.before a0 Z = true := hw _ (List.mem_of_getElem? h)
theorem own_xs (x : BitVec 64) (k : Nat) (h : 64 ≤ 3 * k) : ((x ^^^ (x >>> k)) ^^^ ((x ^^^ (x >>> k)) >>> k)) ^^^ ((x ^^^ (x >>> k)) >>> (2 * k)) = x := by
  apply BitVec.eq_of_getLsbD_eq
  intro i hi
  simp only [BitVec.getLsbD_xor, BitVec.getLsbD_ushiftRight]
  have h1 : k + (k + i) = 2 * k + i := by omega
  have h2 : x.getLsbD (k + (2 * k + i)) = false := BitVec.getLsbD_of_ge _ _ (by omega)
  rw [h1, h2]
  cases x.getLsbD i <;> cases x.getLsbD (k + i) <;> cases x.getLsbD (2 * k + i) <;> rfl
def own_f (k : UInt64) (x : Int64) : Int64 := x ^^^ (x.toUInt64 >>> k).toInt64
def own_g (k j : UInt64) (x : Int64) : Int64 := (x ^^^ (x.toUInt64 >>> k).toInt64) ^^^ (x.toUInt64 >>> j).toInt64
theorem own_fb (k : UInt64) (x : Int64) : (own_f k x).toBitVec = x.toBitVec ^^^ (x.toBitVec >>> (k.toNat % 64)) := by
  simp [own_f]
theorem own_gb (k j : UInt64) (x : Int64) : (own_g k j x).toBitVec = (x.toBitVec ^^^ (x.toBitVec >>> (k.toNat % 64))) ^^^ (x.toBitVec >>> (j.toNat % 64)) := by
  simp [own_g]
theorem own_gf (k j : UInt64) (x : Int64) (h : 64 ≤ 3 * (k.toNat % 64)) (hj : j.toNat % 64 = 2 * (k.toNat % 64)) : own_g k j (own_f k x) = x := by
  apply Int64.toBitVec_inj.mp
  rw [own_gb, own_fb, hj, own_xs _ _ h]
def own_nw (c x : Int64) : Int64 := x * (2 - c * x)
def own_inv (c : Int64) : Int64 := own_nw c (own_nw c (own_nw c (own_nw c (own_nw c (own_nw c c)))))
def own_mix (z : Int64) : Int64 := own_f 31 (own_f 27 (own_f 30 z * (-4658895280553007687 : Int64)) * (-7723592293110705685 : Int64))
def own_unmix (z : Int64) : Int64 := own_g 30 60 (own_g 27 54 (own_g 31 62 z * own_inv (-7723592293110705685 : Int64)) * own_inv (-4658895280553007687 : Int64))
theorem own_i1 : (-7723592293110705685 : Int64) * own_inv (-7723592293110705685 : Int64) = 1 := by decide +kernel
theorem own_i2 : (-4658895280553007687 : Int64) * own_inv (-4658895280553007687 : Int64) = 1 := by decide +kernel
theorem own_um (z : Int64) : own_unmix (own_mix z) = z := by
  unfold own_unmix own_mix
  rw [own_gf 31 62 _ (by decide) (by decide), Int64.mul_assoc, own_i1, Int64.mul_one, own_gf 27 54 _ (by decide) (by decide), Int64.mul_assoc, own_i2, Int64.mul_one, own_gf 30 60 _ (by decide) (by decide)]

theorem d1_0 : decode prog_5_method_1_code 0 = .ok (.aload_n 0, 1) := by decide +kernel
theorem d1_1 : decode prog_5_method_1_code 1 = .ok (.invokespecial 1, 3) := by decide +kernel
theorem d1_4 : decode prog_5_method_1_code 4 = .ok (.aload_n 0, 1) := by decide +kernel
theorem d1_5 : decode prog_5_method_1_code 5 = .ok (.lload_n 1, 1) := by decide +kernel
theorem d1_6 : decode prog_5_method_1_code 6 = .ok (.putfield 7, 3) := by decide +kernel
theorem d1_9 : decode prog_5_method_1_code 9 = .ok (.return_, 1) := by decide +kernel
theorem pn1 : plainFor (⟨"com/example/arcward/arcward/generator/SplitMix", "<init>", "(J)V"⟩ : MethodName) = true := plainFor_of_name (by first | (simp [plainName, overriddenIn]; done) | decide +kernel)
theorem ef_rm1 (m : MethodId) (a1 : Addr) (q2 : Int64) : entryFrame m #[(.ref a1), (.long q2)] 3 = mkF m 0 #[.val (.ref a1), .val (.long q2), .second] [] := by first | (simp [entryFrame, mkF, argsToLocals, Value.category]; done) | rfl
def Q1 (Z : State) (a1 : Addr) (q2 : Int64) (h0 : Heap) (n0 : Nat) (v : Option Value) (h : Heap) (L : List Loc) : Prop := v = none ∧ Fr n0 L ∧ (Keep h0 h [a1]) ∧ (Exa Z h a1 "com/example/arcward/arcward/generator/SplitMix") ∧ (Fld Z h a1 "com/example/arcward/arcward/generator/SplitMix" "state" "J" (.long q2))
set_option maxRecDepth 65536 in
set_option maxHeartbeats 40000000 in
theorem rm1 (l : Launch) (Z : State) (a0 : Array Value) (hw : ∀ d ∈ tables_1, d.before a0 Z = true) (ws : List Jvm.Cond) (a1 : Addr) (q2 : Int64) (h0 : Heap) (n0 : Nat) (Z0 : n0 ≤ h0.size) (Fs : Fld Z h0 a1 "com/example/arcward/arcward/generator/SplitMix" "state" "J" (.long (0 : Int64))) (E1 : Exa Z h0 a1 "com/example/arcward/arcward/generator/SplitMix") (g1 : n0 ≤ a1) :
    MetFree l (⟨"com/example/arcward/arcward/generator/SplitMix", "<init>", "(J)V"⟩ : MethodName) (head1 (Jvm.Cond.code (⟨"com/example/arcward/arcward/generator/SplitMix", "<init>", "(J)V"⟩ : MethodName) prog_5_method_1_code 3 none :: ws) ({ frames := 1, cells := 0, slots := 0, locals := 12 } : Room)) (fun a U => a = #[(.ref a1), (.long q2)] ∧ Z.Warmed39 U.vm ∧ U.heap = h0) (fun _ _ _ _ _ => True) (fun _ U o U' => ∃ v L, o = .returned v ∧ Q1 Z a1 q2 h0 n0 v U'.heap L ∧ FrameEnd U o U' L ({ frames := 1, cells := 0, slots := 0, locals := 12 } : Room).cells ({ frames := 1, cells := 0, slots := 0, locals := 12 } : Room).slots) := by
  refine MetFree.of_bodySF pn1 hisR ?_
  intro p e s m args below meth c s₁ Bd hml0 hP hK
  obtain ⟨rfl, hZ, hh⟩ := hP
  have hx := Bd.exec
  have hby := Bd.bytes
  have hml : c.maxLocals = 3 := hml0
  have hown : s.vm.findClass "com/example/arcward/arcward/generator/SplitMix" = some m.cls := findClass_of_methodNamed Bd.named
  have hnm := (name_of_methodNamed Bd.named Bd.method).1
  have X0 : Stand p l e ({ frames := 1, cells := 0, slots := 0, locals := 12 } : Room) s m #[(.ref a1), (.long q2)] below meth c s₁ [] 0 0 := Stand.of_body Bd
  have e0 : s₁.heap = h0 := by rw [← hh, Bd.state]; rfl
  have N0 := Fr.nil n0
  have p0 : Go p.tables e below (s₁.setTop (entryFrame m #[(.ref a1), (.long q2)] 3)) (s₁.setTop (mkF m 0 #[.val (.ref a1), .val (.long q2), .second] [])) := fun t k => castTop (ef_rm1 m a1 q2) k
  have p101 : Go p.tables e below _ (s₁.setTop (mkF m 1 #[.val (.ref a1), .val (.long q2), .second] [(.ref a1)])) := fun t k => p0 t (by
    show Steps p.tables e below (s₁.setTop (mkF m 0 #[.val (.ref a1), .val (.long q2), .second] [])) _
    refine XS.aloadN X0.here hx rfl (hb hby d1_0) rfl rfl ?_
    show Steps p.tables e below (s₁.setTop (mkF m 1 #[.val (.ref a1), .val (.long q2), .second] [(.ref a1)])) _
    exact k)
  obtain ⟨T102, X102, e102, st102⟩ := initO X0 hx hZ hown (own_w hw 6 rfl) (own_w hw 7 rfl) (own_w hw 8 rfl) e0 (g := (mkF m 1 #[.val (.ref a1), .val (.long q2), .second] [(.ref a1)])) rfl (by rw [hml]; rfl) rfl (hb hby d1_1) (by decide) (W := 0) (by show 2 * 0 + _ ≤ _; exact Nat.le_of_eq rfl) (by decide)
  have p103 : Go p.tables e below _ (T102.setTop (mkF m 4 #[.val (.ref a1), .val (.long q2), .second] [])) := fun t k => p101 t (st102 t k)
  have p104 : Go p.tables e below _ (T102.setTop (mkF m 6 #[.val (.ref a1), .val (.long q2), .second] [(.long q2), (.ref a1)])) := fun t k => p103 t (by
    show Steps p.tables e below (T102.setTop (mkF m 4 #[.val (.ref a1), .val (.long q2), .second] [])) _
    refine XS.aloadN X102.here hx rfl (hb hby d1_4) rfl rfl ?_
    show Steps p.tables e below (T102.setTop (mkF m 5 #[.val (.ref a1), .val (.long q2), .second] [(.ref a1)])) _
    refine XS.lloadN X102.here hx rfl (hb hby d1_5) rfl ?_
    show Steps p.tables e below (T102.setTop (mkF m 6 #[.val (.ref a1), .val (.long q2), .second] [(.long q2), (.ref a1)])) _
    exact k)
  obtain ⟨T105, h105, X105, e105, W105, st105⟩ := putF X102 hx hZ hown (host := "") (Or.inl (own_w hw 9 rfl)) Via.refl e102 Fs E1 (Or.inl (own_w hw 10 rfl)) (own_w hw 1 rfl) (ty := .long) (by decide) rfl rfl (g := (mkF m 6 #[.val (.ref a1), .val (.long q2), .second] [(.long q2), (.ref a1)])) rfl rfl (hb hby d1_6)
  have K106 : Keep h0 h105 [a1] := (Keep.refl h0 [a1]).wr W105 (Or.inl (List.mem_of_getElem? (i := 0) rfl))
  have N105 := Fr.snoc X105 N0 g1
  have p107 : Go p.tables e below _ (T105.setTop (mkF m 9 #[.val (.ref a1), .val (.long q2), .second] [])) := fun t k => p104 t (st105 t k)
  have F105 : Fld Z h105 a1 "com/example/arcward/arcward/generator/SplitMix" "state" "J" (.long q2) := Fs.same W105
  have f108 := (E1.wr W105)
  obtain ⟨fs, hr, hrun, hended, hW, hsame⟩ := X105.leave (v := none) (fun _ => rfl)
  refine ⟨_, _, p107 _ (X105.returnOut hx Bd.returns (hb hby d1_9) hr), hrun, hended, _, _, rfl, ?_, ⟨_, rfl⟩, hW, hsame.mono (by decide) (by decide)⟩
  show Q1 Z a1 q2 h0 n0 _ T105.heap _
  rw [e105]
  exact ⟨rfl, N105, K106, f108, F105⟩
theorem d3_0 : decode prog_5_method_2_code 0 = .ok (.aload_n 0, 1) := by decide +kernel
theorem d3_1 : decode prog_5_method_2_code 1 = .ok (.dup, 1) := by decide +kernel
theorem d3_2 : decode prog_5_method_2_code 2 = .ok (.getfield 7, 3) := by decide +kernel
theorem d3_5 : decode prog_5_method_2_code 5 = .ok (.ldc2_w 13, 3) := by decide +kernel
theorem d3_8 : decode prog_5_method_2_code 8 = .ok (.ladd, 1) := by decide +kernel
theorem d3_9 : decode prog_5_method_2_code 9 = .ok (.putfield 7, 3) := by decide +kernel
theorem d3_12 : decode prog_5_method_2_code 12 = .ok (.aload_n 0, 1) := by decide +kernel
theorem d3_13 : decode prog_5_method_2_code 13 = .ok (.getfield 7, 3) := by decide +kernel
theorem d3_16 : decode prog_5_method_2_code 16 = .ok (.lstore_n 1, 1) := by decide +kernel
theorem d3_17 : decode prog_5_method_2_code 17 = .ok (.lload_n 1, 1) := by decide +kernel
theorem d3_18 : decode prog_5_method_2_code 18 = .ok (.lload_n 1, 1) := by decide +kernel
theorem d3_19 : decode prog_5_method_2_code 19 = .ok (.bipush 30, 2) := by decide +kernel
theorem d3_21 : decode prog_5_method_2_code 21 = .ok (.lushr, 1) := by decide +kernel
theorem d3_22 : decode prog_5_method_2_code 22 = .ok (.lxor, 1) := by decide +kernel
theorem d3_23 : decode prog_5_method_2_code 23 = .ok (.ldc2_w 15, 3) := by decide +kernel
theorem d3_26 : decode prog_5_method_2_code 26 = .ok (.lmul, 1) := by decide +kernel
theorem d3_27 : decode prog_5_method_2_code 27 = .ok (.lstore_n 1, 1) := by decide +kernel
theorem d3_28 : decode prog_5_method_2_code 28 = .ok (.lload_n 1, 1) := by decide +kernel
theorem d3_29 : decode prog_5_method_2_code 29 = .ok (.lload_n 1, 1) := by decide +kernel
theorem d3_30 : decode prog_5_method_2_code 30 = .ok (.bipush 27, 2) := by decide +kernel
theorem d3_32 : decode prog_5_method_2_code 32 = .ok (.lushr, 1) := by decide +kernel
theorem d3_33 : decode prog_5_method_2_code 33 = .ok (.lxor, 1) := by decide +kernel
theorem d3_34 : decode prog_5_method_2_code 34 = .ok (.ldc2_w 17, 3) := by decide +kernel
theorem d3_37 : decode prog_5_method_2_code 37 = .ok (.lmul, 1) := by decide +kernel
theorem d3_38 : decode prog_5_method_2_code 38 = .ok (.lstore_n 1, 1) := by decide +kernel
theorem d3_39 : decode prog_5_method_2_code 39 = .ok (.lload_n 1, 1) := by decide +kernel
theorem d3_40 : decode prog_5_method_2_code 40 = .ok (.lload_n 1, 1) := by decide +kernel
theorem d3_41 : decode prog_5_method_2_code 41 = .ok (.bipush 31, 2) := by decide +kernel
theorem d3_43 : decode prog_5_method_2_code 43 = .ok (.lushr, 1) := by decide +kernel
theorem d3_44 : decode prog_5_method_2_code 44 = .ok (.lxor, 1) := by decide +kernel
theorem d3_45 : decode prog_5_method_2_code 45 = .ok (.lreturn, 1) := by decide +kernel
theorem pn3 : plainFor (⟨"com/example/arcward/arcward/generator/SplitMix", "next", "()J"⟩ : MethodName) = true := plainFor_of_name (by first | (simp [plainName, overriddenIn]; done) | decide +kernel)
theorem ef_rm3 (m : MethodId) (a1 : Addr) (q2 : Int64) : entryFrame m #[(.ref a1)] 3 = mkF m 0 #[.val (.ref a1), .unset, .unset] [] := by first | (simp [entryFrame, mkF, argsToLocals, Value.category]; done) | rfl
def Q3 (Z : State) (a1 : Addr) (q2 : Int64) (h0 : Heap) (n0 : Nat) (v : Option Value) (h : Heap) (L : List Loc) : Prop := v = some (.long (own_mix (q2 + (-7046029254386353131 : Int64)))) ∧ Fr n0 L ∧ (Keep h0 h [a1]) ∧ (Exa Z h a1 "com/example/arcward/arcward/generator/SplitMix") ∧ (Fld Z h a1 "com/example/arcward/arcward/generator/SplitMix" "state" "J" (.long (q2 + (-7046029254386353131 : Int64))))
set_option maxRecDepth 65536 in
set_option maxHeartbeats 40000000 in
theorem rm3 (l : Launch) (Z : State) (a0 : Array Value) (hw : ∀ d ∈ tables_1, d.before a0 Z = true) (ws : List Jvm.Cond) (a1 : Addr) (q2 : Int64) (h0 : Heap) (n0 : Nat) (Z0 : n0 ≤ h0.size) (Fs : Fld Z h0 a1 "com/example/arcward/arcward/generator/SplitMix" "state" "J" (.long q2)) (E1 : Exa Z h0 a1 "com/example/arcward/arcward/generator/SplitMix") (g1 : n0 ≤ a1) :
    MetFree l (⟨"com/example/arcward/arcward/generator/SplitMix", "next", "()J"⟩ : MethodName) (head1 (Jvm.Cond.code (⟨"com/example/arcward/arcward/generator/SplitMix", "next", "()J"⟩ : MethodName) prog_5_method_2_code 3 (some .long) :: ws) ({ frames := 0, cells := 0, slots := 0, locals := 0 } : Room)) (fun a U => a = #[(.ref a1)] ∧ Z.Warmed39 U.vm ∧ U.heap = h0) (fun _ _ _ _ _ => True) (fun _ U o U' => ∃ v L, o = .returned v ∧ Q3 Z a1 q2 h0 n0 v U'.heap L ∧ FrameEnd U o U' L ({ frames := 0, cells := 0, slots := 0, locals := 0 } : Room).cells ({ frames := 0, cells := 0, slots := 0, locals := 0 } : Room).slots) := by
  refine MetFree.of_bodySF pn3 hisR ?_
  intro p e s m args below meth c s₁ Bd hml0 hP hK
  obtain ⟨rfl, hZ, hh⟩ := hP
  have hx := Bd.exec
  have hby := Bd.bytes
  have hml : c.maxLocals = 3 := hml0
  have hown : s.vm.findClass "com/example/arcward/arcward/generator/SplitMix" = some m.cls := findClass_of_methodNamed Bd.named
  have hnm := (name_of_methodNamed Bd.named Bd.method).1
  have X0 : Stand p l e ({ frames := 0, cells := 0, slots := 0, locals := 0 } : Room) s m #[(.ref a1)] below meth c s₁ [] 0 0 := Stand.of_body Bd
  have e0 : s₁.heap = h0 := by rw [← hh, Bd.state]; rfl
  have N0 := Fr.nil n0
  have p0 : Go p.tables e below (s₁.setTop (entryFrame m #[(.ref a1)] 3)) (s₁.setTop (mkF m 0 #[.val (.ref a1), .unset, .unset] [])) := fun t k => castTop (ef_rm3 m a1 q2) k
  have p101 : Go p.tables e below _ (s₁.setTop (mkF m 2 #[.val (.ref a1), .unset, .unset] [(.ref a1), (.ref a1)])) := fun t k => p0 t (by
    show Steps p.tables e below (s₁.setTop (mkF m 0 #[.val (.ref a1), .unset, .unset] [])) _
    refine XS.aloadN X0.here hx rfl (hb hby d3_0) rfl rfl ?_
    show Steps p.tables e below (s₁.setTop (mkF m 1 #[.val (.ref a1), .unset, .unset] [(.ref a1)])) _
    refine XS.dup X0.here hx rfl (hb hby d3_1) rfl rfl ?_
    show Steps p.tables e below (s₁.setTop (mkF m 2 #[.val (.ref a1), .unset, .unset] [(.ref a1), (.ref a1)])) _
    exact k)
  obtain ⟨T102, X102, e102, st102⟩ := getF X0 hx hZ hown (host := "") (Or.inl (own_w hw 9 rfl)) Via.refl e0 Fs (g := (mkF m 2 #[.val (.ref a1), .unset, .unset] [(.ref a1), (.ref a1)])) rfl rfl (hb hby d3_2)
  have p103 : Go p.tables e below _ (T102.setTop (mkF m 5 #[.val (.ref a1), .unset, .unset] [(.long q2), (.ref a1)])) := fun t k => p101 t (st102 t k)
  have p104 : Go p.tables e below _ (T102.setTop (mkF m 9 #[.val (.ref a1), .unset, .unset] [(.long (q2 + (-7046029254386353131 : Int64))), (.ref a1)])) := fun t k => p103 t (by
    show Steps p.tables e below (T102.setTop (mkF m 5 #[.val (.ref a1), .unset, .unset] [(.long q2), (.ref a1)])) _
    refine X102.ldc2Long hx hown (mvT hZ (own_w hw 16 rfl)) (g := (mkF m 5 #[.val (.ref a1), .unset, .unset] [(.long q2), (.ref a1)])) rfl (hb hby d3_5) _ ?_
    show Steps p.tables e below (T102.setTop (mkF m 8 #[.val (.ref a1), .unset, .unset] [(.long (-7046029254386353131 : Int64)), (.long q2), (.ref a1)])) _
    refine XS.ladd X102.here hx rfl (hb hby d3_8) rfl ?_
    show Steps p.tables e below (T102.setTop (mkF m 9 #[.val (.ref a1), .unset, .unset] [(.long (q2 + (-7046029254386353131 : Int64))), (.ref a1)])) _
    exact k)
  obtain ⟨T105, h105, X105, e105, W105, st105⟩ := putF X102 hx hZ hown (host := "") (Or.inl (own_w hw 9 rfl)) Via.refl e102 Fs E1 (Or.inl (own_w hw 10 rfl)) (own_w hw 1 rfl) (ty := .long) (by decide) rfl rfl (g := (mkF m 9 #[.val (.ref a1), .unset, .unset] [(.long (q2 + (-7046029254386353131 : Int64))), (.ref a1)])) rfl rfl (hb hby d3_9)
  have K106 : Keep h0 h105 [a1] := (Keep.refl h0 [a1]).wr W105 (Or.inl (List.mem_of_getElem? (i := 0) rfl))
  have N105 := Fr.snoc X105 N0 g1
  have p107 : Go p.tables e below _ (T105.setTop (mkF m 12 #[.val (.ref a1), .unset, .unset] [])) := fun t k => p104 t (st105 t k)
  have F105 : Fld Z h105 a1 "com/example/arcward/arcward/generator/SplitMix" "state" "J" (.long (q2 + (-7046029254386353131 : Int64))) := Fs.same W105
  have p108 : Go p.tables e below _ (T105.setTop (mkF m 13 #[.val (.ref a1), .unset, .unset] [(.ref a1)])) := fun t k => p107 t (by
    show Steps p.tables e below (T105.setTop (mkF m 12 #[.val (.ref a1), .unset, .unset] [])) _
    refine XS.aloadN X105.here hx rfl (hb hby d3_12) rfl rfl ?_
    show Steps p.tables e below (T105.setTop (mkF m 13 #[.val (.ref a1), .unset, .unset] [(.ref a1)])) _
    exact k)
  obtain ⟨T109, X109, e109, st109⟩ := getF X105 hx hZ hown (host := "") (Or.inl (own_w hw 9 rfl)) Via.refl e105 F105 (g := (mkF m 13 #[.val (.ref a1), .unset, .unset] [(.ref a1)])) rfl rfl (hb hby d3_13)
  have p110 : Go p.tables e below _ (T109.setTop (mkF m 16 #[.val (.ref a1), .unset, .unset] [(.long (q2 + (-7046029254386353131 : Int64)))])) := fun t k => p108 t (st109 t k)
  have p112 : Go p.tables e below _ (T109.setTop (mkF m 17 #[.val (.ref a1), .val (.long (q2 + (-7046029254386353131 : Int64))), .second] [])) := fun t k => p110 t (by
    show Steps p.tables e below (T109.setTop (mkF m 16 #[.val (.ref a1), .unset, .unset] [(.long (q2 + (-7046029254386353131 : Int64)))])) _
    refine XS.lstoreN X109.here hx rfl (hb hby d3_16) rfl (l' := #[.val (.ref a1), .val (.long (q2 + (-7046029254386353131 : Int64))), .second]) rfl ?_
    show Steps p.tables e below (T109.setTop (mkF m 17 #[.val (.ref a1), .val (.long (q2 + (-7046029254386353131 : Int64))), .second] [])) _
    exact k)
  obtain ⟨v111, hv111⟩ : ∃ z, z = (q2 + (-7046029254386353131 : Int64)) := ⟨_, rfl⟩
  have p113 : Go p.tables e below (s₁.setTop (entryFrame m #[(.ref a1)] 3)) (T109.setTop (mkF m 17 #[.val (.ref a1), .val (.long v111), .second] [])) := by rw [hv111]; exact p112
  have p115 : Go p.tables e below _ (T109.setTop (mkF m 28 #[.val (.ref a1), .val (.long ((v111 ^^^ ((v111.toUInt64 >>> (30 : UInt64)).toInt64)) * (-4658895280553007687 : Int64))), .second] [])) := fun t k => p113 t (by
    show Steps p.tables e below (T109.setTop (mkF m 17 #[.val (.ref a1), .val (.long v111), .second] [])) _
    refine XS.lloadN X109.here hx rfl (hb hby d3_17) rfl ?_
    show Steps p.tables e below (T109.setTop (mkF m 18 #[.val (.ref a1), .val (.long v111), .second] [(.long v111)])) _
    refine XS.lloadN X109.here hx rfl (hb hby d3_18) rfl ?_
    show Steps p.tables e below (T109.setTop (mkF m 19 #[.val (.ref a1), .val (.long v111), .second] [(.long v111), (.long v111)])) _
    refine XS.bipush X109.here hx rfl (hb hby d3_19) ?_
    show Steps p.tables e below (T109.setTop (mkF m 21 #[.val (.ref a1), .val (.long v111), .second] [(.int (30 : Int32)), (.long v111), (.long v111)])) _
    refine XS.lushr X109.here hx rfl (hb hby d3_21) rfl ?_
    show Steps p.tables e below (T109.setTop (mkF m 22 #[.val (.ref a1), .val (.long v111), .second] [(.long ((v111.toUInt64 >>> (30 : UInt64)).toInt64)), (.long v111)])) _
    refine XS.lxor X109.here hx rfl (hb hby d3_22) rfl ?_
    show Steps p.tables e below (T109.setTop (mkF m 23 #[.val (.ref a1), .val (.long v111), .second] [(.long (v111 ^^^ ((v111.toUInt64 >>> (30 : UInt64)).toInt64)))])) _
    refine X109.ldc2Long hx hown (mvT hZ (own_w hw 17 rfl)) (g := (mkF m 23 #[.val (.ref a1), .val (.long v111), .second] [(.long (v111 ^^^ ((v111.toUInt64 >>> (30 : UInt64)).toInt64)))])) rfl (hb hby d3_23) _ ?_
    show Steps p.tables e below (T109.setTop (mkF m 26 #[.val (.ref a1), .val (.long v111), .second] [(.long (-4658895280553007687 : Int64)), (.long (v111 ^^^ ((v111.toUInt64 >>> (30 : UInt64)).toInt64)))])) _
    refine XS.lmul X109.here hx rfl (hb hby d3_26) rfl ?_
    show Steps p.tables e below (T109.setTop (mkF m 27 #[.val (.ref a1), .val (.long v111), .second] [(.long ((v111 ^^^ ((v111.toUInt64 >>> (30 : UInt64)).toInt64)) * (-4658895280553007687 : Int64)))])) _
    refine XS.lstoreN X109.here hx rfl (hb hby d3_27) rfl (l' := #[.val (.ref a1), .val (.long ((v111 ^^^ ((v111.toUInt64 >>> (30 : UInt64)).toInt64)) * (-4658895280553007687 : Int64))), .second]) rfl ?_
    show Steps p.tables e below (T109.setTop (mkF m 28 #[.val (.ref a1), .val (.long ((v111 ^^^ ((v111.toUInt64 >>> (30 : UInt64)).toInt64)) * (-4658895280553007687 : Int64))), .second] [])) _
    exact k)
  obtain ⟨v114, hv114⟩ : ∃ z, z = ((v111 ^^^ ((v111.toUInt64 >>> (30 : UInt64)).toInt64)) * (-4658895280553007687 : Int64)) := ⟨_, rfl⟩
  have p116 : Go p.tables e below (s₁.setTop (entryFrame m #[(.ref a1)] 3)) (T109.setTop (mkF m 28 #[.val (.ref a1), .val (.long v114), .second] [])) := by rw [hv114]; exact p115
  have p118 : Go p.tables e below _ (T109.setTop (mkF m 39 #[.val (.ref a1), .val (.long ((v114 ^^^ ((v114.toUInt64 >>> (27 : UInt64)).toInt64)) * (-7723592293110705685 : Int64))), .second] [])) := fun t k => p116 t (by
    show Steps p.tables e below (T109.setTop (mkF m 28 #[.val (.ref a1), .val (.long v114), .second] [])) _
    refine XS.lloadN X109.here hx rfl (hb hby d3_28) rfl ?_
    show Steps p.tables e below (T109.setTop (mkF m 29 #[.val (.ref a1), .val (.long v114), .second] [(.long v114)])) _
    refine XS.lloadN X109.here hx rfl (hb hby d3_29) rfl ?_
    show Steps p.tables e below (T109.setTop (mkF m 30 #[.val (.ref a1), .val (.long v114), .second] [(.long v114), (.long v114)])) _
    refine XS.bipush X109.here hx rfl (hb hby d3_30) ?_
    show Steps p.tables e below (T109.setTop (mkF m 32 #[.val (.ref a1), .val (.long v114), .second] [(.int (27 : Int32)), (.long v114), (.long v114)])) _
    refine XS.lushr X109.here hx rfl (hb hby d3_32) rfl ?_
    show Steps p.tables e below (T109.setTop (mkF m 33 #[.val (.ref a1), .val (.long v114), .second] [(.long ((v114.toUInt64 >>> (27 : UInt64)).toInt64)), (.long v114)])) _
    refine XS.lxor X109.here hx rfl (hb hby d3_33) rfl ?_
    show Steps p.tables e below (T109.setTop (mkF m 34 #[.val (.ref a1), .val (.long v114), .second] [(.long (v114 ^^^ ((v114.toUInt64 >>> (27 : UInt64)).toInt64)))])) _
    refine X109.ldc2Long hx hown (mvT hZ (own_w hw 18 rfl)) (g := (mkF m 34 #[.val (.ref a1), .val (.long v114), .second] [(.long (v114 ^^^ ((v114.toUInt64 >>> (27 : UInt64)).toInt64)))])) rfl (hb hby d3_34) _ ?_
    show Steps p.tables e below (T109.setTop (mkF m 37 #[.val (.ref a1), .val (.long v114), .second] [(.long (-7723592293110705685 : Int64)), (.long (v114 ^^^ ((v114.toUInt64 >>> (27 : UInt64)).toInt64)))])) _
    refine XS.lmul X109.here hx rfl (hb hby d3_37) rfl ?_
    show Steps p.tables e below (T109.setTop (mkF m 38 #[.val (.ref a1), .val (.long v114), .second] [(.long ((v114 ^^^ ((v114.toUInt64 >>> (27 : UInt64)).toInt64)) * (-7723592293110705685 : Int64)))])) _
    refine XS.lstoreN X109.here hx rfl (hb hby d3_38) rfl (l' := #[.val (.ref a1), .val (.long ((v114 ^^^ ((v114.toUInt64 >>> (27 : UInt64)).toInt64)) * (-7723592293110705685 : Int64))), .second]) rfl ?_
    show Steps p.tables e below (T109.setTop (mkF m 39 #[.val (.ref a1), .val (.long ((v114 ^^^ ((v114.toUInt64 >>> (27 : UInt64)).toInt64)) * (-7723592293110705685 : Int64))), .second] [])) _
    exact k)
  obtain ⟨v117, hv117⟩ : ∃ z, z = ((v114 ^^^ ((v114.toUInt64 >>> (27 : UInt64)).toInt64)) * (-7723592293110705685 : Int64)) := ⟨_, rfl⟩
  have p119 : Go p.tables e below (s₁.setTop (entryFrame m #[(.ref a1)] 3)) (T109.setTop (mkF m 39 #[.val (.ref a1), .val (.long v117), .second] [])) := by rw [hv117]; exact p118
  have p120 : Go p.tables e below _ (T109.setTop (mkF m 45 #[.val (.ref a1), .val (.long v117), .second] [(.long (v117 ^^^ ((v117.toUInt64 >>> (31 : UInt64)).toInt64)))])) := fun t k => p119 t (by
    show Steps p.tables e below (T109.setTop (mkF m 39 #[.val (.ref a1), .val (.long v117), .second] [])) _
    refine XS.lloadN X109.here hx rfl (hb hby d3_39) rfl ?_
    show Steps p.tables e below (T109.setTop (mkF m 40 #[.val (.ref a1), .val (.long v117), .second] [(.long v117)])) _
    refine XS.lloadN X109.here hx rfl (hb hby d3_40) rfl ?_
    show Steps p.tables e below (T109.setTop (mkF m 41 #[.val (.ref a1), .val (.long v117), .second] [(.long v117), (.long v117)])) _
    refine XS.bipush X109.here hx rfl (hb hby d3_41) ?_
    show Steps p.tables e below (T109.setTop (mkF m 43 #[.val (.ref a1), .val (.long v117), .second] [(.int (31 : Int32)), (.long v117), (.long v117)])) _
    refine XS.lushr X109.here hx rfl (hb hby d3_43) rfl ?_
    show Steps p.tables e below (T109.setTop (mkF m 44 #[.val (.ref a1), .val (.long v117), .second] [(.long ((v117.toUInt64 >>> (31 : UInt64)).toInt64)), (.long v117)])) _
    refine XS.lxor X109.here hx rfl (hb hby d3_44) rfl ?_
    show Steps p.tables e below (T109.setTop (mkF m 45 #[.val (.ref a1), .val (.long v117), .second] [(.long (v117 ^^^ ((v117.toUInt64 >>> (31 : UInt64)).toInt64)))])) _
    exact k)
  have f121 := (E1.wr W105)
  obtain ⟨fs, hr, hrun, hended, hW, hsame⟩ := X109.leave (v := some (.long (v117 ^^^ ((v117.toUInt64 >>> (31 : UInt64)).toInt64)))) (fun h => by rw [Bd.returns] at h; cases h)
  refine ⟨_, _, p120 _ (retOut X109 hx (w := (.long (v117 ^^^ ((v117.toUInt64 >>> (31 : UInt64)).toInt64)))) (t := .long) (i := .lreturn) Bd.returns rfl (Or.inr (Or.inl ⟨rfl, rfl, _, rfl⟩)) (hb hby d3_45) hr), hrun, hended, _, _, rfl, ?_, ⟨_, rfl⟩, hW, hsame.mono (by decide) (by decide)⟩
  show Q3 Z a1 q2 h0 n0 _ T109.heap _
  rw [e109]
  exact ⟨by subst hv111 hv114 hv117; rfl, N105, K106, f121, F105⟩
theorem d5_0 : decode method_3_code 0 = .ok (.lload_n 0, 1) := by decide +kernel
theorem d5_1 : decode method_3_code 1 = .ok (.lstore_n 2, 1) := by decide +kernel
theorem d5_2 : decode method_3_code 2 = .ok (.lload_n 2, 1) := by decide +kernel
theorem d5_3 : decode method_3_code 3 = .ok (.ldc2_w 24, 3) := by decide +kernel
theorem d5_6 : decode method_3_code 6 = .ok (.lload_n 0, 1) := by decide +kernel
theorem d5_7 : decode method_3_code 7 = .ok (.lload_n 2, 1) := by decide +kernel
theorem d5_8 : decode method_3_code 8 = .ok (.lmul, 1) := by decide +kernel
theorem d5_9 : decode method_3_code 9 = .ok (.lsub, 1) := by decide +kernel
theorem d5_10 : decode method_3_code 10 = .ok (.lmul, 1) := by decide +kernel
theorem d5_11 : decode method_3_code 11 = .ok (.lstore_n 2, 1) := by decide +kernel
theorem d5_12 : decode method_3_code 12 = .ok (.lload_n 2, 1) := by decide +kernel
theorem d5_13 : decode method_3_code 13 = .ok (.ldc2_w 24, 3) := by decide +kernel
theorem d5_16 : decode method_3_code 16 = .ok (.lload_n 0, 1) := by decide +kernel
theorem d5_17 : decode method_3_code 17 = .ok (.lload_n 2, 1) := by decide +kernel
theorem d5_18 : decode method_3_code 18 = .ok (.lmul, 1) := by decide +kernel
theorem d5_19 : decode method_3_code 19 = .ok (.lsub, 1) := by decide +kernel
theorem d5_20 : decode method_3_code 20 = .ok (.lmul, 1) := by decide +kernel
theorem d5_21 : decode method_3_code 21 = .ok (.lstore_n 2, 1) := by decide +kernel
theorem d5_22 : decode method_3_code 22 = .ok (.lload_n 2, 1) := by decide +kernel
theorem d5_23 : decode method_3_code 23 = .ok (.ldc2_w 24, 3) := by decide +kernel
theorem d5_26 : decode method_3_code 26 = .ok (.lload_n 0, 1) := by decide +kernel
theorem d5_27 : decode method_3_code 27 = .ok (.lload_n 2, 1) := by decide +kernel
theorem d5_28 : decode method_3_code 28 = .ok (.lmul, 1) := by decide +kernel
theorem d5_29 : decode method_3_code 29 = .ok (.lsub, 1) := by decide +kernel
theorem d5_30 : decode method_3_code 30 = .ok (.lmul, 1) := by decide +kernel
theorem d5_31 : decode method_3_code 31 = .ok (.lstore_n 2, 1) := by decide +kernel
theorem d5_32 : decode method_3_code 32 = .ok (.lload_n 2, 1) := by decide +kernel
theorem d5_33 : decode method_3_code 33 = .ok (.ldc2_w 24, 3) := by decide +kernel
theorem d5_36 : decode method_3_code 36 = .ok (.lload_n 0, 1) := by decide +kernel
theorem d5_37 : decode method_3_code 37 = .ok (.lload_n 2, 1) := by decide +kernel
theorem d5_38 : decode method_3_code 38 = .ok (.lmul, 1) := by decide +kernel
theorem d5_39 : decode method_3_code 39 = .ok (.lsub, 1) := by decide +kernel
theorem d5_40 : decode method_3_code 40 = .ok (.lmul, 1) := by decide +kernel
theorem d5_41 : decode method_3_code 41 = .ok (.lstore_n 2, 1) := by decide +kernel
theorem d5_42 : decode method_3_code 42 = .ok (.lload_n 2, 1) := by decide +kernel
theorem d5_43 : decode method_3_code 43 = .ok (.ldc2_w 24, 3) := by decide +kernel
theorem d5_46 : decode method_3_code 46 = .ok (.lload_n 0, 1) := by decide +kernel
theorem d5_47 : decode method_3_code 47 = .ok (.lload_n 2, 1) := by decide +kernel
theorem d5_48 : decode method_3_code 48 = .ok (.lmul, 1) := by decide +kernel
theorem d5_49 : decode method_3_code 49 = .ok (.lsub, 1) := by decide +kernel
theorem d5_50 : decode method_3_code 50 = .ok (.lmul, 1) := by decide +kernel
theorem d5_51 : decode method_3_code 51 = .ok (.lstore_n 2, 1) := by decide +kernel
theorem d5_52 : decode method_3_code 52 = .ok (.lload_n 2, 1) := by decide +kernel
theorem d5_53 : decode method_3_code 53 = .ok (.ldc2_w 24, 3) := by decide +kernel
theorem d5_56 : decode method_3_code 56 = .ok (.lload_n 0, 1) := by decide +kernel
theorem d5_57 : decode method_3_code 57 = .ok (.lload_n 2, 1) := by decide +kernel
theorem d5_58 : decode method_3_code 58 = .ok (.lmul, 1) := by decide +kernel
theorem d5_59 : decode method_3_code 59 = .ok (.lsub, 1) := by decide +kernel
theorem d5_60 : decode method_3_code 60 = .ok (.lmul, 1) := by decide +kernel
theorem d5_61 : decode method_3_code 61 = .ok (.lstore_n 2, 1) := by decide +kernel
theorem d5_62 : decode method_3_code 62 = .ok (.lload_n 2, 1) := by decide +kernel
theorem d5_63 : decode method_3_code 63 = .ok (.lreturn, 1) := by decide +kernel
theorem pn5 : plainFor (⟨"com/example/arcward/arcward/generator/SplitMixNextPinLaw", "inverse", "(J)J"⟩ : MethodName) = true := plainFor_of_name (by first | (simp [plainName, overriddenIn]; done) | decide +kernel)
theorem ef_rm5 (m : MethodId) (q1 : Int64) : entryFrame m #[(.long q1)] 4 = mkF m 0 #[.val (.long q1), .second, .unset, .unset] [] := by first | (simp [entryFrame, mkF, argsToLocals, Value.category]; done) | rfl
def Q5 (Z : State) (q1 : Int64) (h0 : Heap) (n0 : Nat) (v : Option Value) (h : Heap) (L : List Loc) : Prop := v = some (.long (own_inv q1)) ∧ Fr n0 L ∧ (h = h0)
set_option maxRecDepth 65536 in
set_option maxHeartbeats 40000000 in
theorem rm5 (l : Launch) (Z : State) (a0 : Array Value) (hw : ∀ d ∈ tables_1, d.before a0 Z = true) (ws : List Jvm.Cond) (q1 : Int64) (h0 : Heap) (n0 : Nat) (Z0 : n0 ≤ h0.size) :
    MetFree l (⟨"com/example/arcward/arcward/generator/SplitMixNextPinLaw", "inverse", "(J)J"⟩ : MethodName) (head1 (Jvm.Cond.code (⟨"com/example/arcward/arcward/generator/SplitMixNextPinLaw", "inverse", "(J)J"⟩ : MethodName) method_3_code 4 (some .long) :: ws) ({ frames := 0, cells := 0, slots := 0, locals := 0 } : Room)) (fun a U => a = #[(.long q1)] ∧ Z.Warmed39 U.vm ∧ U.heap = h0) (fun _ _ _ _ _ => True) (fun _ U o U' => ∃ v L, o = .returned v ∧ Q5 Z q1 h0 n0 v U'.heap L ∧ FrameEnd U o U' L ({ frames := 0, cells := 0, slots := 0, locals := 0 } : Room).cells ({ frames := 0, cells := 0, slots := 0, locals := 0 } : Room).slots) := by
  refine MetFree.of_bodySF pn5 hisR ?_
  intro p e s m args below meth c s₁ Bd hml0 hP hK
  obtain ⟨rfl, hZ, hh⟩ := hP
  have hx := Bd.exec
  have hby := Bd.bytes
  have hml : c.maxLocals = 4 := hml0
  have hown : s.vm.findClass "com/example/arcward/arcward/generator/SplitMixNextPinLaw" = some m.cls := findClass_of_methodNamed Bd.named
  have hnm := (name_of_methodNamed Bd.named Bd.method).1
  have X0 : Stand p l e ({ frames := 0, cells := 0, slots := 0, locals := 0 } : Room) s m #[(.long q1)] below meth c s₁ [] 0 0 := Stand.of_body Bd
  have e0 : s₁.heap = h0 := by rw [← hh, Bd.state]; rfl
  have N0 := Fr.nil n0
  have p0 : Go p.tables e below (s₁.setTop (entryFrame m #[(.long q1)] 4)) (s₁.setTop (mkF m 0 #[.val (.long q1), .second, .unset, .unset] [])) := fun t k => castTop (ef_rm5 m q1) k
  have p102 : Go p.tables e below _ (s₁.setTop (mkF m 12 #[.val (.long q1), .second, .val (.long (q1 * ((2 : Int64) - (q1 * q1)))), .second] [])) := fun t k => p0 t (by
    show Steps p.tables e below (s₁.setTop (mkF m 0 #[.val (.long q1), .second, .unset, .unset] [])) _
    refine XS.lloadN X0.here hx rfl (hb hby d5_0) rfl ?_
    show Steps p.tables e below (s₁.setTop (mkF m 1 #[.val (.long q1), .second, .unset, .unset] [(.long q1)])) _
    refine XS.lstoreN X0.here hx rfl (hb hby d5_1) rfl (l' := #[.val (.long q1), .second, .val (.long q1), .second]) rfl ?_
    show Steps p.tables e below (s₁.setTop (mkF m 2 #[.val (.long q1), .second, .val (.long q1), .second] [])) _
    refine XS.lloadN X0.here hx rfl (hb hby d5_2) rfl ?_
    show Steps p.tables e below (s₁.setTop (mkF m 3 #[.val (.long q1), .second, .val (.long q1), .second] [(.long q1)])) _
    refine X0.ldc2Long hx hown (mvT hZ (own_w hw 28 rfl)) (g := (mkF m 3 #[.val (.long q1), .second, .val (.long q1), .second] [(.long q1)])) rfl (hb hby d5_3) _ ?_
    show Steps p.tables e below (s₁.setTop (mkF m 6 #[.val (.long q1), .second, .val (.long q1), .second] [(.long (2 : Int64)), (.long q1)])) _
    refine XS.lloadN X0.here hx rfl (hb hby d5_6) rfl ?_
    show Steps p.tables e below (s₁.setTop (mkF m 7 #[.val (.long q1), .second, .val (.long q1), .second] [(.long q1), (.long (2 : Int64)), (.long q1)])) _
    refine XS.lloadN X0.here hx rfl (hb hby d5_7) rfl ?_
    show Steps p.tables e below (s₁.setTop (mkF m 8 #[.val (.long q1), .second, .val (.long q1), .second] [(.long q1), (.long q1), (.long (2 : Int64)), (.long q1)])) _
    refine XS.lmul X0.here hx rfl (hb hby d5_8) rfl ?_
    show Steps p.tables e below (s₁.setTop (mkF m 9 #[.val (.long q1), .second, .val (.long q1), .second] [(.long (q1 * q1)), (.long (2 : Int64)), (.long q1)])) _
    refine XS.lsub X0.here hx rfl (hb hby d5_9) rfl ?_
    show Steps p.tables e below (s₁.setTop (mkF m 10 #[.val (.long q1), .second, .val (.long q1), .second] [(.long ((2 : Int64) - (q1 * q1))), (.long q1)])) _
    refine XS.lmul X0.here hx rfl (hb hby d5_10) rfl ?_
    show Steps p.tables e below (s₁.setTop (mkF m 11 #[.val (.long q1), .second, .val (.long q1), .second] [(.long (q1 * ((2 : Int64) - (q1 * q1))))])) _
    refine XS.lstoreN X0.here hx rfl (hb hby d5_11) rfl (l' := #[.val (.long q1), .second, .val (.long (q1 * ((2 : Int64) - (q1 * q1)))), .second]) rfl ?_
    show Steps p.tables e below (s₁.setTop (mkF m 12 #[.val (.long q1), .second, .val (.long (q1 * ((2 : Int64) - (q1 * q1)))), .second] [])) _
    exact k)
  obtain ⟨v101, hv101⟩ : ∃ z, z = (q1 * ((2 : Int64) - (q1 * q1))) := ⟨_, rfl⟩
  have p103 : Go p.tables e below (s₁.setTop (entryFrame m #[(.long q1)] 4)) (s₁.setTop (mkF m 12 #[.val (.long q1), .second, .val (.long v101), .second] [])) := by rw [hv101]; exact p102
  have p105 : Go p.tables e below _ (s₁.setTop (mkF m 22 #[.val (.long q1), .second, .val (.long (v101 * ((2 : Int64) - (q1 * v101)))), .second] [])) := fun t k => p103 t (by
    show Steps p.tables e below (s₁.setTop (mkF m 12 #[.val (.long q1), .second, .val (.long v101), .second] [])) _
    refine XS.lloadN X0.here hx rfl (hb hby d5_12) rfl ?_
    show Steps p.tables e below (s₁.setTop (mkF m 13 #[.val (.long q1), .second, .val (.long v101), .second] [(.long v101)])) _
    refine X0.ldc2Long hx hown (mvT hZ (own_w hw 28 rfl)) (g := (mkF m 13 #[.val (.long q1), .second, .val (.long v101), .second] [(.long v101)])) rfl (hb hby d5_13) _ ?_
    show Steps p.tables e below (s₁.setTop (mkF m 16 #[.val (.long q1), .second, .val (.long v101), .second] [(.long (2 : Int64)), (.long v101)])) _
    refine XS.lloadN X0.here hx rfl (hb hby d5_16) rfl ?_
    show Steps p.tables e below (s₁.setTop (mkF m 17 #[.val (.long q1), .second, .val (.long v101), .second] [(.long q1), (.long (2 : Int64)), (.long v101)])) _
    refine XS.lloadN X0.here hx rfl (hb hby d5_17) rfl ?_
    show Steps p.tables e below (s₁.setTop (mkF m 18 #[.val (.long q1), .second, .val (.long v101), .second] [(.long v101), (.long q1), (.long (2 : Int64)), (.long v101)])) _
    refine XS.lmul X0.here hx rfl (hb hby d5_18) rfl ?_
    show Steps p.tables e below (s₁.setTop (mkF m 19 #[.val (.long q1), .second, .val (.long v101), .second] [(.long (q1 * v101)), (.long (2 : Int64)), (.long v101)])) _
    refine XS.lsub X0.here hx rfl (hb hby d5_19) rfl ?_
    show Steps p.tables e below (s₁.setTop (mkF m 20 #[.val (.long q1), .second, .val (.long v101), .second] [(.long ((2 : Int64) - (q1 * v101))), (.long v101)])) _
    refine XS.lmul X0.here hx rfl (hb hby d5_20) rfl ?_
    show Steps p.tables e below (s₁.setTop (mkF m 21 #[.val (.long q1), .second, .val (.long v101), .second] [(.long (v101 * ((2 : Int64) - (q1 * v101))))])) _
    refine XS.lstoreN X0.here hx rfl (hb hby d5_21) rfl (l' := #[.val (.long q1), .second, .val (.long (v101 * ((2 : Int64) - (q1 * v101)))), .second]) rfl ?_
    show Steps p.tables e below (s₁.setTop (mkF m 22 #[.val (.long q1), .second, .val (.long (v101 * ((2 : Int64) - (q1 * v101)))), .second] [])) _
    exact k)
  obtain ⟨v104, hv104⟩ : ∃ z, z = (v101 * ((2 : Int64) - (q1 * v101))) := ⟨_, rfl⟩
  have p106 : Go p.tables e below (s₁.setTop (entryFrame m #[(.long q1)] 4)) (s₁.setTop (mkF m 22 #[.val (.long q1), .second, .val (.long v104), .second] [])) := by rw [hv104]; exact p105
  have p108 : Go p.tables e below _ (s₁.setTop (mkF m 32 #[.val (.long q1), .second, .val (.long (v104 * ((2 : Int64) - (q1 * v104)))), .second] [])) := fun t k => p106 t (by
    show Steps p.tables e below (s₁.setTop (mkF m 22 #[.val (.long q1), .second, .val (.long v104), .second] [])) _
    refine XS.lloadN X0.here hx rfl (hb hby d5_22) rfl ?_
    show Steps p.tables e below (s₁.setTop (mkF m 23 #[.val (.long q1), .second, .val (.long v104), .second] [(.long v104)])) _
    refine X0.ldc2Long hx hown (mvT hZ (own_w hw 28 rfl)) (g := (mkF m 23 #[.val (.long q1), .second, .val (.long v104), .second] [(.long v104)])) rfl (hb hby d5_23) _ ?_
    show Steps p.tables e below (s₁.setTop (mkF m 26 #[.val (.long q1), .second, .val (.long v104), .second] [(.long (2 : Int64)), (.long v104)])) _
    refine XS.lloadN X0.here hx rfl (hb hby d5_26) rfl ?_
    show Steps p.tables e below (s₁.setTop (mkF m 27 #[.val (.long q1), .second, .val (.long v104), .second] [(.long q1), (.long (2 : Int64)), (.long v104)])) _
    refine XS.lloadN X0.here hx rfl (hb hby d5_27) rfl ?_
    show Steps p.tables e below (s₁.setTop (mkF m 28 #[.val (.long q1), .second, .val (.long v104), .second] [(.long v104), (.long q1), (.long (2 : Int64)), (.long v104)])) _
    refine XS.lmul X0.here hx rfl (hb hby d5_28) rfl ?_
    show Steps p.tables e below (s₁.setTop (mkF m 29 #[.val (.long q1), .second, .val (.long v104), .second] [(.long (q1 * v104)), (.long (2 : Int64)), (.long v104)])) _
    refine XS.lsub X0.here hx rfl (hb hby d5_29) rfl ?_
    show Steps p.tables e below (s₁.setTop (mkF m 30 #[.val (.long q1), .second, .val (.long v104), .second] [(.long ((2 : Int64) - (q1 * v104))), (.long v104)])) _
    refine XS.lmul X0.here hx rfl (hb hby d5_30) rfl ?_
    show Steps p.tables e below (s₁.setTop (mkF m 31 #[.val (.long q1), .second, .val (.long v104), .second] [(.long (v104 * ((2 : Int64) - (q1 * v104))))])) _
    refine XS.lstoreN X0.here hx rfl (hb hby d5_31) rfl (l' := #[.val (.long q1), .second, .val (.long (v104 * ((2 : Int64) - (q1 * v104)))), .second]) rfl ?_
    show Steps p.tables e below (s₁.setTop (mkF m 32 #[.val (.long q1), .second, .val (.long (v104 * ((2 : Int64) - (q1 * v104)))), .second] [])) _
    exact k)
  obtain ⟨v107, hv107⟩ : ∃ z, z = (v104 * ((2 : Int64) - (q1 * v104))) := ⟨_, rfl⟩
  have p109 : Go p.tables e below (s₁.setTop (entryFrame m #[(.long q1)] 4)) (s₁.setTop (mkF m 32 #[.val (.long q1), .second, .val (.long v107), .second] [])) := by rw [hv107]; exact p108
  have p111 : Go p.tables e below _ (s₁.setTop (mkF m 42 #[.val (.long q1), .second, .val (.long (v107 * ((2 : Int64) - (q1 * v107)))), .second] [])) := fun t k => p109 t (by
    show Steps p.tables e below (s₁.setTop (mkF m 32 #[.val (.long q1), .second, .val (.long v107), .second] [])) _
    refine XS.lloadN X0.here hx rfl (hb hby d5_32) rfl ?_
    show Steps p.tables e below (s₁.setTop (mkF m 33 #[.val (.long q1), .second, .val (.long v107), .second] [(.long v107)])) _
    refine X0.ldc2Long hx hown (mvT hZ (own_w hw 28 rfl)) (g := (mkF m 33 #[.val (.long q1), .second, .val (.long v107), .second] [(.long v107)])) rfl (hb hby d5_33) _ ?_
    show Steps p.tables e below (s₁.setTop (mkF m 36 #[.val (.long q1), .second, .val (.long v107), .second] [(.long (2 : Int64)), (.long v107)])) _
    refine XS.lloadN X0.here hx rfl (hb hby d5_36) rfl ?_
    show Steps p.tables e below (s₁.setTop (mkF m 37 #[.val (.long q1), .second, .val (.long v107), .second] [(.long q1), (.long (2 : Int64)), (.long v107)])) _
    refine XS.lloadN X0.here hx rfl (hb hby d5_37) rfl ?_
    show Steps p.tables e below (s₁.setTop (mkF m 38 #[.val (.long q1), .second, .val (.long v107), .second] [(.long v107), (.long q1), (.long (2 : Int64)), (.long v107)])) _
    refine XS.lmul X0.here hx rfl (hb hby d5_38) rfl ?_
    show Steps p.tables e below (s₁.setTop (mkF m 39 #[.val (.long q1), .second, .val (.long v107), .second] [(.long (q1 * v107)), (.long (2 : Int64)), (.long v107)])) _
    refine XS.lsub X0.here hx rfl (hb hby d5_39) rfl ?_
    show Steps p.tables e below (s₁.setTop (mkF m 40 #[.val (.long q1), .second, .val (.long v107), .second] [(.long ((2 : Int64) - (q1 * v107))), (.long v107)])) _
    refine XS.lmul X0.here hx rfl (hb hby d5_40) rfl ?_
    show Steps p.tables e below (s₁.setTop (mkF m 41 #[.val (.long q1), .second, .val (.long v107), .second] [(.long (v107 * ((2 : Int64) - (q1 * v107))))])) _
    refine XS.lstoreN X0.here hx rfl (hb hby d5_41) rfl (l' := #[.val (.long q1), .second, .val (.long (v107 * ((2 : Int64) - (q1 * v107)))), .second]) rfl ?_
    show Steps p.tables e below (s₁.setTop (mkF m 42 #[.val (.long q1), .second, .val (.long (v107 * ((2 : Int64) - (q1 * v107)))), .second] [])) _
    exact k)
  obtain ⟨v110, hv110⟩ : ∃ z, z = (v107 * ((2 : Int64) - (q1 * v107))) := ⟨_, rfl⟩
  have p112 : Go p.tables e below (s₁.setTop (entryFrame m #[(.long q1)] 4)) (s₁.setTop (mkF m 42 #[.val (.long q1), .second, .val (.long v110), .second] [])) := by rw [hv110]; exact p111
  have p114 : Go p.tables e below _ (s₁.setTop (mkF m 52 #[.val (.long q1), .second, .val (.long (v110 * ((2 : Int64) - (q1 * v110)))), .second] [])) := fun t k => p112 t (by
    show Steps p.tables e below (s₁.setTop (mkF m 42 #[.val (.long q1), .second, .val (.long v110), .second] [])) _
    refine XS.lloadN X0.here hx rfl (hb hby d5_42) rfl ?_
    show Steps p.tables e below (s₁.setTop (mkF m 43 #[.val (.long q1), .second, .val (.long v110), .second] [(.long v110)])) _
    refine X0.ldc2Long hx hown (mvT hZ (own_w hw 28 rfl)) (g := (mkF m 43 #[.val (.long q1), .second, .val (.long v110), .second] [(.long v110)])) rfl (hb hby d5_43) _ ?_
    show Steps p.tables e below (s₁.setTop (mkF m 46 #[.val (.long q1), .second, .val (.long v110), .second] [(.long (2 : Int64)), (.long v110)])) _
    refine XS.lloadN X0.here hx rfl (hb hby d5_46) rfl ?_
    show Steps p.tables e below (s₁.setTop (mkF m 47 #[.val (.long q1), .second, .val (.long v110), .second] [(.long q1), (.long (2 : Int64)), (.long v110)])) _
    refine XS.lloadN X0.here hx rfl (hb hby d5_47) rfl ?_
    show Steps p.tables e below (s₁.setTop (mkF m 48 #[.val (.long q1), .second, .val (.long v110), .second] [(.long v110), (.long q1), (.long (2 : Int64)), (.long v110)])) _
    refine XS.lmul X0.here hx rfl (hb hby d5_48) rfl ?_
    show Steps p.tables e below (s₁.setTop (mkF m 49 #[.val (.long q1), .second, .val (.long v110), .second] [(.long (q1 * v110)), (.long (2 : Int64)), (.long v110)])) _
    refine XS.lsub X0.here hx rfl (hb hby d5_49) rfl ?_
    show Steps p.tables e below (s₁.setTop (mkF m 50 #[.val (.long q1), .second, .val (.long v110), .second] [(.long ((2 : Int64) - (q1 * v110))), (.long v110)])) _
    refine XS.lmul X0.here hx rfl (hb hby d5_50) rfl ?_
    show Steps p.tables e below (s₁.setTop (mkF m 51 #[.val (.long q1), .second, .val (.long v110), .second] [(.long (v110 * ((2 : Int64) - (q1 * v110))))])) _
    refine XS.lstoreN X0.here hx rfl (hb hby d5_51) rfl (l' := #[.val (.long q1), .second, .val (.long (v110 * ((2 : Int64) - (q1 * v110)))), .second]) rfl ?_
    show Steps p.tables e below (s₁.setTop (mkF m 52 #[.val (.long q1), .second, .val (.long (v110 * ((2 : Int64) - (q1 * v110)))), .second] [])) _
    exact k)
  obtain ⟨v113, hv113⟩ : ∃ z, z = (v110 * ((2 : Int64) - (q1 * v110))) := ⟨_, rfl⟩
  have p115 : Go p.tables e below (s₁.setTop (entryFrame m #[(.long q1)] 4)) (s₁.setTop (mkF m 52 #[.val (.long q1), .second, .val (.long v113), .second] [])) := by rw [hv113]; exact p114
  have p117 : Go p.tables e below _ (s₁.setTop (mkF m 62 #[.val (.long q1), .second, .val (.long (v113 * ((2 : Int64) - (q1 * v113)))), .second] [])) := fun t k => p115 t (by
    show Steps p.tables e below (s₁.setTop (mkF m 52 #[.val (.long q1), .second, .val (.long v113), .second] [])) _
    refine XS.lloadN X0.here hx rfl (hb hby d5_52) rfl ?_
    show Steps p.tables e below (s₁.setTop (mkF m 53 #[.val (.long q1), .second, .val (.long v113), .second] [(.long v113)])) _
    refine X0.ldc2Long hx hown (mvT hZ (own_w hw 28 rfl)) (g := (mkF m 53 #[.val (.long q1), .second, .val (.long v113), .second] [(.long v113)])) rfl (hb hby d5_53) _ ?_
    show Steps p.tables e below (s₁.setTop (mkF m 56 #[.val (.long q1), .second, .val (.long v113), .second] [(.long (2 : Int64)), (.long v113)])) _
    refine XS.lloadN X0.here hx rfl (hb hby d5_56) rfl ?_
    show Steps p.tables e below (s₁.setTop (mkF m 57 #[.val (.long q1), .second, .val (.long v113), .second] [(.long q1), (.long (2 : Int64)), (.long v113)])) _
    refine XS.lloadN X0.here hx rfl (hb hby d5_57) rfl ?_
    show Steps p.tables e below (s₁.setTop (mkF m 58 #[.val (.long q1), .second, .val (.long v113), .second] [(.long v113), (.long q1), (.long (2 : Int64)), (.long v113)])) _
    refine XS.lmul X0.here hx rfl (hb hby d5_58) rfl ?_
    show Steps p.tables e below (s₁.setTop (mkF m 59 #[.val (.long q1), .second, .val (.long v113), .second] [(.long (q1 * v113)), (.long (2 : Int64)), (.long v113)])) _
    refine XS.lsub X0.here hx rfl (hb hby d5_59) rfl ?_
    show Steps p.tables e below (s₁.setTop (mkF m 60 #[.val (.long q1), .second, .val (.long v113), .second] [(.long ((2 : Int64) - (q1 * v113))), (.long v113)])) _
    refine XS.lmul X0.here hx rfl (hb hby d5_60) rfl ?_
    show Steps p.tables e below (s₁.setTop (mkF m 61 #[.val (.long q1), .second, .val (.long v113), .second] [(.long (v113 * ((2 : Int64) - (q1 * v113))))])) _
    refine XS.lstoreN X0.here hx rfl (hb hby d5_61) rfl (l' := #[.val (.long q1), .second, .val (.long (v113 * ((2 : Int64) - (q1 * v113)))), .second]) rfl ?_
    show Steps p.tables e below (s₁.setTop (mkF m 62 #[.val (.long q1), .second, .val (.long (v113 * ((2 : Int64) - (q1 * v113)))), .second] [])) _
    exact k)
  obtain ⟨v116, hv116⟩ : ∃ z, z = (v113 * ((2 : Int64) - (q1 * v113))) := ⟨_, rfl⟩
  have p118 : Go p.tables e below (s₁.setTop (entryFrame m #[(.long q1)] 4)) (s₁.setTop (mkF m 62 #[.val (.long q1), .second, .val (.long v116), .second] [])) := by rw [hv116]; exact p117
  have p119 : Go p.tables e below _ (s₁.setTop (mkF m 63 #[.val (.long q1), .second, .val (.long v116), .second] [(.long v116)])) := fun t k => p118 t (by
    show Steps p.tables e below (s₁.setTop (mkF m 62 #[.val (.long q1), .second, .val (.long v116), .second] [])) _
    refine XS.lloadN X0.here hx rfl (hb hby d5_62) rfl ?_
    show Steps p.tables e below (s₁.setTop (mkF m 63 #[.val (.long q1), .second, .val (.long v116), .second] [(.long v116)])) _
    exact k)
  obtain ⟨fs, hr, hrun, hended, hW, hsame⟩ := X0.leave (v := some (.long v116)) (fun h => by rw [Bd.returns] at h; cases h)
  refine ⟨_, _, p119 _ (retOut X0 hx (w := (.long v116)) (t := .long) (i := .lreturn) Bd.returns rfl (Or.inr (Or.inl ⟨rfl, rfl, _, rfl⟩)) (hb hby d5_63) hr), hrun, hended, _, _, rfl, ?_, ⟨_, rfl⟩, hW, hsame.mono (by decide) (by decide)⟩
  show Q5 Z q1 h0 n0 _ s₁.heap _
  rw [e0]
  exact ⟨by subst hv101 hv104 hv107 hv110 hv113 hv116; rfl, N0, rfl⟩
theorem d4_0 : decode method_4_code 0 = .ok (.lload_n 0, 1) := by decide +kernel
theorem d4_1 : decode method_4_code 1 = .ok (.lload_n 0, 1) := by decide +kernel
theorem d4_2 : decode method_4_code 2 = .ok (.bipush 31, 2) := by decide +kernel
theorem d4_4 : decode method_4_code 4 = .ok (.lushr, 1) := by decide +kernel
theorem d4_5 : decode method_4_code 5 = .ok (.lxor, 1) := by decide +kernel
theorem d4_6 : decode method_4_code 6 = .ok (.lload_n 0, 1) := by decide +kernel
theorem d4_7 : decode method_4_code 7 = .ok (.bipush 62, 2) := by decide +kernel
theorem d4_9 : decode method_4_code 9 = .ok (.lushr, 1) := by decide +kernel
theorem d4_10 : decode method_4_code 10 = .ok (.lxor, 1) := by decide +kernel
theorem d4_11 : decode method_4_code 11 = .ok (.lstore_n 2, 1) := by decide +kernel
theorem d4_12 : decode method_4_code 12 = .ok (.lload_n 2, 1) := by decide +kernel
theorem d4_13 : decode method_4_code 13 = .ok (.ldc2_w 26, 3) := by decide +kernel
theorem d4_16 : decode method_4_code 16 = .ok (.invokestatic 28, 3) := by decide +kernel
theorem d4_19 : decode method_4_code 19 = .ok (.lmul, 1) := by decide +kernel
theorem d4_20 : decode method_4_code 20 = .ok (.lstore_n 2, 1) := by decide +kernel
theorem d4_21 : decode method_4_code 21 = .ok (.lload_n 2, 1) := by decide +kernel
theorem d4_22 : decode method_4_code 22 = .ok (.lload_n 2, 1) := by decide +kernel
theorem d4_23 : decode method_4_code 23 = .ok (.bipush 27, 2) := by decide +kernel
theorem d4_25 : decode method_4_code 25 = .ok (.lushr, 1) := by decide +kernel
theorem d4_26 : decode method_4_code 26 = .ok (.lxor, 1) := by decide +kernel
theorem d4_27 : decode method_4_code 27 = .ok (.lload_n 2, 1) := by decide +kernel
theorem d4_28 : decode method_4_code 28 = .ok (.bipush 54, 2) := by decide +kernel
theorem d4_30 : decode method_4_code 30 = .ok (.lushr, 1) := by decide +kernel
theorem d4_31 : decode method_4_code 31 = .ok (.lxor, 1) := by decide +kernel
theorem d4_32 : decode method_4_code 32 = .ok (.lstore_n 2, 1) := by decide +kernel
theorem d4_33 : decode method_4_code 33 = .ok (.lload_n 2, 1) := by decide +kernel
theorem d4_34 : decode method_4_code 34 = .ok (.ldc2_w 31, 3) := by decide +kernel
theorem d4_37 : decode method_4_code 37 = .ok (.invokestatic 28, 3) := by decide +kernel
theorem d4_40 : decode method_4_code 40 = .ok (.lmul, 1) := by decide +kernel
theorem d4_41 : decode method_4_code 41 = .ok (.lstore_n 2, 1) := by decide +kernel
theorem d4_42 : decode method_4_code 42 = .ok (.lload_n 2, 1) := by decide +kernel
theorem d4_43 : decode method_4_code 43 = .ok (.lload_n 2, 1) := by decide +kernel
theorem d4_44 : decode method_4_code 44 = .ok (.bipush 30, 2) := by decide +kernel
theorem d4_46 : decode method_4_code 46 = .ok (.lushr, 1) := by decide +kernel
theorem d4_47 : decode method_4_code 47 = .ok (.lxor, 1) := by decide +kernel
theorem d4_48 : decode method_4_code 48 = .ok (.lload_n 2, 1) := by decide +kernel
theorem d4_49 : decode method_4_code 49 = .ok (.bipush 60, 2) := by decide +kernel
theorem d4_51 : decode method_4_code 51 = .ok (.lushr, 1) := by decide +kernel
theorem d4_52 : decode method_4_code 52 = .ok (.lxor, 1) := by decide +kernel
theorem d4_53 : decode method_4_code 53 = .ok (.lstore_n 2, 1) := by decide +kernel
theorem d4_54 : decode method_4_code 54 = .ok (.lload_n 2, 1) := by decide +kernel
theorem d4_55 : decode method_4_code 55 = .ok (.lreturn, 1) := by decide +kernel
theorem pd0 : parseMethodDescriptor "(J)J" = some ⟨[.long], some .long⟩ := by decide +kernel
theorem pn4 : plainFor (⟨"com/example/arcward/arcward/generator/SplitMixNextPinLaw", "unmix", "(J)J"⟩ : MethodName) = true := plainFor_of_name (by first | (simp [plainName, overriddenIn]; done) | decide +kernel)
theorem ef_rm4 (m : MethodId) (q1 : Int64) : entryFrame m #[(.long q1)] 4 = mkF m 0 #[.val (.long q1), .second, .unset, .unset] [] := by first | (simp [entryFrame, mkF, argsToLocals, Value.category]; done) | rfl
def Q4 (Z : State) (q1 : Int64) (h0 : Heap) (n0 : Nat) (v : Option Value) (h : Heap) (L : List Loc) : Prop := v = some (.long (own_unmix q1)) ∧ Fr n0 L ∧ (h = h0)
set_option maxRecDepth 65536 in
set_option maxHeartbeats 40000000 in
theorem rm4 (l : Launch) (Z : State) (a0 : Array Value) (hw : ∀ d ∈ tables_1, d.before a0 Z = true) (ws : List Jvm.Cond) (q1 : Int64) (h0 : Heap) (n0 : Nat) (Z0 : n0 ≤ h0.size) :
    MetFree l (⟨"com/example/arcward/arcward/generator/SplitMixNextPinLaw", "unmix", "(J)J"⟩ : MethodName) (head1 (Jvm.Cond.code (⟨"com/example/arcward/arcward/generator/SplitMixNextPinLaw", "unmix", "(J)J"⟩ : MethodName) method_4_code 4 (some .long) :: ws) ({ frames := 1, cells := 0, slots := 0, locals := 17 } : Room)) (fun a U => a = #[(.long q1)] ∧ Z.Warmed39 U.vm ∧ U.heap = h0) (fun _ _ _ _ _ => True) (fun _ U o U' => ∃ v L, o = .returned v ∧ Q4 Z q1 h0 n0 v U'.heap L ∧ FrameEnd U o U' L ({ frames := 1, cells := 0, slots := 0, locals := 17 } : Room).cells ({ frames := 1, cells := 0, slots := 0, locals := 17 } : Room).slots) := by
  refine MetFree.of_bodySF pn4 hisR ?_
  intro p e s m args below meth c s₁ Bd hml0 hP hK
  obtain ⟨rfl, hZ, hh⟩ := hP
  have hx := Bd.exec
  have hby := Bd.bytes
  have hml : c.maxLocals = 4 := hml0
  have hown : s.vm.findClass "com/example/arcward/arcward/generator/SplitMixNextPinLaw" = some m.cls := findClass_of_methodNamed Bd.named
  have hnm := (name_of_methodNamed Bd.named Bd.method).1
  have X0 : Stand p l e ({ frames := 1, cells := 0, slots := 0, locals := 17 } : Room) s m #[(.long q1)] below meth c s₁ [] 0 0 := Stand.of_body Bd
  have e0 : s₁.heap = h0 := by rw [← hh, Bd.state]; rfl
  have N0 := Fr.nil n0
  have p0 : Go p.tables e below (s₁.setTop (entryFrame m #[(.long q1)] 4)) (s₁.setTop (mkF m 0 #[.val (.long q1), .second, .unset, .unset] [])) := fun t k => castTop (ef_rm4 m q1) k
  have p102 : Go p.tables e below _ (s₁.setTop (mkF m 12 #[.val (.long q1), .second, .val (.long ((q1 ^^^ ((q1.toUInt64 >>> (31 : UInt64)).toInt64)) ^^^ ((q1.toUInt64 >>> (62 : UInt64)).toInt64))), .second] [])) := fun t k => p0 t (by
    show Steps p.tables e below (s₁.setTop (mkF m 0 #[.val (.long q1), .second, .unset, .unset] [])) _
    refine XS.lloadN X0.here hx rfl (hb hby d4_0) rfl ?_
    show Steps p.tables e below (s₁.setTop (mkF m 1 #[.val (.long q1), .second, .unset, .unset] [(.long q1)])) _
    refine XS.lloadN X0.here hx rfl (hb hby d4_1) rfl ?_
    show Steps p.tables e below (s₁.setTop (mkF m 2 #[.val (.long q1), .second, .unset, .unset] [(.long q1), (.long q1)])) _
    refine XS.bipush X0.here hx rfl (hb hby d4_2) ?_
    show Steps p.tables e below (s₁.setTop (mkF m 4 #[.val (.long q1), .second, .unset, .unset] [(.int (31 : Int32)), (.long q1), (.long q1)])) _
    refine XS.lushr X0.here hx rfl (hb hby d4_4) rfl ?_
    show Steps p.tables e below (s₁.setTop (mkF m 5 #[.val (.long q1), .second, .unset, .unset] [(.long ((q1.toUInt64 >>> (31 : UInt64)).toInt64)), (.long q1)])) _
    refine XS.lxor X0.here hx rfl (hb hby d4_5) rfl ?_
    show Steps p.tables e below (s₁.setTop (mkF m 6 #[.val (.long q1), .second, .unset, .unset] [(.long (q1 ^^^ ((q1.toUInt64 >>> (31 : UInt64)).toInt64)))])) _
    refine XS.lloadN X0.here hx rfl (hb hby d4_6) rfl ?_
    show Steps p.tables e below (s₁.setTop (mkF m 7 #[.val (.long q1), .second, .unset, .unset] [(.long q1), (.long (q1 ^^^ ((q1.toUInt64 >>> (31 : UInt64)).toInt64)))])) _
    refine XS.bipush X0.here hx rfl (hb hby d4_7) ?_
    show Steps p.tables e below (s₁.setTop (mkF m 9 #[.val (.long q1), .second, .unset, .unset] [(.int (62 : Int32)), (.long q1), (.long (q1 ^^^ ((q1.toUInt64 >>> (31 : UInt64)).toInt64)))])) _
    refine XS.lushr X0.here hx rfl (hb hby d4_9) rfl ?_
    show Steps p.tables e below (s₁.setTop (mkF m 10 #[.val (.long q1), .second, .unset, .unset] [(.long ((q1.toUInt64 >>> (62 : UInt64)).toInt64)), (.long (q1 ^^^ ((q1.toUInt64 >>> (31 : UInt64)).toInt64)))])) _
    refine XS.lxor X0.here hx rfl (hb hby d4_10) rfl ?_
    show Steps p.tables e below (s₁.setTop (mkF m 11 #[.val (.long q1), .second, .unset, .unset] [(.long ((q1 ^^^ ((q1.toUInt64 >>> (31 : UInt64)).toInt64)) ^^^ ((q1.toUInt64 >>> (62 : UInt64)).toInt64)))])) _
    refine XS.lstoreN X0.here hx rfl (hb hby d4_11) rfl (l' := #[.val (.long q1), .second, .val (.long ((q1 ^^^ ((q1.toUInt64 >>> (31 : UInt64)).toInt64)) ^^^ ((q1.toUInt64 >>> (62 : UInt64)).toInt64))), .second]) rfl ?_
    show Steps p.tables e below (s₁.setTop (mkF m 12 #[.val (.long q1), .second, .val (.long ((q1 ^^^ ((q1.toUInt64 >>> (31 : UInt64)).toInt64)) ^^^ ((q1.toUInt64 >>> (62 : UInt64)).toInt64))), .second] [])) _
    exact k)
  obtain ⟨v101, hv101⟩ : ∃ z, z = ((q1 ^^^ ((q1.toUInt64 >>> (31 : UInt64)).toInt64)) ^^^ ((q1.toUInt64 >>> (62 : UInt64)).toInt64)) := ⟨_, rfl⟩
  have p103 : Go p.tables e below (s₁.setTop (entryFrame m #[(.long q1)] 4)) (s₁.setTop (mkF m 12 #[.val (.long q1), .second, .val (.long v101), .second] [])) := by rw [hv101]; exact p102
  have p104 : Go p.tables e below _ (s₁.setTop (mkF m 16 #[.val (.long q1), .second, .val (.long v101), .second] [(.long (-7723592293110705685 : Int64)), (.long v101)])) := fun t k => p103 t (by
    show Steps p.tables e below (s₁.setTop (mkF m 12 #[.val (.long q1), .second, .val (.long v101), .second] [])) _
    refine XS.lloadN X0.here hx rfl (hb hby d4_12) rfl ?_
    show Steps p.tables e below (s₁.setTop (mkF m 13 #[.val (.long q1), .second, .val (.long v101), .second] [(.long v101)])) _
    refine X0.ldc2Long hx hown (mvT hZ (own_w hw 24 rfl)) (g := (mkF m 13 #[.val (.long q1), .second, .val (.long v101), .second] [(.long v101)])) rfl (hb hby d4_13) _ ?_
    show Steps p.tables e below (s₁.setTop (mkF m 16 #[.val (.long q1), .second, .val (.long v101), .second] [(.long (-7723592293110705685 : Int64)), (.long v101)])) _
    exact k)
  obtain ⟨_, _, ⟨T105, L105, k105, n105⟩, -, X105, ⟨Lc105, hQ105, l105, y105, z105⟩, st105⟩ := Jvm.LawKit.callS X0 hx (y := (⟨"com/example/arcward/arcward/generator/SplitMixNextPinLaw", "inverse", "(J)J"⟩ : MethodName)) hown (mvT hZ (own_w hw 25 rfl)) (mvT hZ (own_w hw 26 rfl)) (mvT hZ (own_w hw 22 rfl)) (mvT hZ (own_w hw 27 rfl)) (by decide) (backOf (W := 2) (rm5 l Z a0 hw [] (-7723592293110705685 : Int64) h0 n0 (Nat.le_trans Z0 (Keep.refl h0 []).1) ) hZ (own_w hw 27 rfl) (own_w hw 22 rfl) (by decide) (by decide)) (g := (mkF m 16 #[.val (.long q1), .second, .val (.long v101), .second] [(.long (-7723592293110705685 : Int64)), (.long v101)])) rfl (by rw [hml]; rfl) (argsL := [(.long (-7723592293110705685 : Int64))]) (rest := [(.long v101)]) (lenOf pd0 rfl) rfl (by show 2 * 0 + _ ≤ _; exact Nat.le_of_eq rfl) (hb hby d4_16) (fun _ _ => ⟨rfl, e0, (by decide : 0 + 0 ≤ _), (by decide : 0 + 0 ≤ _)⟩)
  dsimp only [Pt.U, Pt.locs, Pt.cells, Pt.slots] at X105 l105 y105 z105 st105 hQ105
  subst l105 y105 z105
  obtain ⟨rfl, N105q, q105_hh⟩ := hQ105
  have N105 := Fr.app N0 N105q
  have p106 : Go p.tables e below _ (T105.setTop (mkF m 19 #[.val (.long q1), .second, .val (.long v101), .second] [(.long (own_inv (-7723592293110705685 : Int64))), (.long v101)])) := fun t k => p104 t (st105 _ k)
  have p108 : Go p.tables e below _ (T105.setTop (mkF m 21 #[.val (.long q1), .second, .val (.long (v101 * (own_inv (-7723592293110705685 : Int64)))), .second] [])) := fun t k => p106 t (by
    show Steps p.tables e below (T105.setTop (mkF m 19 #[.val (.long q1), .second, .val (.long v101), .second] [(.long (own_inv (-7723592293110705685 : Int64))), (.long v101)])) _
    refine XS.lmul X105.here hx rfl (hb hby d4_19) rfl ?_
    show Steps p.tables e below (T105.setTop (mkF m 20 #[.val (.long q1), .second, .val (.long v101), .second] [(.long (v101 * (own_inv (-7723592293110705685 : Int64))))])) _
    refine XS.lstoreN X105.here hx rfl (hb hby d4_20) rfl (l' := #[.val (.long q1), .second, .val (.long (v101 * (own_inv (-7723592293110705685 : Int64)))), .second]) rfl ?_
    show Steps p.tables e below (T105.setTop (mkF m 21 #[.val (.long q1), .second, .val (.long (v101 * (own_inv (-7723592293110705685 : Int64)))), .second] [])) _
    exact k)
  obtain ⟨v107, hv107⟩ : ∃ z, z = (v101 * (own_inv (-7723592293110705685 : Int64))) := ⟨_, rfl⟩
  have p109 : Go p.tables e below (s₁.setTop (entryFrame m #[(.long q1)] 4)) (T105.setTop (mkF m 21 #[.val (.long q1), .second, .val (.long v107), .second] [])) := by rw [hv107]; exact p108
  have p111 : Go p.tables e below _ (T105.setTop (mkF m 33 #[.val (.long q1), .second, .val (.long ((v107 ^^^ ((v107.toUInt64 >>> (27 : UInt64)).toInt64)) ^^^ ((v107.toUInt64 >>> (54 : UInt64)).toInt64))), .second] [])) := fun t k => p109 t (by
    show Steps p.tables e below (T105.setTop (mkF m 21 #[.val (.long q1), .second, .val (.long v107), .second] [])) _
    refine XS.lloadN X105.here hx rfl (hb hby d4_21) rfl ?_
    show Steps p.tables e below (T105.setTop (mkF m 22 #[.val (.long q1), .second, .val (.long v107), .second] [(.long v107)])) _
    refine XS.lloadN X105.here hx rfl (hb hby d4_22) rfl ?_
    show Steps p.tables e below (T105.setTop (mkF m 23 #[.val (.long q1), .second, .val (.long v107), .second] [(.long v107), (.long v107)])) _
    refine XS.bipush X105.here hx rfl (hb hby d4_23) ?_
    show Steps p.tables e below (T105.setTop (mkF m 25 #[.val (.long q1), .second, .val (.long v107), .second] [(.int (27 : Int32)), (.long v107), (.long v107)])) _
    refine XS.lushr X105.here hx rfl (hb hby d4_25) rfl ?_
    show Steps p.tables e below (T105.setTop (mkF m 26 #[.val (.long q1), .second, .val (.long v107), .second] [(.long ((v107.toUInt64 >>> (27 : UInt64)).toInt64)), (.long v107)])) _
    refine XS.lxor X105.here hx rfl (hb hby d4_26) rfl ?_
    show Steps p.tables e below (T105.setTop (mkF m 27 #[.val (.long q1), .second, .val (.long v107), .second] [(.long (v107 ^^^ ((v107.toUInt64 >>> (27 : UInt64)).toInt64)))])) _
    refine XS.lloadN X105.here hx rfl (hb hby d4_27) rfl ?_
    show Steps p.tables e below (T105.setTop (mkF m 28 #[.val (.long q1), .second, .val (.long v107), .second] [(.long v107), (.long (v107 ^^^ ((v107.toUInt64 >>> (27 : UInt64)).toInt64)))])) _
    refine XS.bipush X105.here hx rfl (hb hby d4_28) ?_
    show Steps p.tables e below (T105.setTop (mkF m 30 #[.val (.long q1), .second, .val (.long v107), .second] [(.int (54 : Int32)), (.long v107), (.long (v107 ^^^ ((v107.toUInt64 >>> (27 : UInt64)).toInt64)))])) _
    refine XS.lushr X105.here hx rfl (hb hby d4_30) rfl ?_
    show Steps p.tables e below (T105.setTop (mkF m 31 #[.val (.long q1), .second, .val (.long v107), .second] [(.long ((v107.toUInt64 >>> (54 : UInt64)).toInt64)), (.long (v107 ^^^ ((v107.toUInt64 >>> (27 : UInt64)).toInt64)))])) _
    refine XS.lxor X105.here hx rfl (hb hby d4_31) rfl ?_
    show Steps p.tables e below (T105.setTop (mkF m 32 #[.val (.long q1), .second, .val (.long v107), .second] [(.long ((v107 ^^^ ((v107.toUInt64 >>> (27 : UInt64)).toInt64)) ^^^ ((v107.toUInt64 >>> (54 : UInt64)).toInt64)))])) _
    refine XS.lstoreN X105.here hx rfl (hb hby d4_32) rfl (l' := #[.val (.long q1), .second, .val (.long ((v107 ^^^ ((v107.toUInt64 >>> (27 : UInt64)).toInt64)) ^^^ ((v107.toUInt64 >>> (54 : UInt64)).toInt64))), .second]) rfl ?_
    show Steps p.tables e below (T105.setTop (mkF m 33 #[.val (.long q1), .second, .val (.long ((v107 ^^^ ((v107.toUInt64 >>> (27 : UInt64)).toInt64)) ^^^ ((v107.toUInt64 >>> (54 : UInt64)).toInt64))), .second] [])) _
    exact k)
  obtain ⟨v110, hv110⟩ : ∃ z, z = ((v107 ^^^ ((v107.toUInt64 >>> (27 : UInt64)).toInt64)) ^^^ ((v107.toUInt64 >>> (54 : UInt64)).toInt64)) := ⟨_, rfl⟩
  have p112 : Go p.tables e below (s₁.setTop (entryFrame m #[(.long q1)] 4)) (T105.setTop (mkF m 33 #[.val (.long q1), .second, .val (.long v110), .second] [])) := by rw [hv110]; exact p111
  have p113 : Go p.tables e below _ (T105.setTop (mkF m 37 #[.val (.long q1), .second, .val (.long v110), .second] [(.long (-4658895280553007687 : Int64)), (.long v110)])) := fun t k => p112 t (by
    show Steps p.tables e below (T105.setTop (mkF m 33 #[.val (.long q1), .second, .val (.long v110), .second] [])) _
    refine XS.lloadN X105.here hx rfl (hb hby d4_33) rfl ?_
    show Steps p.tables e below (T105.setTop (mkF m 34 #[.val (.long q1), .second, .val (.long v110), .second] [(.long v110)])) _
    refine X105.ldc2Long hx hown (mvT hZ (own_w hw 29 rfl)) (g := (mkF m 34 #[.val (.long q1), .second, .val (.long v110), .second] [(.long v110)])) rfl (hb hby d4_34) _ ?_
    show Steps p.tables e below (T105.setTop (mkF m 37 #[.val (.long q1), .second, .val (.long v110), .second] [(.long (-4658895280553007687 : Int64)), (.long v110)])) _
    exact k)
  obtain ⟨_, _, ⟨T114, L114, k114, n114⟩, -, X114, ⟨Lc114, hQ114, l114, y114, z114⟩, st114⟩ := Jvm.LawKit.callS X105 hx (y := (⟨"com/example/arcward/arcward/generator/SplitMixNextPinLaw", "inverse", "(J)J"⟩ : MethodName)) hown (mvT hZ (own_w hw 25 rfl)) (mvT hZ (own_w hw 26 rfl)) (mvT hZ (own_w hw 22 rfl)) (mvT hZ (own_w hw 27 rfl)) (by decide) (backOf (W := 2) (rm5 l Z a0 hw [] (-4658895280553007687 : Int64) h0 n0 (Nat.le_trans Z0 (Keep.refl h0 []).1) ) hZ (own_w hw 27 rfl) (own_w hw 22 rfl) (by decide) (by decide)) (g := (mkF m 37 #[.val (.long q1), .second, .val (.long v110), .second] [(.long (-4658895280553007687 : Int64)), (.long v110)])) rfl (by rw [hml]; rfl) (argsL := [(.long (-4658895280553007687 : Int64))]) (rest := [(.long v110)]) (lenOf pd0 rfl) rfl (by show 2 * 0 + _ ≤ _; exact Nat.le_of_eq rfl) (hb hby d4_37) (fun _ _ => ⟨rfl, q105_hh, (by decide : 0 + 0 ≤ _), (by decide : 0 + 0 ≤ _)⟩)
  dsimp only [Pt.U, Pt.locs, Pt.cells, Pt.slots] at X114 l114 y114 z114 st114 hQ114
  subst l114 y114 z114
  obtain ⟨rfl, N114q, q114_hh⟩ := hQ114
  have N114 := Fr.app N105 N114q
  have p115 : Go p.tables e below _ (T114.setTop (mkF m 40 #[.val (.long q1), .second, .val (.long v110), .second] [(.long (own_inv (-4658895280553007687 : Int64))), (.long v110)])) := fun t k => p113 t (st114 _ k)
  have p117 : Go p.tables e below _ (T114.setTop (mkF m 42 #[.val (.long q1), .second, .val (.long (v110 * (own_inv (-4658895280553007687 : Int64)))), .second] [])) := fun t k => p115 t (by
    show Steps p.tables e below (T114.setTop (mkF m 40 #[.val (.long q1), .second, .val (.long v110), .second] [(.long (own_inv (-4658895280553007687 : Int64))), (.long v110)])) _
    refine XS.lmul X114.here hx rfl (hb hby d4_40) rfl ?_
    show Steps p.tables e below (T114.setTop (mkF m 41 #[.val (.long q1), .second, .val (.long v110), .second] [(.long (v110 * (own_inv (-4658895280553007687 : Int64))))])) _
    refine XS.lstoreN X114.here hx rfl (hb hby d4_41) rfl (l' := #[.val (.long q1), .second, .val (.long (v110 * (own_inv (-4658895280553007687 : Int64)))), .second]) rfl ?_
    show Steps p.tables e below (T114.setTop (mkF m 42 #[.val (.long q1), .second, .val (.long (v110 * (own_inv (-4658895280553007687 : Int64)))), .second] [])) _
    exact k)
  obtain ⟨v116, hv116⟩ : ∃ z, z = (v110 * (own_inv (-4658895280553007687 : Int64))) := ⟨_, rfl⟩
  have p118 : Go p.tables e below (s₁.setTop (entryFrame m #[(.long q1)] 4)) (T114.setTop (mkF m 42 #[.val (.long q1), .second, .val (.long v116), .second] [])) := by rw [hv116]; exact p117
  have p120 : Go p.tables e below _ (T114.setTop (mkF m 54 #[.val (.long q1), .second, .val (.long ((v116 ^^^ ((v116.toUInt64 >>> (30 : UInt64)).toInt64)) ^^^ ((v116.toUInt64 >>> (60 : UInt64)).toInt64))), .second] [])) := fun t k => p118 t (by
    show Steps p.tables e below (T114.setTop (mkF m 42 #[.val (.long q1), .second, .val (.long v116), .second] [])) _
    refine XS.lloadN X114.here hx rfl (hb hby d4_42) rfl ?_
    show Steps p.tables e below (T114.setTop (mkF m 43 #[.val (.long q1), .second, .val (.long v116), .second] [(.long v116)])) _
    refine XS.lloadN X114.here hx rfl (hb hby d4_43) rfl ?_
    show Steps p.tables e below (T114.setTop (mkF m 44 #[.val (.long q1), .second, .val (.long v116), .second] [(.long v116), (.long v116)])) _
    refine XS.bipush X114.here hx rfl (hb hby d4_44) ?_
    show Steps p.tables e below (T114.setTop (mkF m 46 #[.val (.long q1), .second, .val (.long v116), .second] [(.int (30 : Int32)), (.long v116), (.long v116)])) _
    refine XS.lushr X114.here hx rfl (hb hby d4_46) rfl ?_
    show Steps p.tables e below (T114.setTop (mkF m 47 #[.val (.long q1), .second, .val (.long v116), .second] [(.long ((v116.toUInt64 >>> (30 : UInt64)).toInt64)), (.long v116)])) _
    refine XS.lxor X114.here hx rfl (hb hby d4_47) rfl ?_
    show Steps p.tables e below (T114.setTop (mkF m 48 #[.val (.long q1), .second, .val (.long v116), .second] [(.long (v116 ^^^ ((v116.toUInt64 >>> (30 : UInt64)).toInt64)))])) _
    refine XS.lloadN X114.here hx rfl (hb hby d4_48) rfl ?_
    show Steps p.tables e below (T114.setTop (mkF m 49 #[.val (.long q1), .second, .val (.long v116), .second] [(.long v116), (.long (v116 ^^^ ((v116.toUInt64 >>> (30 : UInt64)).toInt64)))])) _
    refine XS.bipush X114.here hx rfl (hb hby d4_49) ?_
    show Steps p.tables e below (T114.setTop (mkF m 51 #[.val (.long q1), .second, .val (.long v116), .second] [(.int (60 : Int32)), (.long v116), (.long (v116 ^^^ ((v116.toUInt64 >>> (30 : UInt64)).toInt64)))])) _
    refine XS.lushr X114.here hx rfl (hb hby d4_51) rfl ?_
    show Steps p.tables e below (T114.setTop (mkF m 52 #[.val (.long q1), .second, .val (.long v116), .second] [(.long ((v116.toUInt64 >>> (60 : UInt64)).toInt64)), (.long (v116 ^^^ ((v116.toUInt64 >>> (30 : UInt64)).toInt64)))])) _
    refine XS.lxor X114.here hx rfl (hb hby d4_52) rfl ?_
    show Steps p.tables e below (T114.setTop (mkF m 53 #[.val (.long q1), .second, .val (.long v116), .second] [(.long ((v116 ^^^ ((v116.toUInt64 >>> (30 : UInt64)).toInt64)) ^^^ ((v116.toUInt64 >>> (60 : UInt64)).toInt64)))])) _
    refine XS.lstoreN X114.here hx rfl (hb hby d4_53) rfl (l' := #[.val (.long q1), .second, .val (.long ((v116 ^^^ ((v116.toUInt64 >>> (30 : UInt64)).toInt64)) ^^^ ((v116.toUInt64 >>> (60 : UInt64)).toInt64))), .second]) rfl ?_
    show Steps p.tables e below (T114.setTop (mkF m 54 #[.val (.long q1), .second, .val (.long ((v116 ^^^ ((v116.toUInt64 >>> (30 : UInt64)).toInt64)) ^^^ ((v116.toUInt64 >>> (60 : UInt64)).toInt64))), .second] [])) _
    exact k)
  obtain ⟨v119, hv119⟩ : ∃ z, z = ((v116 ^^^ ((v116.toUInt64 >>> (30 : UInt64)).toInt64)) ^^^ ((v116.toUInt64 >>> (60 : UInt64)).toInt64)) := ⟨_, rfl⟩
  have p121 : Go p.tables e below (s₁.setTop (entryFrame m #[(.long q1)] 4)) (T114.setTop (mkF m 54 #[.val (.long q1), .second, .val (.long v119), .second] [])) := by rw [hv119]; exact p120
  have p122 : Go p.tables e below _ (T114.setTop (mkF m 55 #[.val (.long q1), .second, .val (.long v119), .second] [(.long v119)])) := fun t k => p121 t (by
    show Steps p.tables e below (T114.setTop (mkF m 54 #[.val (.long q1), .second, .val (.long v119), .second] [])) _
    refine XS.lloadN X114.here hx rfl (hb hby d4_54) rfl ?_
    show Steps p.tables e below (T114.setTop (mkF m 55 #[.val (.long q1), .second, .val (.long v119), .second] [(.long v119)])) _
    exact k)
  obtain ⟨fs, hr, hrun, hended, hW, hsame⟩ := X114.leave (v := some (.long v119)) (fun h => by rw [Bd.returns] at h; cases h)
  refine ⟨_, _, p122 _ (retOut X114 hx (w := (.long v119)) (t := .long) (i := .lreturn) Bd.returns rfl (Or.inr (Or.inl ⟨rfl, rfl, _, rfl⟩)) (hb hby d4_55) hr), hrun, hended, _, _, rfl, ?_, ⟨_, rfl⟩, hW, hsame.mono (by decide) (by decide)⟩
  show Q4 Z q1 h0 n0 _ T114.heap _
  rw [q114_hh]
  exact ⟨by subst hv101 hv107 hv110 hv116 hv119; rfl, N114, rfl⟩
theorem pd1 : parseMethodDescriptor "(J)V" = some ⟨[.long], none⟩ := by decide +kernel
theorem pd2 : parseMethodDescriptor "()J" = some ⟨[], some .long⟩ := by decide +kernel
theorem pn0 : plainFor (⟨"com/example/arcward/arcward/generator/SplitMixNextPinLaw", "law", "(J)Z"⟩ : MethodName) = true := plainFor_of_name (by first | (simp [plainName, overriddenIn]; done) | decide +kernel)
theorem ef_rm0 (m : MethodId) (q1 : Int64) : entryFrame m #[(.long q1)] maxLocals = mkF m 0 #[.val (.long q1), .second, .unset, .unset, .unset, .unset, .unset, .unset, .unset] [] := by first | (simp [entryFrame, mkF, argsToLocals, Value.category, maxLocals]; done) | rfl
def Q0 (Z : State) (q1 : Int64) (h0 : Heap) (n0 : Nat) (v : Option Value) (h : Heap) (L : List Loc) : Prop := v = some (.int (1 : Int32)) ∧ Fr n0 L
set_option maxRecDepth 65536 in
set_option maxHeartbeats 40000000 in
theorem rm0 (l : Launch) (Z : State) (a0 : Array Value) (hw : ∀ d ∈ tables_1, d.before a0 Z = true) (ws : List Jvm.Cond) (q1 : Int64) (h0 : Heap) (n0 : Nat) (Z0 : n0 ≤ h0.size) :
    MetFree l x (head1 (Jvm.Cond.code x code maxLocals ret :: ws) room_1) (fun a U => a = #[(.long q1)] ∧ Z.Warmed39 U.vm ∧ U.heap = h0) (fun _ _ _ _ _ => True) (fun _ U o U' => ∃ v L, o = .returned v ∧ Q0 Z q1 h0 n0 v U'.heap L ∧ FrameEnd U o U' L room_1.cells room_1.slots) := by
  refine MetFree.of_bodySF pn0 hisR ?_
  intro p e s m args below meth c s₁ Bd hml0 hP hK
  obtain ⟨rfl, hZ, hh⟩ := hP
  have hx := Bd.exec
  have hby := Bd.bytes
  have hml : c.maxLocals = 9 := hml0
  have hown : s.vm.findClass "com/example/arcward/arcward/generator/SplitMixNextPinLaw" = some m.cls := findClass_of_methodNamed Bd.named
  have hnm := (name_of_methodNamed Bd.named Bd.method).1
  have X0 : Stand p l e room_1 s m #[(.long q1)] below meth c s₁ [] 0 0 := Stand.of_body Bd
  have e0 : s₁.heap = h0 := by rw [← hh, Bd.state]; rfl
  have N0 := Fr.nil n0
  have p0 : Go p.tables e below (s₁.setTop (entryFrame m #[(.long q1)] maxLocals)) (s₁.setTop (mkF m 0 #[.val (.long q1), .second, .unset, .unset, .unset, .unset, .unset, .unset, .unset] [])) := fun t k => castTop (ef_rm0 m q1) k
  obtain ⟨T101, h101, X101, e101, E101, A101, D101, -, st101⟩ := newO X0 hx hZ hown (own_w hw 0 rfl) (own_w hw 1 rfl) (own_w hw 2 rfl) e0 (g := (mkF m 0 #[.val (.long q1), .second, .unset, .unset, .unset, .unset, .unset, .unset, .unset] [])) rfl (hb hby at_0) (by decide) (by decide)
  obtain ⟨b101, g101⟩ : ∃ z, z = h0.size := ⟨_, rfl⟩
  rw [← g101] at A101 D101 st101
  have ge_b101 : n0 ≤ b101 := Nat.le_trans (Nat.le_trans Z0 (Keep.refl h0 []).1) (Nat.le_of_eq g101.symm)
  have sz_b101 : h0.size ≤ b101 := Nat.le_trans (Keep.refl h0 []).1 (Nat.le_of_eq g101.symm)
  have K102 : Keep h0 h101 [] := (Keep.refl h0 []).ext E101
  have p103 : Go p.tables e below _ (T101.setTop (mkF m 3 #[.val (.long q1), .second, .unset, .unset, .unset, .unset, .unset, .unset, .unset] [(.ref b101)])) := fun t k => p0 t (st101 t k)
  have F101_state : Fld Z h101 b101 "com/example/arcward/arcward/generator/SplitMix" "state" "J" (.long (0 : Int64)) := D101 (Or.inl (own_w hw 10 rfl)) (ty := .long) (by decide)
  have p104 : Go p.tables e below _ (T101.setTop (mkF m 5 #[.val (.long q1), .second, .unset, .unset, .unset, .unset, .unset, .unset, .unset] [(.long q1), (.ref b101), (.ref b101)])) := fun t k => p103 t (by
    show Steps p.tables e below (T101.setTop (mkF m 3 #[.val (.long q1), .second, .unset, .unset, .unset, .unset, .unset, .unset, .unset] [(.ref b101)])) _
    refine XS.dup X101.here hx rfl (hb hby at_3) rfl rfl ?_
    show Steps p.tables e below (T101.setTop (mkF m 4 #[.val (.long q1), .second, .unset, .unset, .unset, .unset, .unset, .unset, .unset] [(.ref b101), (.ref b101)])) _
    refine XS.lloadN X101.here hx rfl (hb hby at_4) rfl ?_
    show Steps p.tables e below (T101.setTop (mkF m 5 #[.val (.long q1), .second, .unset, .unset, .unset, .unset, .unset, .unset, .unset] [(.long q1), (.ref b101), (.ref b101)])) _
    exact k)
  obtain ⟨_, _, ⟨T105, L105, k105, n105⟩, -, X105, ⟨Lc105, hQ105, l105, y105, z105⟩, st105⟩ := X101.specialBack hx (y := (⟨"com/example/arcward/arcward/generator/SplitMix", "<init>", "(J)V"⟩ : MethodName)) rfl hown (mvT hZ (own_w hw 3 rfl)) (mvT hZ (own_w hw 4 rfl)) (mvT hZ (own_w hw 5 rfl)) (by decide) (backOf (W := 1) (rm1 l Z a0 hw [] b101 q1 h101 n0 (Nat.le_trans Z0 K102.1) F101_state A101 ge_b101) hZ (own_w hw 5 rfl) (own_w hw 2 rfl) (by decide) (by decide)) (g := (mkF m 5 #[.val (.long q1), .second, .unset, .unset, .unset, .unset, .unset, .unset, .unset] [(.long q1), (.ref b101), (.ref b101)])) rfl (by rw [hml]; rfl) (Steps.refl _) (a := b101) (argsL := [(.long q1)]) (rest := [(.ref b101)]) (lenOf pd1 rfl) rfl (by show 2 * 0 + _ ≤ _; exact Nat.le_of_eq rfl) (hb hby at_5) (fun _ _ => ⟨rfl, e101, (by decide : 1 + 0 ≤ _), (by decide : 1 + 0 ≤ _)⟩)
  dsimp only [Pt.U, Pt.locs, Pt.cells, Pt.slots] at X105 l105 y105 z105 st105 hQ105
  subst l105 y105 z105
  obtain ⟨rfl, N105q, q105_K, q105_E, q105_S⟩ := hQ105
  have N105 := Fr.app N0 N105q
  have K106 : Keep h0 T105.heap [] := K102.trans q105_K (allS (Or.inr sz_b101) all0)
  have p107 : Go p.tables e below _ (T105.setTop (mkF m 8 #[.val (.long q1), .second, .unset, .unset, .unset, .unset, .unset, .unset, .unset] [(.ref b101)])) := fun t k => p104 t (st105.trans k)
  have p108 : Go p.tables e below _ (T105.setTop (mkF m 10 #[.val (.long q1), .second, .val (.ref b101), .unset, .unset, .unset, .unset, .unset, .unset] [(.ref b101)])) := fun t k => p107 t (by
    show Steps p.tables e below (T105.setTop (mkF m 8 #[.val (.long q1), .second, .unset, .unset, .unset, .unset, .unset, .unset, .unset] [(.ref b101)])) _
    refine XS.astoreN X105.here hx rfl (hb hby at_8) rfl rfl (l' := #[.val (.long q1), .second, .val (.ref b101), .unset, .unset, .unset, .unset, .unset, .unset]) rfl ?_
    show Steps p.tables e below (T105.setTop (mkF m 9 #[.val (.long q1), .second, .val (.ref b101), .unset, .unset, .unset, .unset, .unset, .unset] [])) _
    refine XS.aloadN X105.here hx rfl (hb hby at_9) rfl rfl ?_
    show Steps p.tables e below (T105.setTop (mkF m 10 #[.val (.long q1), .second, .val (.ref b101), .unset, .unset, .unset, .unset, .unset, .unset] [(.ref b101)])) _
    exact k)
  obtain ⟨cq109, kq109, q109a, q109b, q109c⟩ := isOf hZ rfl q105_E
  obtain ⟨_, _, ⟨T109, L109, k109, n109⟩, -, X109, ⟨Lc109, hQ109, l109, y109, z109⟩, st109⟩ := X105.virtualBack hx (y := (⟨"com/example/arcward/arcward/generator/SplitMix", "next", "()J"⟩ : MethodName)) (z := (⟨"com/example/arcward/arcward/generator/SplitMix", "next", "()J"⟩ : MethodName)) hown (mvT hZ (own_w hw 11 rfl)) (mvT hZ (own_w hw 12 rfl)) (notFace_of_selects (args := #[]) (mvT hZ (own_w hw 14 rfl))) (mvT hZ (own_w hw 14 rfl)) (mvT hZ (own_w hw 13 rfl)) (by decide) (backOf (W := 0) (rm3 l Z a0 hw [] b101 q1 T105.heap n0 (Nat.le_trans Z0 K106.1) q105_S q105_E ge_b101) hZ (own_w hw 15 rfl) (own_w hw 2 rfl) (by decide) (by decide)) q109a q109c (g := (mkF m 10 #[.val (.long q1), .second, .val (.ref b101), .unset, .unset, .unset, .unset, .unset, .unset] [(.ref b101)])) rfl (by rw [hml]; rfl) (Steps.refl _) (argsL := []) (rest := []) (lenOf pd2 rfl) rfl (by show 2 * 0 + _ ≤ _; exact Nat.le_of_eq rfl) (hb hby at_10) (fun _ _ => ⟨rfl, rfl, (by decide : 1 + 0 ≤ _), (by decide : 1 + 0 ≤ _)⟩)
  dsimp only [Pt.U, Pt.locs, Pt.cells, Pt.slots] at X109 l109 y109 z109 st109 hQ109
  subst l109 y109 z109
  obtain ⟨rfl, N109q, q109_K, q109_E, q109_S⟩ := hQ109
  have N109 := Fr.app N105 N109q
  have K110 : Keep h0 T109.heap [] := K106.trans q109_K (allS (Or.inr sz_b101) all0)
  have p111 : Go p.tables e below _ (T109.setTop (mkF m 13 #[.val (.long q1), .second, .val (.ref b101), .unset, .unset, .unset, .unset, .unset, .unset] [(.long (own_mix (q1 + (-7046029254386353131 : Int64))))])) := fun t k => p108 t (st109.trans k)
  have p112 : Go p.tables e below _ (T109.setTop (mkF m 15 #[.val (.long q1), .second, .val (.ref b101), .val (.long (own_mix (q1 + (-7046029254386353131 : Int64)))), .second, .unset, .unset, .unset, .unset] [(.ref b101)])) := fun t k => p111 t (by
    show Steps p.tables e below (T109.setTop (mkF m 13 #[.val (.long q1), .second, .val (.ref b101), .unset, .unset, .unset, .unset, .unset, .unset] [(.long (own_mix (q1 + (-7046029254386353131 : Int64))))])) _
    refine XS.lstoreN X109.here hx rfl (hb hby at_13) rfl (l' := #[.val (.long q1), .second, .val (.ref b101), .val (.long (own_mix (q1 + (-7046029254386353131 : Int64)))), .second, .unset, .unset, .unset, .unset]) rfl ?_
    show Steps p.tables e below (T109.setTop (mkF m 14 #[.val (.long q1), .second, .val (.ref b101), .val (.long (own_mix (q1 + (-7046029254386353131 : Int64)))), .second, .unset, .unset, .unset, .unset] [])) _
    refine XS.aloadN X109.here hx rfl (hb hby at_14) rfl rfl ?_
    show Steps p.tables e below (T109.setTop (mkF m 15 #[.val (.long q1), .second, .val (.ref b101), .val (.long (own_mix (q1 + (-7046029254386353131 : Int64)))), .second, .unset, .unset, .unset, .unset] [(.ref b101)])) _
    exact k)
  obtain ⟨cq113, kq113, q113a, q113b, q113c⟩ := isOf hZ rfl q109_E
  obtain ⟨_, _, ⟨T113, L113, k113, n113⟩, -, X113, ⟨Lc113, hQ113, l113, y113, z113⟩, st113⟩ := X109.virtualBack hx (y := (⟨"com/example/arcward/arcward/generator/SplitMix", "next", "()J"⟩ : MethodName)) (z := (⟨"com/example/arcward/arcward/generator/SplitMix", "next", "()J"⟩ : MethodName)) hown (mvT hZ (own_w hw 11 rfl)) (mvT hZ (own_w hw 12 rfl)) (notFace_of_selects (args := #[]) (mvT hZ (own_w hw 14 rfl))) (mvT hZ (own_w hw 14 rfl)) (mvT hZ (own_w hw 13 rfl)) (by decide) (backOf (W := 0) (rm3 l Z a0 hw [] b101 (q1 + (-7046029254386353131 : Int64)) T109.heap n0 (Nat.le_trans Z0 K110.1) q109_S q109_E ge_b101) hZ (own_w hw 15 rfl) (own_w hw 2 rfl) (by decide) (by decide)) q113a q113c (g := (mkF m 15 #[.val (.long q1), .second, .val (.ref b101), .val (.long (own_mix (q1 + (-7046029254386353131 : Int64)))), .second, .unset, .unset, .unset, .unset] [(.ref b101)])) rfl (by rw [hml]; rfl) (Steps.refl _) (argsL := []) (rest := []) (lenOf pd2 rfl) rfl (by show 2 * 0 + _ ≤ _; exact Nat.le_of_eq rfl) (hb hby at_15) (fun _ _ => ⟨rfl, rfl, (by decide : 1 + 0 ≤ _), (by decide : 1 + 0 ≤ _)⟩)
  dsimp only [Pt.U, Pt.locs, Pt.cells, Pt.slots] at X113 l113 y113 z113 st113 hQ113
  subst l113 y113 z113
  obtain ⟨rfl, N113q, q113_K, q113_E, q113_S⟩ := hQ113
  have N113 := Fr.app N109 N113q
  have K114 : Keep h0 T113.heap [] := K110.trans q113_K (allS (Or.inr sz_b101) all0)
  have p115 : Go p.tables e below _ (T113.setTop (mkF m 18 #[.val (.long q1), .second, .val (.ref b101), .val (.long (own_mix (q1 + (-7046029254386353131 : Int64)))), .second, .unset, .unset, .unset, .unset] [(.long (own_mix ((q1 + (-7046029254386353131 : Int64)) + (-7046029254386353131 : Int64))))])) := fun t k => p112 t (st113.trans k)
  have p116 : Go p.tables e below _ (T113.setTop (mkF m 26 #[.val (.long q1), .second, .val (.ref b101), .val (.long (own_mix (q1 + (-7046029254386353131 : Int64)))), .second, .val (.long (own_mix ((q1 + (-7046029254386353131 : Int64)) + (-7046029254386353131 : Int64)))), .second, .val (.long (-7046029254386353131 : Int64)), .second] [(.long (own_mix (q1 + (-7046029254386353131 : Int64))))])) := fun t k => p115 t (by
    show Steps p.tables e below (T113.setTop (mkF m 18 #[.val (.long q1), .second, .val (.ref b101), .val (.long (own_mix (q1 + (-7046029254386353131 : Int64)))), .second, .unset, .unset, .unset, .unset] [(.long (own_mix ((q1 + (-7046029254386353131 : Int64)) + (-7046029254386353131 : Int64))))])) _
    refine XS.lstore X113.here hx rfl (hb hby at_18) rfl (l' := #[.val (.long q1), .second, .val (.ref b101), .val (.long (own_mix (q1 + (-7046029254386353131 : Int64)))), .second, .val (.long (own_mix ((q1 + (-7046029254386353131 : Int64)) + (-7046029254386353131 : Int64)))), .second, .unset, .unset]) rfl ?_
    show Steps p.tables e below (T113.setTop (mkF m 20 #[.val (.long q1), .second, .val (.ref b101), .val (.long (own_mix (q1 + (-7046029254386353131 : Int64)))), .second, .val (.long (own_mix ((q1 + (-7046029254386353131 : Int64)) + (-7046029254386353131 : Int64)))), .second, .unset, .unset] [])) _
    refine X113.ldc2Long hx hown (mvT hZ (own_w hw 19 rfl)) (g := (mkF m 20 #[.val (.long q1), .second, .val (.ref b101), .val (.long (own_mix (q1 + (-7046029254386353131 : Int64)))), .second, .val (.long (own_mix ((q1 + (-7046029254386353131 : Int64)) + (-7046029254386353131 : Int64)))), .second, .unset, .unset] [])) rfl (hb hby at_20) _ ?_
    show Steps p.tables e below (T113.setTop (mkF m 23 #[.val (.long q1), .second, .val (.ref b101), .val (.long (own_mix (q1 + (-7046029254386353131 : Int64)))), .second, .val (.long (own_mix ((q1 + (-7046029254386353131 : Int64)) + (-7046029254386353131 : Int64)))), .second, .unset, .unset] [(.long (-7046029254386353131 : Int64))])) _
    refine XS.lstore X113.here hx rfl (hb hby at_23) rfl (l' := #[.val (.long q1), .second, .val (.ref b101), .val (.long (own_mix (q1 + (-7046029254386353131 : Int64)))), .second, .val (.long (own_mix ((q1 + (-7046029254386353131 : Int64)) + (-7046029254386353131 : Int64)))), .second, .val (.long (-7046029254386353131 : Int64)), .second]) rfl ?_
    show Steps p.tables e below (T113.setTop (mkF m 25 #[.val (.long q1), .second, .val (.ref b101), .val (.long (own_mix (q1 + (-7046029254386353131 : Int64)))), .second, .val (.long (own_mix ((q1 + (-7046029254386353131 : Int64)) + (-7046029254386353131 : Int64)))), .second, .val (.long (-7046029254386353131 : Int64)), .second] [])) _
    refine XS.lloadN X113.here hx rfl (hb hby at_25) rfl ?_
    show Steps p.tables e below (T113.setTop (mkF m 26 #[.val (.long q1), .second, .val (.ref b101), .val (.long (own_mix (q1 + (-7046029254386353131 : Int64)))), .second, .val (.long (own_mix ((q1 + (-7046029254386353131 : Int64)) + (-7046029254386353131 : Int64)))), .second, .val (.long (-7046029254386353131 : Int64)), .second] [(.long (own_mix (q1 + (-7046029254386353131 : Int64))))])) _
    exact k)
  obtain ⟨_, _, ⟨T117, L117, k117, n117⟩, -, X117, ⟨Lc117, hQ117, l117, y117, z117⟩, st117⟩ := Jvm.LawKit.callS X113 hx (y := (⟨"com/example/arcward/arcward/generator/SplitMixNextPinLaw", "unmix", "(J)J"⟩ : MethodName)) hown (mvT hZ (own_w hw 20 rfl)) (mvT hZ (own_w hw 21 rfl)) (mvT hZ (own_w hw 22 rfl)) (mvT hZ (own_w hw 23 rfl)) (by decide) (backOf (W := 0) (rm4 l Z a0 hw [] (own_mix (q1 + (-7046029254386353131 : Int64))) T113.heap n0 (Nat.le_trans Z0 K114.1) ) hZ (own_w hw 23 rfl) (own_w hw 22 rfl) (by decide) (by decide)) (g := (mkF m 26 #[.val (.long q1), .second, .val (.ref b101), .val (.long (own_mix (q1 + (-7046029254386353131 : Int64)))), .second, .val (.long (own_mix ((q1 + (-7046029254386353131 : Int64)) + (-7046029254386353131 : Int64)))), .second, .val (.long (-7046029254386353131 : Int64)), .second] [(.long (own_mix (q1 + (-7046029254386353131 : Int64))))])) rfl (by rw [hml]; rfl) (argsL := [(.long (own_mix (q1 + (-7046029254386353131 : Int64))))]) (rest := []) (lenOf pd0 rfl) rfl (by show 2 * 0 + _ ≤ _; exact Nat.le_of_eq rfl) (hb hby at_26) (fun _ _ => ⟨rfl, rfl, (by decide : 1 + 0 ≤ _), (by decide : 1 + 0 ≤ _)⟩)
  dsimp only [Pt.U, Pt.locs, Pt.cells, Pt.slots] at X117 l117 y117 z117 st117 hQ117
  subst l117 y117 z117
  obtain ⟨rfl, N117q, q117_hh⟩ := hQ117
  have N117 := Fr.app N113 N117q
  have p118 : Go p.tables e below _ (T117.setTop (mkF m 29 #[.val (.long q1), .second, .val (.ref b101), .val (.long (own_mix (q1 + (-7046029254386353131 : Int64)))), .second, .val (.long (own_mix ((q1 + (-7046029254386353131 : Int64)) + (-7046029254386353131 : Int64)))), .second, .val (.long (-7046029254386353131 : Int64)), .second] [(.long (own_unmix (own_mix (q1 + (-7046029254386353131 : Int64)))))])) := fun t k => p116 t (st117 _ k)
  have p119 : Go p.tables e below _ (T117.setTop (mkF m 34 #[.val (.long q1), .second, .val (.ref b101), .val (.long (own_mix (q1 + (-7046029254386353131 : Int64)))), .second, .val (.long (own_mix ((q1 + (-7046029254386353131 : Int64)) + (-7046029254386353131 : Int64)))), .second, .val (.long (-7046029254386353131 : Int64)), .second] [(.int (lcmpW (own_unmix (own_mix (q1 + (-7046029254386353131 : Int64)))) (q1 + (-7046029254386353131 : Int64))))])) := fun t k => p118 t (by
    show Steps p.tables e below (T117.setTop (mkF m 29 #[.val (.long q1), .second, .val (.ref b101), .val (.long (own_mix (q1 + (-7046029254386353131 : Int64)))), .second, .val (.long (own_mix ((q1 + (-7046029254386353131 : Int64)) + (-7046029254386353131 : Int64)))), .second, .val (.long (-7046029254386353131 : Int64)), .second] [(.long (own_unmix (own_mix (q1 + (-7046029254386353131 : Int64)))))])) _
    refine XS.lloadN X117.here hx rfl (hb hby at_29) rfl ?_
    show Steps p.tables e below (T117.setTop (mkF m 30 #[.val (.long q1), .second, .val (.ref b101), .val (.long (own_mix (q1 + (-7046029254386353131 : Int64)))), .second, .val (.long (own_mix ((q1 + (-7046029254386353131 : Int64)) + (-7046029254386353131 : Int64)))), .second, .val (.long (-7046029254386353131 : Int64)), .second] [(.long q1), (.long (own_unmix (own_mix (q1 + (-7046029254386353131 : Int64)))))])) _
    refine XS.lload X117.here hx rfl (hb hby at_30) rfl ?_
    show Steps p.tables e below (T117.setTop (mkF m 32 #[.val (.long q1), .second, .val (.ref b101), .val (.long (own_mix (q1 + (-7046029254386353131 : Int64)))), .second, .val (.long (own_mix ((q1 + (-7046029254386353131 : Int64)) + (-7046029254386353131 : Int64)))), .second, .val (.long (-7046029254386353131 : Int64)), .second] [(.long (-7046029254386353131 : Int64)), (.long q1), (.long (own_unmix (own_mix (q1 + (-7046029254386353131 : Int64)))))])) _
    refine XS.ladd X117.here hx rfl (hb hby at_32) rfl ?_
    show Steps p.tables e below (T117.setTop (mkF m 33 #[.val (.long q1), .second, .val (.ref b101), .val (.long (own_mix (q1 + (-7046029254386353131 : Int64)))), .second, .val (.long (own_mix ((q1 + (-7046029254386353131 : Int64)) + (-7046029254386353131 : Int64)))), .second, .val (.long (-7046029254386353131 : Int64)), .second] [(.long (q1 + (-7046029254386353131 : Int64))), (.long (own_unmix (own_mix (q1 + (-7046029254386353131 : Int64)))))])) _
    refine XS.lcmp X117.here hx rfl (hb hby at_33) rfl ?_
    show Steps p.tables e below (T117.setTop (mkF m 34 #[.val (.long q1), .second, .val (.ref b101), .val (.long (own_mix (q1 + (-7046029254386353131 : Int64)))), .second, .val (.long (own_mix ((q1 + (-7046029254386353131 : Int64)) + (-7046029254386353131 : Int64)))), .second, .val (.long (-7046029254386353131 : Int64)), .second] [(.int (lcmpW (own_unmix (own_mix (q1 + (-7046029254386353131 : Int64)))) (q1 + (-7046029254386353131 : Int64))))])) _
    exact k)
  have c120 : ((own_unmix (own_mix (q1 + (-7046029254386353131 : Int64)))) = (q1 + (-7046029254386353131 : Int64))) := own_um _
  have p121 : Go p.tables e below _ (T117.setTop (mkF m 39 #[.val (.long q1), .second, .val (.ref b101), .val (.long (own_mix (q1 + (-7046029254386353131 : Int64)))), .second, .val (.long (own_mix ((q1 + (-7046029254386353131 : Int64)) + (-7046029254386353131 : Int64)))), .second, .val (.long (-7046029254386353131 : Int64)), .second] [(.long (own_mix ((q1 + (-7046029254386353131 : Int64)) + (-7046029254386353131 : Int64))))])) := fun t k => p119 t (by
    show Steps p.tables e below (T117.setTop (mkF m 34 #[.val (.long q1), .second, .val (.ref b101), .val (.long (own_mix (q1 + (-7046029254386353131 : Int64)))), .second, .val (.long (own_mix ((q1 + (-7046029254386353131 : Int64)) + (-7046029254386353131 : Int64)))), .second, .val (.long (-7046029254386353131 : Int64)), .second] [(.int (lcmpW (own_unmix (own_mix (q1 + (-7046029254386353131 : Int64)))) (q1 + (-7046029254386353131 : Int64))))])) _
    refine XS.ifNo X117.here hx rfl (hb hby at_34) rfl ((if0 _ _).trans (teq ((lw_eq _ _).mpr c120)).2) ?_
    show Steps p.tables e below (T117.setTop (mkF m 37 #[.val (.long q1), .second, .val (.ref b101), .val (.long (own_mix (q1 + (-7046029254386353131 : Int64)))), .second, .val (.long (own_mix ((q1 + (-7046029254386353131 : Int64)) + (-7046029254386353131 : Int64)))), .second, .val (.long (-7046029254386353131 : Int64)), .second] [])) _
    refine XS.lload X117.here hx rfl (hb hby at_37) rfl ?_
    show Steps p.tables e below (T117.setTop (mkF m 39 #[.val (.long q1), .second, .val (.ref b101), .val (.long (own_mix (q1 + (-7046029254386353131 : Int64)))), .second, .val (.long (own_mix ((q1 + (-7046029254386353131 : Int64)) + (-7046029254386353131 : Int64)))), .second, .val (.long (-7046029254386353131 : Int64)), .second] [(.long (own_mix ((q1 + (-7046029254386353131 : Int64)) + (-7046029254386353131 : Int64))))])) _
    exact k)
  obtain ⟨_, _, ⟨T122, L122, k122, n122⟩, -, X122, ⟨Lc122, hQ122, l122, y122, z122⟩, st122⟩ := Jvm.LawKit.callS X117 hx (y := (⟨"com/example/arcward/arcward/generator/SplitMixNextPinLaw", "unmix", "(J)J"⟩ : MethodName)) hown (mvT hZ (own_w hw 20 rfl)) (mvT hZ (own_w hw 21 rfl)) (mvT hZ (own_w hw 22 rfl)) (mvT hZ (own_w hw 23 rfl)) (by decide) (backOf (W := 0) (rm4 l Z a0 hw [] (own_mix ((q1 + (-7046029254386353131 : Int64)) + (-7046029254386353131 : Int64))) T113.heap n0 (Nat.le_trans Z0 K114.1) ) hZ (own_w hw 23 rfl) (own_w hw 22 rfl) (by decide) (by decide)) (g := (mkF m 39 #[.val (.long q1), .second, .val (.ref b101), .val (.long (own_mix (q1 + (-7046029254386353131 : Int64)))), .second, .val (.long (own_mix ((q1 + (-7046029254386353131 : Int64)) + (-7046029254386353131 : Int64)))), .second, .val (.long (-7046029254386353131 : Int64)), .second] [(.long (own_mix ((q1 + (-7046029254386353131 : Int64)) + (-7046029254386353131 : Int64))))])) rfl (by rw [hml]; rfl) (argsL := [(.long (own_mix ((q1 + (-7046029254386353131 : Int64)) + (-7046029254386353131 : Int64))))]) (rest := []) (lenOf pd0 rfl) rfl (by show 2 * 0 + _ ≤ _; exact Nat.le_of_eq rfl) (hb hby at_39) (fun _ _ => ⟨rfl, q117_hh, (by decide : 1 + 0 ≤ _), (by decide : 1 + 0 ≤ _)⟩)
  dsimp only [Pt.U, Pt.locs, Pt.cells, Pt.slots] at X122 l122 y122 z122 st122 hQ122
  subst l122 y122 z122
  obtain ⟨rfl, N122q, q122_hh⟩ := hQ122
  have N122 := Fr.app N117 N122q
  have p123 : Go p.tables e below _ (T122.setTop (mkF m 42 #[.val (.long q1), .second, .val (.ref b101), .val (.long (own_mix (q1 + (-7046029254386353131 : Int64)))), .second, .val (.long (own_mix ((q1 + (-7046029254386353131 : Int64)) + (-7046029254386353131 : Int64)))), .second, .val (.long (-7046029254386353131 : Int64)), .second] [(.long (own_unmix (own_mix ((q1 + (-7046029254386353131 : Int64)) + (-7046029254386353131 : Int64)))))])) := fun t k => p121 t (st122 _ k)
  have p124 : Go p.tables e below _ (T122.setTop (mkF m 50 #[.val (.long q1), .second, .val (.ref b101), .val (.long (own_mix (q1 + (-7046029254386353131 : Int64)))), .second, .val (.long (own_mix ((q1 + (-7046029254386353131 : Int64)) + (-7046029254386353131 : Int64)))), .second, .val (.long (-7046029254386353131 : Int64)), .second] [(.int (lcmpW (own_unmix (own_mix ((q1 + (-7046029254386353131 : Int64)) + (-7046029254386353131 : Int64)))) ((q1 + (-7046029254386353131 : Int64)) + (-7046029254386353131 : Int64))))])) := fun t k => p123 t (by
    show Steps p.tables e below (T122.setTop (mkF m 42 #[.val (.long q1), .second, .val (.ref b101), .val (.long (own_mix (q1 + (-7046029254386353131 : Int64)))), .second, .val (.long (own_mix ((q1 + (-7046029254386353131 : Int64)) + (-7046029254386353131 : Int64)))), .second, .val (.long (-7046029254386353131 : Int64)), .second] [(.long (own_unmix (own_mix ((q1 + (-7046029254386353131 : Int64)) + (-7046029254386353131 : Int64)))))])) _
    refine XS.lloadN X122.here hx rfl (hb hby at_42) rfl ?_
    show Steps p.tables e below (T122.setTop (mkF m 43 #[.val (.long q1), .second, .val (.ref b101), .val (.long (own_mix (q1 + (-7046029254386353131 : Int64)))), .second, .val (.long (own_mix ((q1 + (-7046029254386353131 : Int64)) + (-7046029254386353131 : Int64)))), .second, .val (.long (-7046029254386353131 : Int64)), .second] [(.long q1), (.long (own_unmix (own_mix ((q1 + (-7046029254386353131 : Int64)) + (-7046029254386353131 : Int64)))))])) _
    refine XS.lload X122.here hx rfl (hb hby at_43) rfl ?_
    show Steps p.tables e below (T122.setTop (mkF m 45 #[.val (.long q1), .second, .val (.ref b101), .val (.long (own_mix (q1 + (-7046029254386353131 : Int64)))), .second, .val (.long (own_mix ((q1 + (-7046029254386353131 : Int64)) + (-7046029254386353131 : Int64)))), .second, .val (.long (-7046029254386353131 : Int64)), .second] [(.long (-7046029254386353131 : Int64)), (.long q1), (.long (own_unmix (own_mix ((q1 + (-7046029254386353131 : Int64)) + (-7046029254386353131 : Int64)))))])) _
    refine XS.ladd X122.here hx rfl (hb hby at_45) rfl ?_
    show Steps p.tables e below (T122.setTop (mkF m 46 #[.val (.long q1), .second, .val (.ref b101), .val (.long (own_mix (q1 + (-7046029254386353131 : Int64)))), .second, .val (.long (own_mix ((q1 + (-7046029254386353131 : Int64)) + (-7046029254386353131 : Int64)))), .second, .val (.long (-7046029254386353131 : Int64)), .second] [(.long (q1 + (-7046029254386353131 : Int64))), (.long (own_unmix (own_mix ((q1 + (-7046029254386353131 : Int64)) + (-7046029254386353131 : Int64)))))])) _
    refine XS.lload X122.here hx rfl (hb hby at_46) rfl ?_
    show Steps p.tables e below (T122.setTop (mkF m 48 #[.val (.long q1), .second, .val (.ref b101), .val (.long (own_mix (q1 + (-7046029254386353131 : Int64)))), .second, .val (.long (own_mix ((q1 + (-7046029254386353131 : Int64)) + (-7046029254386353131 : Int64)))), .second, .val (.long (-7046029254386353131 : Int64)), .second] [(.long (-7046029254386353131 : Int64)), (.long (q1 + (-7046029254386353131 : Int64))), (.long (own_unmix (own_mix ((q1 + (-7046029254386353131 : Int64)) + (-7046029254386353131 : Int64)))))])) _
    refine XS.ladd X122.here hx rfl (hb hby at_48) rfl ?_
    show Steps p.tables e below (T122.setTop (mkF m 49 #[.val (.long q1), .second, .val (.ref b101), .val (.long (own_mix (q1 + (-7046029254386353131 : Int64)))), .second, .val (.long (own_mix ((q1 + (-7046029254386353131 : Int64)) + (-7046029254386353131 : Int64)))), .second, .val (.long (-7046029254386353131 : Int64)), .second] [(.long ((q1 + (-7046029254386353131 : Int64)) + (-7046029254386353131 : Int64))), (.long (own_unmix (own_mix ((q1 + (-7046029254386353131 : Int64)) + (-7046029254386353131 : Int64)))))])) _
    refine XS.lcmp X122.here hx rfl (hb hby at_49) rfl ?_
    show Steps p.tables e below (T122.setTop (mkF m 50 #[.val (.long q1), .second, .val (.ref b101), .val (.long (own_mix (q1 + (-7046029254386353131 : Int64)))), .second, .val (.long (own_mix ((q1 + (-7046029254386353131 : Int64)) + (-7046029254386353131 : Int64)))), .second, .val (.long (-7046029254386353131 : Int64)), .second] [(.int (lcmpW (own_unmix (own_mix ((q1 + (-7046029254386353131 : Int64)) + (-7046029254386353131 : Int64)))) ((q1 + (-7046029254386353131 : Int64)) + (-7046029254386353131 : Int64))))])) _
    exact k)
  have c125 : ((own_unmix (own_mix ((q1 + (-7046029254386353131 : Int64)) + (-7046029254386353131 : Int64)))) = ((q1 + (-7046029254386353131 : Int64)) + (-7046029254386353131 : Int64))) := own_um _
  have p126 : Go p.tables e below _ (T122.setTop (mkF m 58 #[.val (.long q1), .second, .val (.ref b101), .val (.long (own_mix (q1 + (-7046029254386353131 : Int64)))), .second, .val (.long (own_mix ((q1 + (-7046029254386353131 : Int64)) + (-7046029254386353131 : Int64)))), .second, .val (.long (-7046029254386353131 : Int64)), .second] [(.int (1 : Int32))])) := fun t k => p124 t (by
    show Steps p.tables e below (T122.setTop (mkF m 50 #[.val (.long q1), .second, .val (.ref b101), .val (.long (own_mix (q1 + (-7046029254386353131 : Int64)))), .second, .val (.long (own_mix ((q1 + (-7046029254386353131 : Int64)) + (-7046029254386353131 : Int64)))), .second, .val (.long (-7046029254386353131 : Int64)), .second] [(.int (lcmpW (own_unmix (own_mix ((q1 + (-7046029254386353131 : Int64)) + (-7046029254386353131 : Int64)))) ((q1 + (-7046029254386353131 : Int64)) + (-7046029254386353131 : Int64))))])) _
    refine XS.ifNo X122.here hx rfl (hb hby at_50) rfl ((if0 _ _).trans (teq ((lw_eq _ _).mpr c125)).2) ?_
    show Steps p.tables e below (T122.setTop (mkF m 53 #[.val (.long q1), .second, .val (.ref b101), .val (.long (own_mix (q1 + (-7046029254386353131 : Int64)))), .second, .val (.long (own_mix ((q1 + (-7046029254386353131 : Int64)) + (-7046029254386353131 : Int64)))), .second, .val (.long (-7046029254386353131 : Int64)), .second] [])) _
    refine XS.iconst X122.here hx rfl (hb hby at_53) ?_
    show Steps p.tables e below (T122.setTop (mkF m 54 #[.val (.long q1), .second, .val (.ref b101), .val (.long (own_mix (q1 + (-7046029254386353131 : Int64)))), .second, .val (.long (own_mix ((q1 + (-7046029254386353131 : Int64)) + (-7046029254386353131 : Int64)))), .second, .val (.long (-7046029254386353131 : Int64)), .second] [(.int (1 : Int32))])) _
    refine XS.goto X122.here hx rfl (pc0 := 54) (pc' := 58) rfl (hb hby at_54) (by decide) (by decide) ?_
    show Steps p.tables e below (T122.setTop (mkF m 58 #[.val (.long q1), .second, .val (.ref b101), .val (.long (own_mix (q1 + (-7046029254386353131 : Int64)))), .second, .val (.long (own_mix ((q1 + (-7046029254386353131 : Int64)) + (-7046029254386353131 : Int64)))), .second, .val (.long (-7046029254386353131 : Int64)), .second] [(.int (1 : Int32))])) _
    exact k)
  obtain ⟨fs, hr, hrun, hended, hW, hsame⟩ := X122.leave (v := some (.int (1 : Int32))) (fun h => by rw [Bd.returns] at h; cases h)
  refine ⟨_, _, p126 _ (retN X122 hx (t := .boolean) Bd.returns (by simp) (hb hby at_58) hr), hrun, hended, _, _, rfl, ?_, ⟨_, rfl⟩, hW, hsame.mono (by decide) (by decide)⟩
  show Q0 Z q1 h0 n0 _ T122.heap _
  rw [q122_hh]
  exact ⟨rfl, N122⟩
set_option maxRecDepth 65536 in
set_option maxHeartbeats 40000000 in
theorem comes_1 {Post : Tables → Env → Array Value → State → Outcome → State → Prop} (hpost : ∀ tb e args s v u, (limb_1_1.after args s (.returned v) u = true ∧ limb_1_2.after args s (.returned v) u = true ∧ True) → FrameEnd s (.returned v) u (Jvm.fieldLocs frame_1_writes args s ++ Jvm.arrayLocs frame_1_arrays args s ++ Jvm.staticLocs frame_1_statics s) 16 128 → Post tb e args s (.returned v) u) :
    ArmFor flags0 classFile x code maxLocals ret World_1 tables_1 room_1 Calls_1 rest_1 Pre_1 Post := by
  intro l hfl _ _ p e ha hc hk s m args below hf hA hF happ hP
  obtain ⟨hcalls, hrest, hpre⟩ := hP
  obtain ⟨-, -, -, hnamed, -, -, -, hat⟩ := (Spec.applies_iff hf).mp happ
  obtain ⟨hg, hn⟩ := and_e (Cond.before_iff.mp (show (Jvm.Cond.and given_1 narrow_1).before args s = true from hpre))
  obtain ⟨ga, gb0⟩ := and_e hg
  have gi0 := gb0
  obtain ⟨w0, rfl⟩ : ∃ w0 : Value, args = #[w0] := by
    have hs : args.size = 1 := by simpa [Cond.value, given_1] using ga
    obtain ⟨L⟩ := args
    match L, hs with
    | [w0], _ => exact ⟨w0, rfl⟩
  have hw := fun d (hd : d ∈ tables_1) => atoms_spec (ws := Jvm.Cond.code x code maxLocals ret :: tables_1) hat d (List.mem_cons_of_mem _ hd)
  have hfit : Fit s := fun {y c} hc i hi => by
    obtain ⟨ha, rfl⟩ := Array.getElem?_eq_some_iff.mp hc
    have q := List.all_eq_true.mp ((Array.all_eq_true_iff_forall_mem.mp hF) _ (Array.getElem_mem ha)) i (List.mem_range.mpr hi)
    simpa [Array.getElem?_eq_getElem hi] using q
  obtain ⟨i0, ei0⟩ := isL_v gi0
  obtain rfl : w0 = (.long i0) := Option.some.inj ei0
  obtain ⟨n, o, h1, h2, h3, _, L, rfl, ⟨rfl, N⟩, hq⟩ := rm0 l s _ hw tables_1 i0 s.heap s.heap.size (Nat.le_refl _) p e ha hc hk s m _ below hf ((Spec.applies_iff_loose hf).mp happ).1 ⟨rfl, State.Warmed39.refl s, rfl⟩ trivial
  refine ⟨n, _, h1, h2, h3, hpost _ _ _ _ _ _ ⟨Cond.after_iff.mpr rfl, Cond.after_iff.mpr (eq_i res_at (Term.int_eval (1)) rfl), trivial⟩ ⟨hq.1, hq.2.1, (hq.2.2.sift fun y hy => Or.inr (N y hy)).mono (by decide) (by decide)⟩⟩
theorem main_1_1 : Claimed_1_1 := comes_1 fun _ _ _ _ _ _ h hF => ⟨h.1, hF⟩
theorem main_1_2 : Claimed_1_2 := comes_1 fun _ _ _ _ _ _ h hF => ⟨h.2.1, hF⟩
end Jvm.Pilot.@@N@@
namespace Jvm.Pilot.@@N@@
open Jvm Jvm.ClassFile Sem Op Lib Jvm.Free Jvm.Stand Jvm.Pilot.@@N@@.Jvm.D
/-! MADE BY PROGRAM (witnessworld.py) out of the Statement's table words and the real class files: 9 classes; the members and pool entries that the words name. The judged class is class 1, her method 1. -/
namespace start1
open Jvm.ClassFile
def u (s : String) : CpInfo := .utf8 (stringToUtf16 s)
/-- a pool by its gaps: so many unusable entries, then the entry; so many at the end -/
def gap : Nat → List CpInfo → List CpInfo
  | 0, r => r
  | n + 1, r => .unusable :: gap n r
def poolList (es : List (Nat × CpInfo)) (last : Nat) : List CpInfo := es.foldr (fun e r => gap e.1 (e.2 :: r)) (gap last [])
def pool (es : List (Nat × CpInfo)) (last : Nat) : Array CpInfo := ⟨poolList es last⟩
def fileOf (pool : Array CpInfo) (this : Nat) (attrs : Array Attribute := #[]) (ms : Array MethodInfo := #[]) (fl : Nat := 33) (sup : Nat := 0) (ifs : Array Nat := #[]) (fds : Array FieldInfo := #[]) : ClassFile where
  minorVersion := 0
  majorVersion := 65
  constantPool := pool
  accessFlags := fl
  thisClass := this
  superClass := sup
  interfaces := ifs
  fields := fds
  methods := ms
  attributes := attrs
def plain (name : String) (sup : Option ClassId) : Class where
  name := name
  kind := .ordinary
  loader := none
  accessFlags := 33
  super := sup
  interfaces := #[]
  cf := none
  fields := #[]
  methods := #[]
  instanceTypes := #[]
  staticTypes := #[]
  resolved := #[]
  callSites := []
  init := .initialized
  statics := none
  mirror := none

def pool0 : Array CpInfo := pool [(5, u "<init>"), (0, u "()V"), (1, .class_ 10), (1, u "java/lang/Object")] 113

def k0c0 : Code := { maxStack := 0, maxLocals := 1, code := object_method_1_code, exceptionTable := #[], attributes := #[] }
def k0m0 : Method := { name := "<init>", desc := "()V", sig := { parameters := [], returnType := none }, accessFlags := 1, code := some k0c0 }
/-- java/lang/Object -/
def k0 : Class := { plain "java/lang/Object" none with
  accessFlags := 33
  interfaces := #[]
  cf := some (fileOf pool0 8 #[] #[{ accessFlags := 1, nameIndex := 5, descriptorIndex := 6, attributes := #[] }] 33 0 #[] #[])
  fields := #[]
  methods := #[k0m0]
  instanceTypes := #[]
  staticTypes := #[]
  resolved := Array.replicate 124 none
  statics := none }

def pool1 : Array CpInfo := pool [(2, .class_ 4), (1, u "java/lang/Object"), (0, u "<init>"), (0, u "()V"), (0, .class_ 8), (0, u "com/example/arcward/arcward/generator/SplitMix"), (0, .methodref 7 10), (0, .nameAndType 5 11), (0, u "(J)V"), (0, .methodref 7 13), (0, .nameAndType 14 15), (0, u "next"), (0, u "()J"), (0, .long 11400714819323198485), (1, .methodref 19 20), (0, .class_ 21), (0, .nameAndType 22 23), (0, u "com/example/arcward/arcward/generator/SplitMixNextPinLaw"), (0, u "unmix"), (0, u "(J)J"), (0, .long 2), (1, .long 10723151780598845931), (1, .methodref 19 29), (0, .nameAndType 30 23), (0, u "inverse"), (0, .long 13787848793156543929), (3, u "law"), (0, u "(J)Z")] 3

def k1m0 : Method := { name := "<init>", desc := "()V", sig := { parameters := [], returnType := none }, accessFlags := 1, code := none }
def k1c1 : Code := { maxStack := 6, maxLocals := 9, code := code, exceptionTable := #[], attributes := #[] }
def k1m1 : Method := { name := "law", desc := "(J)Z", sig := { parameters := [.long], returnType := some .boolean }, accessFlags := 9, code := some k1c1 }
def k1c2 : Code := { maxStack := 8, maxLocals := 4, code := method_3_code, exceptionTable := #[], attributes := #[] }
def k1m2 : Method := { name := "inverse", desc := "(J)J", sig := { parameters := [.long], returnType := some .long }, accessFlags := 10, code := some k1c2 }
def k1c3 : Code := { maxStack := 5, maxLocals := 4, code := method_4_code, exceptionTable := #[], attributes := #[] }
def k1m3 : Method := { name := "unmix", desc := "(J)J", sig := { parameters := [.long], returnType := some .long }, accessFlags := 10, code := some k1c3 }
/-- com/example/arcward/arcward/generator/SplitMixNextPinLaw -/
def k1 : Class := { plain "com/example/arcward/arcward/generator/SplitMixNextPinLaw" (some 0) with
  accessFlags := 49
  interfaces := #[]
  cf := some (fileOf pool1 19 #[] #[{ accessFlags := 1, nameIndex := 5, descriptorIndex := 6, attributes := #[] }, { accessFlags := 9, nameIndex := 35, descriptorIndex := 36, attributes := #[] }, { accessFlags := 10, nameIndex := 30, descriptorIndex := 23, attributes := #[] }, { accessFlags := 10, nameIndex := 22, descriptorIndex := 23, attributes := #[] }] 49 2 #[] #[])
  fields := #[]
  methods := #[k1m0, k1m1, k1m2, k1m3]
  instanceTypes := #[]
  staticTypes := #[]
  resolved := Array.replicate 40 none
  statics := none }

def pool2 : Array CpInfo := pool [(1, .methodref 2 3), (0, .class_ 4), (0, .nameAndType 5 6), (0, u "java/lang/Object"), (0, u "<init>"), (0, u "()V"), (0, .fieldref 8 9), (0, .class_ 10), (0, .nameAndType 11 12), (0, u "com/example/arcward/arcward/generator/SplitMix"), (0, u "state"), (0, u "J"), (0, .long 11400714819323198485), (1, .long 13787848793156543929), (1, .long 10723151780598845931), (12, u "next"), (0, u "()J"), (4, u "GAMMA"), (1, u "MIX_1"), (0, u "MIX_2"), (0, u "(J)V")] 22

def k2c0 : Code := { maxStack := 3, maxLocals := 3, code := prog_5_method_1_code, exceptionTable := #[], attributes := #[] }
def k2m0 : Method := { name := "<init>", desc := "(J)V", sig := { parameters := [.long], returnType := none }, accessFlags := 0, code := some k2c0 }
def k2c1 : Code := { maxStack := 5, maxLocals := 3, code := prog_5_method_2_code, exceptionTable := #[], attributes := #[] }
def k2m1 : Method := { name := "next", desc := "()J", sig := { parameters := [], returnType := some .long }, accessFlags := 0, code := some k2c1 }
/-- com/example/arcward/arcward/generator/SplitMix -/
def k2 : Class := { plain "com/example/arcward/arcward/generator/SplitMix" (some 0) with
  accessFlags := 48
  interfaces := #[]
  cf := some (fileOf pool2 8 #[] #[{ accessFlags := 0, nameIndex := 5, descriptorIndex := 40, attributes := #[] }, { accessFlags := 0, nameIndex := 30, descriptorIndex := 31, attributes := #[] }] 48 2 #[] #[{ accessFlags := 26, nameIndex := 36, descriptorIndex := 12, attributes := #[] }, { accessFlags := 26, nameIndex := 38, descriptorIndex := 12, attributes := #[] }, { accessFlags := 26, nameIndex := 39, descriptorIndex := 12, attributes := #[] }, { accessFlags := 2, nameIndex := 11, descriptorIndex := 12, attributes := #[] }])
  fields := #[{ name := "GAMMA", type := .long, accessFlags := 26, slot := 0, constantValue := 0 }, { name := "MIX_1", type := .long, accessFlags := 26, slot := 1, constantValue := 0 }, { name := "MIX_2", type := .long, accessFlags := 26, slot := 2, constantValue := 0 }, { name := "state", type := .long, accessFlags := 2, slot := 0, constantValue := 0 }]
  methods := #[k2m0, k2m1]
  instanceTypes := #[.long]
  staticTypes := #[.long, .long, .long]
  resolved := Array.replicate 63 none
  statics := none }

def pool3 : Array CpInfo := pool [(1, u "java/lang/Cloneable"), (0, .class_ 1), (0, u "java/lang/Object"), (0, .class_ 3)] 3

/-- java/lang/Cloneable -/
def k3 : Class := { plain "java/lang/Cloneable" (some 0) with
  accessFlags := 1537
  interfaces := #[]
  cf := some (fileOf pool3 2 #[] #[] 1537 4 #[] #[])
  fields := #[]
  methods := #[]
  instanceTypes := #[]
  staticTypes := #[]
  resolved := Array.replicate 8 none
  statics := none }

def pool4 : Array CpInfo := pool [(1, u "java/io/Serializable"), (0, .class_ 1), (0, u "java/lang/Object"), (0, .class_ 3)] 3

/-- java/io/Serializable -/
def k4 : Class := { plain "java/io/Serializable" (some 0) with
  accessFlags := 1537
  interfaces := #[]
  cf := some (fileOf pool4 2 #[] #[] 1537 4 #[] #[])
  fields := #[]
  methods := #[]
  instanceTypes := #[]
  staticTypes := #[]
  resolved := Array.replicate 8 none
  statics := none }

/-- the primitive byte -/
def k5 : Class := { plain "byte" none with kind := .primitive 'B', accessFlags := 0x411 }
/-- [B -/
def k6 : Class := { plain "[B" (some 0) with kind := .array 5 .byte, interfaces := #[3, 4], accessFlags := 1041 }

/-- the primitive int -/
def k7 : Class := { plain "int" none with kind := .primitive 'I', accessFlags := 0x411 }
/-- [I -/
def k8 : Class := { plain "[I" (some 0) with kind := .array 7 .int, interfaces := #[3, 4], accessFlags := 1041 }

def heap : Heap := #[]
def classes : Array Class := #[k0, k1, k2, k3, k4, k5, k6, k7, k8]
def interned : List (Array UInt16 × Addr) := []
def slotsUsed : Nat := 0
def theMethod : MethodId := ⟨1, 1⟩
def args0 : Array Value := #[.long 5]
def aboutOver (below : List Frame) : State where
  vm := { classes := classes, interned := interned.toArray }
  heap := heap
  slotsUsed := slotsUsed
  threads := #[{ frames := .invoking theMethod args0 :: below }]
def below0 : List Frame := [.native { method := ⟨0, 0⟩, args := #[] }]
def about1 : State := aboutOver below0
def p0 : Program := .bare "" "" ""
def e0 : Env := launch0.env 0 0 0
theorem w_frames : about1.frames = Frame.invoking theMethod args0 :: below0 := rfl
set_option maxRecDepth 65536 in
theorem w_args : argsFit about1.vm theMethod args0 = true := by decide +kernel
set_option maxRecDepth 65536 in
theorem w_heap : heapFits about1 = true := by decide +kernel
set_option maxRecDepth 65536 in
theorem w_runnable : about1.curStatus? = some .runnable := by decide +kernel
set_option maxRecDepth 65536 in
theorem w_alone : about1.alone = true := by decide +kernel
set_option maxRecDepth 65536 in
theorem w_named : about1.methodNamed? x = some theMethod := by decide +kernel
set_option maxRecDepth 65536 in
theorem w_hears : about1.hears theMethod below0 = true := by decide +kernel
set_option maxRecDepth 65536 in
theorem w_ripe : about1.ripe theMethod args0 below0 = true := by decide +kernel
theorem w_running : about1.status = .running := rfl
set_option maxRecDepth 65536 in
theorem w_room : about1.hasRoom e0.platform room_1 = true :=
  launch0.hasRoom_least _ room_1 (by decide +kernel) (by decide +kernel) (by decide +kernel) (by decide +kernel) (by decide +kernel) (by decide +kernel)
theorem allAtoms_all (ts : List Jvm.Cond) (a : Array Jvm.Value) (st : Jvm.State) : (allAtoms ts).before a st = ts.all (fun c => c.before a st) := by
  induction ts with
  | nil => rfl
  | cons c t ih =>
    show (Jvm.Cond.and c (allAtoms t)).before a st = _
    rw [Jvm.Cond.before_and, ih, List.all_cons]
def words1 : List Jvm.Cond := Jvm.Cond.code x code maxLocals ret :: tables_1
/-- a 'code' word, met by the world's own term for the bytes: nothing is compared byte by byte -/
theorem code_word {y : MethodName} {bytes : ByteArray} {mx : Nat} {rt : Option FieldType} {a : Array Value} {s : State} {m : MethodId} {meth : Method} {c : Code} (h1 : s.methodNamed? y = some m) (h2 : s.vm.method? m = some meth) (h3 : meth.code = some c) (h4 : c.code = bytes)
    (h5 : (c.maxLocals == mx && c.exceptionTable.isEmpty && decide (c.maxStack ≤ mostOperands) && decide (meth.sig.returnType = rt) && !meth.locks && decide (parseMethodDescriptor y.desc = some meth.sig)) = true) : (Jvm.Cond.code y bytes mx rt).before a s = true := by
  simp only [Bool.and_eq_true, beq_iff_eq, Bool.not_eq_true', decide_eq_true_eq] at h5
  obtain ⟨⟨⟨⟨⟨g1, g2⟩, g3⟩, g4⟩, g5⟩, g6⟩ := h5
  simp [Cond.before, Cond.holds, Cond.value, h1, h2, h3, h4, g1, g2, g3, g4, g5, g6]
def isCode : Jvm.Cond → Bool
  | .code _ _ _ _ => true
  | _ => false
theorem all_split {L : List Jvm.Cond} {P : Jvm.Cond → Bool} (h1 : L.all (fun c => isCode c || P c) = true) (h2 : ∀ c ∈ L.filter isCode, P c = true) : L.all P = true := by
  refine List.all_eq_true.mpr fun c hc => ?_
  have h := List.all_eq_true.mp h1 c hc
  rcases Bool.eq_false_or_eq_true (isCode c) with hi | hi
  · exact h2 c (List.mem_filter.mpr ⟨hc, hi⟩)
  · simpa [hi] using h
set_option maxRecDepth 65536 in
theorem w_c0 : (Jvm.Cond.code x code maxLocals ret).before args0 about1 = true := code_word (m := ⟨1, 1⟩) (meth := k1m1) (c := k1c1) (by decide +kernel) rfl rfl rfl (by decide +kernel)
set_option maxRecDepth 65536 in
theorem w_c1 : (Jvm.Cond.code ({ cls := "com/example/arcward/arcward/generator/SplitMix", name := "<init>", desc := "(J)V" } : Jvm.MethodName) prog_5_method_1_code (3 : Nat) (Option.none : Option Jvm.ClassFile.FieldType)).before args0 about1 = true := code_word (m := ⟨2, 0⟩) (meth := k2m0) (c := k2c0) (by decide +kernel) rfl rfl rfl (by decide +kernel)
set_option maxRecDepth 65536 in
theorem w_c2 : (Jvm.Cond.code ({ cls := "java/lang/Object", name := "<init>", desc := "()V" } : Jvm.MethodName) object_method_1_code (1 : Nat) (Option.none : Option Jvm.ClassFile.FieldType)).before args0 about1 = true := code_word (m := ⟨0, 0⟩) (meth := k0m0) (c := k0c0) (by decide +kernel) rfl rfl rfl (by decide +kernel)
set_option maxRecDepth 65536 in
theorem w_c3 : (Jvm.Cond.code ({ cls := "com/example/arcward/arcward/generator/SplitMix", name := "next", desc := "()J" } : Jvm.MethodName) prog_5_method_2_code (3 : Nat) (Option.some Jvm.ClassFile.FieldType.long)).before args0 about1 = true := code_word (m := ⟨2, 1⟩) (meth := k2m1) (c := k2c1) (by decide +kernel) rfl rfl rfl (by decide +kernel)
set_option maxRecDepth 65536 in
theorem w_c4 : (Jvm.Cond.code ({ cls := "com/example/arcward/arcward/generator/SplitMixNextPinLaw", name := "unmix", desc := "(J)J" } : Jvm.MethodName) method_4_code (4 : Nat) (Option.some Jvm.ClassFile.FieldType.long)).before args0 about1 = true := code_word (m := ⟨1, 3⟩) (meth := k1m3) (c := k1c3) (by decide +kernel) rfl rfl rfl (by decide +kernel)
set_option maxRecDepth 65536 in
theorem w_c5 : (Jvm.Cond.code ({ cls := "com/example/arcward/arcward/generator/SplitMixNextPinLaw", name := "inverse", desc := "(J)J" } : Jvm.MethodName) method_3_code (4 : Nat) (Option.some Jvm.ClassFile.FieldType.long)).before args0 about1 = true := code_word (m := ⟨1, 2⟩) (meth := k1m2) (c := k1c2) (by decide +kernel) rfl rfl rfl (by decide +kernel)
def codes1 : List Jvm.Cond := [Jvm.Cond.code x code maxLocals ret, Jvm.Cond.code ({ cls := "com/example/arcward/arcward/generator/SplitMix", name := "<init>", desc := "(J)V" } : Jvm.MethodName) prog_5_method_1_code (3 : Nat) (Option.none : Option Jvm.ClassFile.FieldType), Jvm.Cond.code ({ cls := "java/lang/Object", name := "<init>", desc := "()V" } : Jvm.MethodName) object_method_1_code (1 : Nat) (Option.none : Option Jvm.ClassFile.FieldType), Jvm.Cond.code ({ cls := "com/example/arcward/arcward/generator/SplitMix", name := "next", desc := "()J" } : Jvm.MethodName) prog_5_method_2_code (3 : Nat) (Option.some Jvm.ClassFile.FieldType.long), Jvm.Cond.code ({ cls := "com/example/arcward/arcward/generator/SplitMixNextPinLaw", name := "unmix", desc := "(J)J" } : Jvm.MethodName) method_4_code (4 : Nat) (Option.some Jvm.ClassFile.FieldType.long), Jvm.Cond.code ({ cls := "com/example/arcward/arcward/generator/SplitMixNextPinLaw", name := "inverse", desc := "(J)J" } : Jvm.MethodName) method_3_code (4 : Nat) (Option.some Jvm.ClassFile.FieldType.long)]
set_option maxRecDepth 65536 in
theorem codes_eq : words1.filter isCode = codes1 := rfl
theorem w_codes : ∀ c ∈ words1.filter isCode, c.before args0 about1 = true := by
  rw [codes_eq]
  intro c hc
  simp only [codes1, List.mem_cons, List.not_mem_nil, or_false] at hc
  rcases hc with rfl | rfl | rfl | rfl | rfl | rfl
  · exact w_c0
  · exact w_c1
  · exact w_c2
  · exact w_c3
  · exact w_c4
  · exact w_c5
set_option maxRecDepth 65536 in
theorem w_t1 : (words1.take 24).all (fun c => isCode c || c.before args0 about1) = true := by decide +kernel
set_option maxRecDepth 65536 in
theorem w_t2 : (words1.drop 24).all (fun c => isCode c || c.before args0 about1) = true := by decide +kernel
theorem w_tables : (allAtoms (Jvm.Cond.code x code maxLocals ret :: tables_1)).before args0 about1 = true := by
  rw [allAtoms_all]
  show words1.all (fun c => c.before args0 about1) = true
  refine all_split ?_ w_codes
  rw [← List.take_append_drop 24 words1, List.all_append, w_t1, w_t2]
  rfl
set_option maxRecDepth 65536 in
theorem w_case : (Jvm.Cond.and given_1 narrow_1).before args0 about1 = true := by decide +kernel
theorem w_applies : (headSpec (Jvm.Cond.code x code maxLocals ret :: tables_1) room_1).applies x e0.platform about1 = true :=
  (Spec.applies_iff w_frames).mpr ⟨w_running, w_runnable, w_alone, w_named, w_hears, w_ripe, w_room, w_tables⟩
theorem atStart : AtStart classFile x code maxLocals ret World_1 tables_1 room_1 Calls_1 rest_1 Pre_1 launch0 p0 e0 about1 theMethod args0 below0 :=
  ⟨lists_1, trivial, launch0.admits_env _ _ _, launch0.least_env, fairChoices_fair.cas, fairChoices_fair.clock, w_frames, w_args, w_heap, w_applies, trivial, trivial, w_case⟩
end start1
theorem witness_1 : WitnessClaimed_1 := ⟨start1.p0, start1.e0, start1.about1, start1.theMethod, start1.args0, start1.below0, start1.atStart⟩
end Jvm.Pilot.@@N@@
