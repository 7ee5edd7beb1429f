import JvmDerived
import JvmDerived.Pilot.@@N@@Statement
import JvmDerived.Pilot.@@N@@Code
set_option linter.unusedVariables false
set_option linter.unusedSimpArgs false
namespace Jvm.RoadKit
open Sem ClassFile Op Lib Jvm.Stand Jvm.Free Jvm.LawKit
section New
variable {p : Program} {l : Launch} {e : Env} {R : Room} {s : State} {m : MethodId} {args : Array Value} {below : List Frame} {meth : Method} {c : Code} {T : State} {locs : List Loc} {cells slots : Nat}
theorem retI (X : Stand p l e R s m args below meth c T locs cells slots) (hx : p.tables.exec = Jvm.exec) {pc : Nat} {Ls : Array Slot} {z : Int32} {rest : List Value} (hret : meth.sig.returnType = some .int) (hd : decode c.code pc = .ok (.ireturn, 1)) {fs : List Frame}
    (hl : ∀ (f : JFrame) (acts : List Action), f.method = m → f.locked = none → f.entered = [] → (doReturn e (T.setTop f) acts (some (.int z))).1 = T.setFrames fs) : Steps p.tables e below (T.setTop (mkF m pc Ls (.int z :: rest))) (T.setFrames fs) :=
  retOut X hx (w := .int z) (t := .int) hret rfl (Or.inl ⟨rfl, Or.inl rfl, _, rfl⟩) hd hl
end New
end Jvm.RoadKit
namespace Jvm.Own
open Sem ClassFile Op Lib Jvm.Stand Jvm.Free Jvm.LawKit Jvm.RoadKit
/-- from A on the run comes to B -/
abbrev Go (tb : Tables) (e : Env) (below : List Frame) (A B : State) : Prop := ∀ t, Steps tb e below B t → Steps tb e below A t
theorem lremM {p : Program} {l : Launch} {e : Env} {R : Room} {s : State} {m : MethodId} {args : Array Value} {below : List Frame} {meth : Method} {c : Code} {T : State} {locs : List Loc} {cells slots : Nat} {g : JFrame} {target : State} (X : Stand p l e R s m args below meth c T locs cells slots) (hx : p.tables.exec = Jvm.exec) (hg : g.method = m) {x y : Int64} {rest : List Value} (hd : decode c.code g.pc = .ok (.lrem, 1)) (hs : g.stack = .long y :: .long x :: rest) (hy : y ≠ 0)
    (hr : Steps p.tables e below (T.setTop { g with pc := g.pc + 1, stack := .long (x % y) :: rest }) target) : Steps p.tables e below (T.setTop g) target :=
  XS.lrem X.here hx hg hd hs hy (by rw [lrem_mod]; exact hr)
theorem eqInt {s : State} {args : Array Value} {a : Term} {c : Int32} (h : (Cond.eq a (.int c)).value args s none s [] = some true) : a.eval args s none [] s = some (.int c) := by
  obtain ⟨x, y, hx, hy, k1, k2⟩ := cmp_v (Or.inl h)
  cases hy
  obtain ⟨z, rfl⟩ := k2
  simp [Cond.value, hx, Term.eval] at h
  subst h; exact hx
theorem neqInt {s : State} {args : Array Value} {a : Term} {c x : Int32} (hx : a.eval args s none [] s = some (.int x)) (h : (Cond.not (Cond.eq a (.int c))).value args s none s [] = some true) : ¬ x = c := by
  intro q
  have h2 := not_v h
  subst q
  simp [Cond.value, hx, Term.eval] at h2
theorem elAt {s : State} {args : Array Value} {t u : Term} {a w : Addr} {cl : Cell} {ty : FieldType} {i : Int32} (ht : t.eval args s none [] s = some (.ref a)) (A : Arr s s.heap a cl ty) (h : (Cond.eq (.elem t (.int i)) u).value args s none s [] = some true) (hu : u.eval args s none [] s = some (.ref w)) {j : Nat} (hj : i.toNatClampNeg = j) : cl.slots[j]? = some (.ref w) := by
  obtain ⟨x, y, hx, hy, k1, k2⟩ := cmp_v (Or.inl h)
  rw [hu] at hy; cases hy
  have hr : x.isRef = true := k2.2
  have e := gotT (eq_R hx hu hr rfl) h
  subst e
  have q := (elem_in hx ht (Term.int_eval i) A.1).2
  rw [hj] at q; exact q
theorem arvOf {s : State} {args : Array Value} {t : Term} {a : Addr} {cl : Cell} {ty : FieldType} {z : Int32} {vs : List Value} {dv : Value} (hf : Fit s) (ev : t.eval args s none [] s = some (.ref a)) (A : Arr s s.heap a cl ty) (hl : (Term.length t).eval args s none [] s = some (.int z)) (hz : ¬ z < 0) (hn : z.toNatClampNeg = vs.length) (H : HasL cl 0 vs) : Arv s s.heap a cl.cls ty z vs dv := by
  have ha : s.arrayAt? a = some cl := Arr.fin (Vm.Alike.refl _) A
  by_cases q : cl.slots.size < 2 ^ 31
  · rw [len_f ev ha q] at hl
    cases hl
    exact Arv.start hf A q rfl hz hn H
  · simp [Term.eval, ev, ha, q] at hl
theorem selPriv {s : State} {args : Array Value} {C : String} {z y : MethodName} (w : (Cond.selects C z z).before args s = true) (hc : z.cls = y.cls) (hp : s.PrivateAt y) (hi : (Cond.instanceMethod y).before args s = true) (hy : y.cls ≠ "java/lang/invoke/MethodHandle" ∧ y.cls ≠ "java/lang/invoke/VarHandle") : (Cond.selects y.cls y y).before args s = true := by
  obtain ⟨c2, r2, m2, -, -, q3, -, kP, hkP, hkPi⟩ := Cond.selects_spec w
  exact selects_self_of_private (hc ▸ findClass_of_methodNamed q3) hkP hkPi hp hi hy
end Jvm.Own
namespace Jvm.Pilot.@@N@@
open Jvm Jvm.ClassFile Sem Op Lib Jvm.Free Jvm.Stand Jvm.LawKit Jvm.RoadKit Jvm.Own Bundle Jvm.Pilot.@@N@@.Jvm.D
theorem own_w {Z : State} {a0 : Array Value} (hw : ∀ d ∈ tables_1, d.before a0 Z = true) (i : Nat) {d : Jvm.Cond} (h : tables_1[i]? = some d) : d.before a0 Z = true := hw _ (List.mem_of_getElem? h)
def own_zd (c : Int32) : Int32 := if c = 90 then 1 else if c = 88 then 1 else 0
theorem own_narc (x : Int32) (h1 : ¬ x < 0) (h2 : ¬ (65535 : Int32) < x) : nar .char x = x := by
  have h := c_i2c x
  rw [Int32.lt_iff_toInt_lt] at h1 h2
  rw [show (0 : Int32).toInt = 0 from rfl] at h1
  rw [show (65535 : Int32).toInt = 65535 from rfl] at h2
  apply Int32.toInt_inj.mp
  show (x.toUInt32.toUInt16.toUInt32.toInt32).toInt = x.toInt
  omega
theorem own_narcr (x : Int32) : ¬ nar .char x < 0 ∧ ¬ (65535 : Int32) < nar .char x := by
  have h := c_i2c x
  rw [Int32.lt_iff_toInt_lt, Int32.lt_iff_toInt_lt]
  rw [show (0 : Int32).toInt = 0 from rfl, show (65535 : Int32).toInt = 65535 from rfl]
  show ¬ (x.toUInt32.toUInt16.toUInt32.toInt32).toInt < 0 ∧ ¬ 65535 < (x.toUInt32.toUInt16.toUInt32.toInt32).toInt
  omega
theorem own_nar_c (x : Int32) : nar .char (x.toUInt32.toUInt16.toUInt32.toInt32) = x.toUInt32.toUInt16.toUInt32.toInt32 := own_narc _ (own_narcr x).1 (own_narcr x).2

theorem d2_0 : decode jdk_30_method_1_code 0 = .ok (.aload_n 0, 1) := by decide +kernel
theorem d2_1 : decode jdk_30_method_1_code 1 = .ok (.invokespecial 1, 3) := by decide +kernel
theorem d2_4 : decode jdk_30_method_1_code 4 = .ok (.return_, 1) := by decide +kernel
theorem pn2 : plainFor (⟨"java/lang/Record", "<init>", "()V"⟩ : MethodName) = true := plainFor_of_name (by first | (simp [plainName, overriddenIn]; done) | decide +kernel)
theorem ef_rm2 (m : MethodId) (a1 : Addr) : entryFrame m #[(.ref a1)] 1 = mkF m 0 #[.val (.ref a1)] [] := by first | (simp [entryFrame, mkF, argsToLocals, Value.category]; done) | rfl
def Q2 (Z : State) (a1 : Addr) (h0 : Heap) (n0 : Nat) (v : Option Value) (h : Heap) (L : List Loc) : Prop := v = none ∧ Fr n0 L ∧ (h = h0)
set_option maxRecDepth 65536 in
set_option maxHeartbeats 40000000 in
theorem rm2 (l : Launch) (Z : State) (a0 : Array Value) (hw : ∀ d ∈ tables_1, d.before a0 Z = true) (ws : List Jvm.Cond) (a1 : Addr) (h0 : Heap) (n0 : Nat) (Z0 : n0 ≤ h0.size) :
    MetFree l (⟨"java/lang/Record", "<init>", "()V"⟩ : MethodName) (head1 (Jvm.Cond.code (⟨"java/lang/Record", "<init>", "()V"⟩ : MethodName) jdk_30_method_1_code 1 none :: ws) ({ frames := 1, cells := 0, slots := 0, locals := 12 } : Room)) (fun a U => a = #[(.ref a1)] ∧ Z.Warmed39 U.vm ∧ U.heap = h0) (fun _ _ _ _ _ => True) (fun _ U o U' => ∃ v L, o = .returned v ∧ Q2 Z a1 h0 n0 v U'.heap L ∧ FrameEnd U o U' L ({ frames := 1, cells := 0, slots := 0, locals := 12 } : Room).cells ({ frames := 1, cells := 0, slots := 0, locals := 12 } : Room).slots) := by
  refine MetFree.of_bodySF pn2 hisR ?_
  intro p e s m args below meth c s₁ Bd hml0 hP hK
  obtain ⟨rfl, hZ, hh⟩ := hP
  have hx := Bd.exec
  have hby := Bd.bytes
  have hml : c.maxLocals = 1 := hml0
  have hown : s.vm.findClass "java/lang/Record" = some m.cls := findClass_of_methodNamed Bd.named
  have hnm := (name_of_methodNamed Bd.named Bd.method).1
  have X0 : Stand p l e ({ frames := 1, cells := 0, slots := 0, locals := 12 } : Room) s m #[(.ref a1)] below meth c s₁ [] 0 0 := Stand.of_body Bd
  have e0 : s₁.heap = h0 := by rw [← hh, Bd.state]; rfl
  have N0 := Fr.nil n0
  have p0 : Go p.tables e below (s₁.setTop (entryFrame m #[(.ref a1)] 1)) (s₁.setTop (mkF m 0 #[.val (.ref a1)] [])) := fun t k => castTop (ef_rm2 m a1) k
  have p101 : Go p.tables e below _ (s₁.setTop (mkF m 1 #[.val (.ref a1)] [(.ref a1)])) := fun t k => p0 t (by
    show Steps p.tables e below (s₁.setTop (mkF m 0 #[.val (.ref a1)] [])) _
    refine XS.aloadN X0.here hx rfl (hb hby d2_0) rfl rfl ?_
    show Steps p.tables e below (s₁.setTop (mkF m 1 #[.val (.ref a1)] [(.ref a1)])) _
    exact k)
  obtain ⟨T102, X102, e102, st102⟩ := initO X0 hx hZ hown (own_w hw 11 rfl) (own_w hw 12 rfl) (own_w hw 13 rfl) e0 (g := (mkF m 1 #[.val (.ref a1)] [(.ref a1)])) rfl (by rw [hml]; rfl) rfl (hb hby d2_1) (by decide) (W := 0) (by show 2 * 0 + _ ≤ _; exact Nat.le_of_eq rfl) (by decide)
  have p103 : Go p.tables e below _ (T102.setTop (mkF m 4 #[.val (.ref a1)] [])) := fun t k => p101 t (st102 t k)
  obtain ⟨fs, hr, hrun, hended, hW, hsame⟩ := X102.leave (v := none) (fun _ => rfl)
  refine ⟨_, _, p103 _ (X102.returnOut hx Bd.returns (hb hby d2_4) hr), hrun, hended, _, _, rfl, ?_, ⟨_, rfl⟩, hW, hsame.mono (by decide) (by decide)⟩
  show Q2 Z a1 h0 n0 _ T102.heap _
  rw [e102]
  exact ⟨rfl, N0, rfl⟩
theorem d1_0 : decode prog_6_method_1_code 0 = .ok (.aload_n 0, 1) := by decide +kernel
theorem d1_1 : decode prog_6_method_1_code 1 = .ok (.invokespecial 1, 3) := by decide +kernel
theorem d1_4 : decode prog_6_method_1_code 4 = .ok (.aload_n 0, 1) := by decide +kernel
theorem d1_5 : decode prog_6_method_1_code 5 = .ok (.iload_n 1, 1) := by decide +kernel
theorem d1_6 : decode prog_6_method_1_code 6 = .ok (.putfield 7, 3) := by decide +kernel
theorem d1_9 : decode prog_6_method_1_code 9 = .ok (.aload_n 0, 1) := by decide +kernel
theorem d1_10 : decode prog_6_method_1_code 10 = .ok (.lload_n 2, 1) := by decide +kernel
theorem d1_11 : decode prog_6_method_1_code 11 = .ok (.putfield 13, 3) := by decide +kernel
theorem d1_14 : decode prog_6_method_1_code 14 = .ok (.return_, 1) := by decide +kernel
theorem pd0 : parseMethodDescriptor "()V" = some ⟨[], none⟩ := by decide +kernel
theorem pn1 : plainFor (⟨"com/example/far_queue/farqueue/ProcessStat", "<init>", "(CJ)V"⟩ : MethodName) = true := plainFor_of_name (by first | (simp [plainName, overriddenIn]; done) | decide +kernel)
theorem ef_rm1 (m : MethodId) (a1 : Addr) (p2 : Int32) (q3 : Int64) : entryFrame m #[(.ref a1), (.int p2), (.long q3)] 4 = mkF m 0 #[.val (.ref a1), .val (.int p2), .val (.long q3), .second] [] := by first | (simp [entryFrame, mkF, argsToLocals, Value.category]; done) | rfl
def Q1 (Z : State) (a1 : Addr) (p2 : Int32) (q3 : Int64) (h0 : Heap) (n0 : Nat) (v : Option Value) (h : Heap) (L : List Loc) : Prop := v = none ∧ Fr n0 L ∧ (Keep h0 h [a1]) ∧ (Exa Z h a1 "com/example/far_queue/farqueue/ProcessStat") ∧ (Fld Z h a1 "com/example/far_queue/farqueue/ProcessStat" "state" "C" (.int (nar .char p2))) ∧ (Fld Z h a1 "com/example/far_queue/farqueue/ProcessStat" "startTicks" "J" (.long q3))
set_option maxRecDepth 65536 in
set_option maxHeartbeats 40000000 in
theorem rm1 (l : Launch) (Z : State) (a0 : Array Value) (hw : ∀ d ∈ tables_1, d.before a0 Z = true) (ws : List Jvm.Cond) (a1 : Addr) (p2 : Int32) (q3 : Int64) (h0 : Heap) (n0 : Nat) (Z0 : n0 ≤ h0.size) (Fs : Fld Z h0 a1 "com/example/far_queue/farqueue/ProcessStat" "state" "C" (.int (0 : Int32))) (Ft : Fld Z h0 a1 "com/example/far_queue/farqueue/ProcessStat" "startTicks" "J" (.long (0 : Int64))) (E1 : Exa Z h0 a1 "com/example/far_queue/farqueue/ProcessStat") (g1 : n0 ≤ a1) :
    MetFree l (⟨"com/example/far_queue/farqueue/ProcessStat", "<init>", "(CJ)V"⟩ : MethodName) (head1 (Jvm.Cond.code (⟨"com/example/far_queue/farqueue/ProcessStat", "<init>", "(CJ)V"⟩ : MethodName) prog_6_method_1_code 4 none :: ws) ({ frames := 2, cells := 0, slots := 0, locals := 24 } : Room)) (fun a U => a = #[(.ref a1), (.int p2), (.long q3)] ∧ Z.Warmed39 U.vm ∧ U.heap = h0) (fun _ _ _ _ _ => True) (fun _ U o U' => ∃ v L, o = .returned v ∧ Q1 Z a1 p2 q3 h0 n0 v U'.heap L ∧ FrameEnd U o U' L ({ frames := 2, cells := 0, slots := 0, locals := 24 } : Room).cells ({ frames := 2, cells := 0, slots := 0, locals := 24 } : Room).slots) := by
  refine MetFree.of_bodySF pn1 hisR ?_
  intro p e s m args below meth c s₁ Bd hml0 hP hK
  obtain ⟨rfl, hZ, hh⟩ := hP
  have hx := Bd.exec
  have hby := Bd.bytes
  have hml : c.maxLocals = 4 := hml0
  have hown : s.vm.findClass "com/example/far_queue/farqueue/ProcessStat" = some m.cls := findClass_of_methodNamed Bd.named
  have hnm := (name_of_methodNamed Bd.named Bd.method).1
  have X0 : Stand p l e ({ frames := 2, cells := 0, slots := 0, locals := 24 } : Room) s m #[(.ref a1), (.int p2), (.long q3)] below meth c s₁ [] 0 0 := Stand.of_body Bd
  have e0 : s₁.heap = h0 := by rw [← hh, Bd.state]; rfl
  have N0 := Fr.nil n0
  have p0 : Go p.tables e below (s₁.setTop (entryFrame m #[(.ref a1), (.int p2), (.long q3)] 4)) (s₁.setTop (mkF m 0 #[.val (.ref a1), .val (.int p2), .val (.long q3), .second] [])) := fun t k => castTop (ef_rm1 m a1 p2 q3) k
  have p101 : Go p.tables e below _ (s₁.setTop (mkF m 1 #[.val (.ref a1), .val (.int p2), .val (.long q3), .second] [(.ref a1)])) := fun t k => p0 t (by
    show Steps p.tables e below (s₁.setTop (mkF m 0 #[.val (.ref a1), .val (.int p2), .val (.long q3), .second] [])) _
    refine XS.aloadN X0.here hx rfl (hb hby d1_0) rfl rfl ?_
    show Steps p.tables e below (s₁.setTop (mkF m 1 #[.val (.ref a1), .val (.int p2), .val (.long q3), .second] [(.ref a1)])) _
    exact k)
  obtain ⟨_, _, ⟨T102, L102, k102, n102⟩, -, X102, ⟨Lc102, hQ102, l102, y102, z102⟩, st102⟩ := X0.specialBack hx (y := (⟨"java/lang/Record", "<init>", "()V"⟩ : MethodName)) rfl hown (mvT hZ (own_w hw 6 rfl)) (mvT hZ (own_w hw 7 rfl)) (mvT hZ (own_w hw 10 rfl)) (by decide) (backOf (W := 0) (rm2 l Z a0 hw [] a1 h0 n0 (Nat.le_trans Z0 (Keep.refl h0 [a1]).1) ) hZ (own_w hw 10 rfl) (own_w hw 9 rfl) (by decide) (by decide)) (g := (mkF m 1 #[.val (.ref a1), .val (.int p2), .val (.long q3), .second] [(.ref a1)])) rfl (by rw [hml]; rfl) (Steps.refl _) (a := a1) (argsL := []) (rest := []) (lenOf pd0 rfl) rfl (by show 2 * 0 + _ ≤ _; exact Nat.le_of_eq rfl) (hb hby d1_1) (fun _ _ => ⟨rfl, e0, (by decide : 0 + 0 ≤ _), (by decide : 0 + 0 ≤ _)⟩)
  dsimp only [Pt.U, Pt.locs, Pt.cells, Pt.slots] at X102 l102 y102 z102 st102 hQ102
  subst l102 y102 z102
  obtain ⟨rfl, N102q, q102_hh⟩ := hQ102
  have N102 := Fr.app N0 N102q
  have p103 : Go p.tables e below _ (T102.setTop (mkF m 4 #[.val (.ref a1), .val (.int p2), .val (.long q3), .second] [])) := fun t k => p101 t (st102.trans k)
  have p104 : Go p.tables e below _ (T102.setTop (mkF m 6 #[.val (.ref a1), .val (.int p2), .val (.long q3), .second] [(.int p2), (.ref a1)])) := fun t k => p103 t (by
    show Steps p.tables e below (T102.setTop (mkF m 4 #[.val (.ref a1), .val (.int p2), .val (.long q3), .second] [])) _
    refine XS.aloadN X102.here hx rfl (hb hby d1_4) rfl rfl ?_
    show Steps p.tables e below (T102.setTop (mkF m 5 #[.val (.ref a1), .val (.int p2), .val (.long q3), .second] [(.ref a1)])) _
    refine XS.iloadN X102.here hx rfl (hb hby d1_5) rfl ?_
    show Steps p.tables e below (T102.setTop (mkF m 6 #[.val (.ref a1), .val (.int p2), .val (.long q3), .second] [(.int p2), (.ref a1)])) _
    exact k)
  obtain ⟨T105, h105, X105, e105, W105, st105⟩ := putFN X102 hx hZ hown (own_w hw 14 rfl) Via.refl q102_hh Fs E1 (Or.inr ⟨(own_w hw 15 rfl), rfl, hnm⟩) (own_w hw 1 rfl) (ty := .char) (v' := (.int (nar .char p2))) (by decide) rfl (fits_nar_char _) (g := (mkF m 6 #[.val (.ref a1), .val (.int p2), .val (.long q3), .second] [(.int p2), (.ref a1)])) rfl rfl (hb hby d1_6)
  have K106 : Keep h0 h105 [a1] := (Keep.refl h0 [a1]).wr W105 (Or.inl (List.mem_of_getElem? (i := 0) rfl))
  have N105 := Fr.snoc X105 N102 g1
  have p107 : Go p.tables e below _ (T105.setTop (mkF m 9 #[.val (.ref a1), .val (.int p2), .val (.long q3), .second] [])) := fun t k => p104 t (st105 t k)
  have F105 : Fld Z h105 a1 "com/example/far_queue/farqueue/ProcessStat" "state" "C" (.int (nar .char p2)) := Fs.same W105
  have p108 : Go p.tables e below _ (T105.setTop (mkF m 11 #[.val (.ref a1), .val (.int p2), .val (.long q3), .second] [(.long q3), (.ref a1)])) := fun t k => p107 t (by
    show Steps p.tables e below (T105.setTop (mkF m 9 #[.val (.ref a1), .val (.int p2), .val (.long q3), .second] [])) _
    refine XS.aloadN X105.here hx rfl (hb hby d1_9) rfl rfl ?_
    show Steps p.tables e below (T105.setTop (mkF m 10 #[.val (.ref a1), .val (.int p2), .val (.long q3), .second] [(.ref a1)])) _
    refine XS.lloadN X105.here hx rfl (hb hby d1_10) rfl ?_
    show Steps p.tables e below (T105.setTop (mkF m 11 #[.val (.ref a1), .val (.int p2), .val (.long q3), .second] [(.long q3), (.ref a1)])) _
    exact k)
  have f109 := (Ft.other W105 (Or.inr (slot_ne (Or.inr (own_w hw 17 rfl)) (Or.inr (own_w hw 15 rfl)) (by decide) (t := .long) (t' := .char) (by decide) (by decide))))
  have f110 := (E1.wr W105)
  obtain ⟨T111, h111, X111, e111, W111, st111⟩ := putF X105 hx hZ hown (host := "") (Or.inl (own_w hw 16 rfl)) Via.refl e105 f109 f110 (Or.inr ⟨(own_w hw 17 rfl), rfl, hnm⟩) (own_w hw 1 rfl) (ty := .long) (by decide) rfl rfl (g := (mkF m 11 #[.val (.ref a1), .val (.int p2), .val (.long q3), .second] [(.long q3), (.ref a1)])) rfl rfl (hb hby d1_11)
  have K112 : Keep h0 h111 [a1] := K106.wr W111 (Or.inl (List.mem_of_getElem? (i := 0) rfl))
  have N111 := Fr.snoc X111 N105 g1
  have p113 : Go p.tables e below _ (T111.setTop (mkF m 14 #[.val (.ref a1), .val (.int p2), .val (.long q3), .second] [])) := fun t k => p108 t (st111 t k)
  have F111 : Fld Z h111 a1 "com/example/far_queue/farqueue/ProcessStat" "startTicks" "J" (.long q3) := f109.same W111
  have f114 := (f110.wr W111)
  have f115 := (F105.other W111 (Or.inr (slot_ne (Or.inr (own_w hw 15 rfl)) (Or.inr (own_w hw 17 rfl)) (by decide) (t := .char) (t' := .long) (by decide) (by decide))))
  obtain ⟨fs, hr, hrun, hended, hW, hsame⟩ := X111.leave (v := none) (fun _ => rfl)
  refine ⟨_, _, p113 _ (X111.returnOut hx Bd.returns (hb hby d1_14) hr), hrun, hended, _, _, rfl, ?_, ⟨_, rfl⟩, hW, hsame.mono (by decide) (by decide)⟩
  show Q1 Z a1 p2 q3 h0 n0 _ T111.heap _
  rw [e111]
  exact ⟨rfl, N111, K112, f114, f115, F111⟩
theorem d4_0 : decode method_2_code 0 = .ok (.iload_n 0, 1) := by decide +kernel
theorem d4_1 : decode method_2_code 1 = .ok (.bipush 90, 2) := by decide +kernel
theorem d4_3 : decode method_2_code 3 = .ok (.if_icmp .ne 5, 3) := by decide +kernel
theorem d4_6 : decode method_2_code 6 = .ok (.iconst 1, 1) := by decide +kernel
theorem d4_7 : decode method_2_code 7 = .ok (.ireturn, 1) := by decide +kernel
theorem d4_8 : decode method_2_code 8 = .ok (.iload_n 0, 1) := by decide +kernel
theorem d4_9 : decode method_2_code 9 = .ok (.bipush 88, 2) := by decide +kernel
theorem d4_11 : decode method_2_code 11 = .ok (.if_icmp .ne 5, 3) := by decide +kernel
theorem d4_14 : decode method_2_code 14 = .ok (.iconst 1, 1) := by decide +kernel
theorem d4_15 : decode method_2_code 15 = .ok (.ireturn, 1) := by decide +kernel
theorem d4_16 : decode method_2_code 16 = .ok (.iconst 0, 1) := by decide +kernel
theorem d4_17 : decode method_2_code 17 = .ok (.ireturn, 1) := by decide +kernel
theorem pn4 : plainFor (⟨"com/example/far_queue/farqueue/ProcessStatEndedPinLaw", "isZombieOrDead", "(C)Z"⟩ : MethodName) = true := plainFor_of_name (by first | (simp [plainName, overriddenIn]; done) | decide +kernel)
theorem ef_rm4 (m : MethodId) (p1 : Int32) : entryFrame m #[(.int p1)] 1 = mkF m 0 #[.val (.int p1)] [] := by first | (simp [entryFrame, mkF, argsToLocals, Value.category]; done) | rfl
def Q4 (Z : State) (p1 : Int32) (h0 : Heap) (n0 : Nat) (v : Option Value) (h : Heap) (L : List Loc) : Prop := v = some (.int (own_zd p1)) ∧ Fr n0 L ∧ (h = h0)
set_option maxRecDepth 65536 in
set_option maxHeartbeats 40000000 in
theorem rm4 (l : Launch) (Z : State) (a0 : Array Value) (hw : ∀ d ∈ tables_1, d.before a0 Z = true) (ws : List Jvm.Cond) (p1 : Int32) (h0 : Heap) (n0 : Nat) (Z0 : n0 ≤ h0.size) :
    MetFree l (⟨"com/example/far_queue/farqueue/ProcessStatEndedPinLaw", "isZombieOrDead", "(C)Z"⟩ : MethodName) (head1 (Jvm.Cond.code (⟨"com/example/far_queue/farqueue/ProcessStatEndedPinLaw", "isZombieOrDead", "(C)Z"⟩ : MethodName) method_2_code 1 (some .boolean) :: ws) ({ frames := 0, cells := 0, slots := 0, locals := 0 } : Room)) (fun a U => a = #[(.int p1)] ∧ Z.Warmed39 U.vm ∧ U.heap = h0) (fun _ _ _ _ _ => True) (fun _ U o U' => ∃ v L, o = .returned v ∧ Q4 Z p1 h0 n0 v U'.heap L ∧ FrameEnd U o U' L ({ frames := 0, cells := 0, slots := 0, locals := 0 } : Room).cells ({ frames := 0, cells := 0, slots := 0, locals := 0 } : Room).slots) := by
  refine MetFree.of_bodySF pn4 hisR ?_
  intro p e s m args below meth c s₁ Bd hml0 hP hK
  obtain ⟨rfl, hZ, hh⟩ := hP
  have hx := Bd.exec
  have hby := Bd.bytes
  have hml : c.maxLocals = 1 := hml0
  have hown : s.vm.findClass "com/example/far_queue/farqueue/ProcessStatEndedPinLaw" = some m.cls := findClass_of_methodNamed Bd.named
  have hnm := (name_of_methodNamed Bd.named Bd.method).1
  have X0 : Stand p l e ({ frames := 0, cells := 0, slots := 0, locals := 0 } : Room) s m #[(.int p1)] below meth c s₁ [] 0 0 := Stand.of_body Bd
  have e0 : s₁.heap = h0 := by rw [← hh, Bd.state]; rfl
  have N0 := Fr.nil n0
  have p0 : Go p.tables e below (s₁.setTop (entryFrame m #[(.int p1)] 1)) (s₁.setTop (mkF m 0 #[.val (.int p1)] [])) := fun t k => castTop (ef_rm4 m p1) k
  have p101 : Go p.tables e below _ (s₁.setTop (mkF m 3 #[.val (.int p1)] [(.int (90 : Int32)), (.int p1)])) := fun t k => p0 t (by
    show Steps p.tables e below (s₁.setTop (mkF m 0 #[.val (.int p1)] [])) _
    refine XS.iloadN X0.here hx rfl (hb hby d4_0) rfl ?_
    show Steps p.tables e below (s₁.setTop (mkF m 1 #[.val (.int p1)] [(.int p1)])) _
    refine XS.bipush X0.here hx rfl (hb hby d4_1) ?_
    show Steps p.tables e below (s₁.setTop (mkF m 3 #[.val (.int p1)] [(.int (90 : Int32)), (.int p1)])) _
    exact k)
  by_cases c102 : p1 = (90 : Int32)
  · have p103 : Go p.tables e below _ (s₁.setTop (mkF m 6 #[.val (.int p1)] [])) := fun t k => p101 t (by
      show Steps p.tables e below (s₁.setTop (mkF m 3 #[.val (.int p1)] [(.int (90 : Int32)), (.int p1)])) _
      refine XS.icmpNo X0.here hx rfl (hb hby d4_3) rfl (teq c102).2 ?_
      show Steps p.tables e below (s₁.setTop (mkF m 6 #[.val (.int p1)] [])) _
      exact k)
    have p104 : Go p.tables e below _ (s₁.setTop (mkF m 7 #[.val (.int p1)] [(.int (1 : Int32))])) := fun t k => p103 t (by
      show Steps p.tables e below (s₁.setTop (mkF m 6 #[.val (.int p1)] [])) _
      refine XS.iconst X0.here hx rfl (hb hby d4_6) ?_
      show Steps p.tables e below (s₁.setTop (mkF m 7 #[.val (.int p1)] [(.int (1 : Int32))])) _
      exact k)
    obtain ⟨fs, hr, hrun, hended, hW, hsame⟩ := X0.leave (v := some (.int (1 : Int32))) (fun h => by rw [Bd.returns] at h; cases h)
    refine ⟨_, _, p104 _ (retN X0 hx (t := .boolean) Bd.returns (by simp) (hb hby d4_7) hr), hrun, hended, _, _, rfl, ?_, ⟨_, rfl⟩, hW, hsame.mono (by decide) (by decide)⟩
    show Q4 Z p1 h0 n0 _ s₁.heap _
    rw [e0]
    exact ⟨by simp [own_zd, c102], N0, rfl⟩
  · have p105 : Go p.tables e below _ (s₁.setTop (mkF m 8 #[.val (.int p1)] [])) := fun t k => p101 t (by
      show Steps p.tables e below (s₁.setTop (mkF m 3 #[.val (.int p1)] [(.int (90 : Int32)), (.int p1)])) _
      refine XS.icmpYes X0.here hx rfl (pc0 := 3) (pc' := 8) rfl (hb hby d4_3) rfl (feq c102).2 (by decide) (by decide) ?_
      show Steps p.tables e below (s₁.setTop (mkF m 8 #[.val (.int p1)] [])) _
      exact k)
    have p106 : Go p.tables e below _ (s₁.setTop (mkF m 11 #[.val (.int p1)] [(.int (88 : Int32)), (.int p1)])) := fun t k => p105 t (by
      show Steps p.tables e below (s₁.setTop (mkF m 8 #[.val (.int p1)] [])) _
      refine XS.iloadN X0.here hx rfl (hb hby d4_8) rfl ?_
      show Steps p.tables e below (s₁.setTop (mkF m 9 #[.val (.int p1)] [(.int p1)])) _
      refine XS.bipush X0.here hx rfl (hb hby d4_9) ?_
      show Steps p.tables e below (s₁.setTop (mkF m 11 #[.val (.int p1)] [(.int (88 : Int32)), (.int p1)])) _
      exact k)
    by_cases c107 : p1 = (88 : Int32)
    · have p108 : Go p.tables e below _ (s₁.setTop (mkF m 14 #[.val (.int p1)] [])) := fun t k => p106 t (by
        show Steps p.tables e below (s₁.setTop (mkF m 11 #[.val (.int p1)] [(.int (88 : Int32)), (.int p1)])) _
        refine XS.icmpNo X0.here hx rfl (hb hby d4_11) rfl (teq c107).2 ?_
        show Steps p.tables e below (s₁.setTop (mkF m 14 #[.val (.int p1)] [])) _
        exact k)
      have p109 : Go p.tables e below _ (s₁.setTop (mkF m 15 #[.val (.int p1)] [(.int (1 : Int32))])) := fun t k => p108 t (by
        show Steps p.tables e below (s₁.setTop (mkF m 14 #[.val (.int p1)] [])) _
        refine XS.iconst X0.here hx rfl (hb hby d4_14) ?_
        show Steps p.tables e below (s₁.setTop (mkF m 15 #[.val (.int p1)] [(.int (1 : Int32))])) _
        exact k)
      obtain ⟨fs, hr, hrun, hended, hW, hsame⟩ := X0.leave (v := some (.int (1 : Int32))) (fun h => by rw [Bd.returns] at h; cases h)
      refine ⟨_, _, p109 _ (retN X0 hx (t := .boolean) Bd.returns (by simp) (hb hby d4_15) hr), hrun, hended, _, _, rfl, ?_, ⟨_, rfl⟩, hW, hsame.mono (by decide) (by decide)⟩
      show Q4 Z p1 h0 n0 _ s₁.heap _
      rw [e0]
      exact ⟨by simp [own_zd, c102, c107], N0, rfl⟩
    · have p110 : Go p.tables e below _ (s₁.setTop (mkF m 16 #[.val (.int p1)] [])) := fun t k => p106 t (by
        show Steps p.tables e below (s₁.setTop (mkF m 11 #[.val (.int p1)] [(.int (88 : Int32)), (.int p1)])) _
        refine XS.icmpYes X0.here hx rfl (pc0 := 11) (pc' := 16) rfl (hb hby d4_11) rfl (feq c107).2 (by decide) (by decide) ?_
        show Steps p.tables e below (s₁.setTop (mkF m 16 #[.val (.int p1)] [])) _
        exact k)
      have p111 : Go p.tables e below _ (s₁.setTop (mkF m 17 #[.val (.int p1)] [(.int (0 : Int32))])) := fun t k => p110 t (by
        show Steps p.tables e below (s₁.setTop (mkF m 16 #[.val (.int p1)] [])) _
        refine XS.iconst X0.here hx rfl (hb hby d4_16) ?_
        show Steps p.tables e below (s₁.setTop (mkF m 17 #[.val (.int p1)] [(.int (0 : Int32))])) _
        exact k)
      obtain ⟨fs, hr, hrun, hended, hW, hsame⟩ := X0.leave (v := some (.int (0 : Int32))) (fun h => by rw [Bd.returns] at h; cases h)
      refine ⟨_, _, p111 _ (retN X0 hx (t := .boolean) Bd.returns (by simp) (hb hby d4_17) hr), hrun, hended, _, _, rfl, ?_, ⟨_, rfl⟩, hW, hsame.mono (by decide) (by decide)⟩
      show Q4 Z p1 h0 n0 _ s₁.heap _
      rw [e0]
      exact ⟨by simp [own_zd, c102, c107], N0, rfl⟩
theorem d5_0 : decode prog_6_method_3_code 0 = .ok (.aload_n 0, 1) := by decide +kernel
theorem d5_1 : decode prog_6_method_3_code 1 = .ok (.getfield 7, 3) := by decide +kernel
theorem d5_4 : decode prog_6_method_3_code 4 = .ok (.bipush 90, 2) := by decide +kernel
theorem d5_6 : decode prog_6_method_3_code 6 = .ok (.if_icmp .eq 12, 3) := by decide +kernel
theorem d5_9 : decode prog_6_method_3_code 9 = .ok (.aload_n 0, 1) := by decide +kernel
theorem d5_10 : decode prog_6_method_3_code 10 = .ok (.getfield 7, 3) := by decide +kernel
theorem d5_13 : decode prog_6_method_3_code 13 = .ok (.bipush 88, 2) := by decide +kernel
theorem d5_15 : decode prog_6_method_3_code 15 = .ok (.if_icmp .ne 7, 3) := by decide +kernel
theorem d5_18 : decode prog_6_method_3_code 18 = .ok (.iconst 1, 1) := by decide +kernel
theorem d5_19 : decode prog_6_method_3_code 19 = .ok (.goto 4, 3) := by decide +kernel
theorem d5_22 : decode prog_6_method_3_code 22 = .ok (.iconst 0, 1) := by decide +kernel
theorem d5_23 : decode prog_6_method_3_code 23 = .ok (.ireturn, 1) := by decide +kernel
theorem pn5 : plainFor (⟨"com/example/far_queue/farqueue/ProcessStat", "ended", "()Z"⟩ : MethodName) = true := plainFor_of_name (by first | (simp [plainName, overriddenIn]; done) | decide +kernel)
theorem ef_rm5 (m : MethodId) (a1 : Addr) (p2 : Int32) : entryFrame m #[(.ref a1)] 1 = mkF m 0 #[.val (.ref a1)] [] := by first | (simp [entryFrame, mkF, argsToLocals, Value.category]; done) | rfl
def Q5 (Z : State) (a1 : Addr) (p2 : Int32) (h0 : Heap) (n0 : Nat) (v : Option Value) (h : Heap) (L : List Loc) : Prop := v = some (.int (own_zd p2)) ∧ Fr n0 L ∧ (h = h0)
set_option maxRecDepth 65536 in
set_option maxHeartbeats 40000000 in
theorem rm5 (l : Launch) (Z : State) (a0 : Array Value) (hw : ∀ d ∈ tables_1, d.before a0 Z = true) (ws : List Jvm.Cond) (a1 : Addr) (p2 : Int32) (h0 : Heap) (n0 : Nat) (Z0 : n0 ≤ h0.size) (Fs : Fld Z h0 a1 "com/example/far_queue/farqueue/ProcessStat" "state" "C" (.int p2)) :
    MetFree l (⟨"com/example/far_queue/farqueue/ProcessStat", "ended", "()Z"⟩ : MethodName) (head1 (Jvm.Cond.code (⟨"com/example/far_queue/farqueue/ProcessStat", "ended", "()Z"⟩ : MethodName) prog_6_method_3_code 1 (some .boolean) :: ws) ({ frames := 0, cells := 0, slots := 0, locals := 0 } : Room)) (fun a U => a = #[(.ref a1)] ∧ Z.Warmed39 U.vm ∧ U.heap = h0) (fun _ _ _ _ _ => True) (fun _ U o U' => ∃ v L, o = .returned v ∧ Q5 Z a1 p2 h0 n0 v U'.heap L ∧ FrameEnd U o U' L ({ frames := 0, cells := 0, slots := 0, locals := 0 } : Room).cells ({ frames := 0, cells := 0, slots := 0, locals := 0 } : Room).slots) := by
  refine MetFree.of_bodySF pn5 hisR ?_
  intro p e s m args below meth c s₁ Bd hml0 hP hK
  obtain ⟨rfl, hZ, hh⟩ := hP
  have hx := Bd.exec
  have hby := Bd.bytes
  have hml : c.maxLocals = 1 := hml0
  have hown : s.vm.findClass "com/example/far_queue/farqueue/ProcessStat" = some m.cls := findClass_of_methodNamed Bd.named
  have hnm := (name_of_methodNamed Bd.named Bd.method).1
  have X0 : Stand p l e ({ frames := 0, cells := 0, slots := 0, locals := 0 } : Room) s m #[(.ref a1)] below meth c s₁ [] 0 0 := Stand.of_body Bd
  have e0 : s₁.heap = h0 := by rw [← hh, Bd.state]; rfl
  have N0 := Fr.nil n0
  have p0 : Go p.tables e below (s₁.setTop (entryFrame m #[(.ref a1)] 1)) (s₁.setTop (mkF m 0 #[.val (.ref a1)] [])) := fun t k => castTop (ef_rm5 m a1 p2) k
  have p101 : Go p.tables e below _ (s₁.setTop (mkF m 1 #[.val (.ref a1)] [(.ref a1)])) := fun t k => p0 t (by
    show Steps p.tables e below (s₁.setTop (mkF m 0 #[.val (.ref a1)] [])) _
    refine XS.aloadN X0.here hx rfl (hb hby d5_0) rfl rfl ?_
    show Steps p.tables e below (s₁.setTop (mkF m 1 #[.val (.ref a1)] [(.ref a1)])) _
    exact k)
  obtain ⟨T102, X102, e102, st102⟩ := getF X0 hx hZ hown (host := "") (Or.inl (own_w hw 14 rfl)) Via.refl e0 Fs (g := (mkF m 1 #[.val (.ref a1)] [(.ref a1)])) rfl rfl (hb hby d5_1)
  have p103 : Go p.tables e below _ (T102.setTop (mkF m 4 #[.val (.ref a1)] [(.int p2)])) := fun t k => p101 t (st102 t k)
  have p104 : Go p.tables e below _ (T102.setTop (mkF m 6 #[.val (.ref a1)] [(.int (90 : Int32)), (.int p2)])) := fun t k => p103 t (by
    show Steps p.tables e below (T102.setTop (mkF m 4 #[.val (.ref a1)] [(.int p2)])) _
    refine XS.bipush X102.here hx rfl (hb hby d5_4) ?_
    show Steps p.tables e below (T102.setTop (mkF m 6 #[.val (.ref a1)] [(.int (90 : Int32)), (.int p2)])) _
    exact k)
  by_cases c105 : p2 = (90 : Int32)
  · have p106 : Go p.tables e below _ (T102.setTop (mkF m 18 #[.val (.ref a1)] [])) := fun t k => p104 t (by
      show Steps p.tables e below (T102.setTop (mkF m 6 #[.val (.ref a1)] [(.int (90 : Int32)), (.int p2)])) _
      refine XS.icmpYes X102.here hx rfl (pc0 := 6) (pc' := 18) rfl (hb hby d5_6) rfl (teq c105).1 (by decide) (by decide) ?_
      show Steps p.tables e below (T102.setTop (mkF m 18 #[.val (.ref a1)] [])) _
      exact k)
    have p107 : Go p.tables e below _ (T102.setTop (mkF m 23 #[.val (.ref a1)] [(.int (1 : Int32))])) := fun t k => p106 t (by
      show Steps p.tables e below (T102.setTop (mkF m 18 #[.val (.ref a1)] [])) _
      refine XS.iconst X102.here hx rfl (hb hby d5_18) ?_
      show Steps p.tables e below (T102.setTop (mkF m 19 #[.val (.ref a1)] [(.int (1 : Int32))])) _
      refine XS.goto X102.here hx rfl (pc0 := 19) (pc' := 23) rfl (hb hby d5_19) (by decide) (by decide) ?_
      show Steps p.tables e below (T102.setTop (mkF m 23 #[.val (.ref a1)] [(.int (1 : Int32))])) _
      exact k)
    obtain ⟨fs, hr, hrun, hended, hW, hsame⟩ := X102.leave (v := some (.int (1 : Int32))) (fun h => by rw [Bd.returns] at h; cases h)
    refine ⟨_, _, p107 _ (retN X102 hx (t := .boolean) Bd.returns (by simp) (hb hby d5_23) hr), hrun, hended, _, _, rfl, ?_, ⟨_, rfl⟩, hW, hsame.mono (by decide) (by decide)⟩
    show Q5 Z a1 p2 h0 n0 _ T102.heap _
    rw [e102]
    exact ⟨by simp [own_zd, c105], N0, rfl⟩
  · have p108 : Go p.tables e below _ (T102.setTop (mkF m 9 #[.val (.ref a1)] [])) := fun t k => p104 t (by
      show Steps p.tables e below (T102.setTop (mkF m 6 #[.val (.ref a1)] [(.int (90 : Int32)), (.int p2)])) _
      refine XS.icmpNo X102.here hx rfl (hb hby d5_6) rfl (feq c105).1 ?_
      show Steps p.tables e below (T102.setTop (mkF m 9 #[.val (.ref a1)] [])) _
      exact k)
    have p109 : Go p.tables e below _ (T102.setTop (mkF m 10 #[.val (.ref a1)] [(.ref a1)])) := fun t k => p108 t (by
      show Steps p.tables e below (T102.setTop (mkF m 9 #[.val (.ref a1)] [])) _
      refine XS.aloadN X102.here hx rfl (hb hby d5_9) rfl rfl ?_
      show Steps p.tables e below (T102.setTop (mkF m 10 #[.val (.ref a1)] [(.ref a1)])) _
      exact k)
    obtain ⟨T110, X110, e110, st110⟩ := getF X102 hx hZ hown (host := "") (Or.inl (own_w hw 14 rfl)) Via.refl e102 Fs (g := (mkF m 10 #[.val (.ref a1)] [(.ref a1)])) rfl rfl (hb hby d5_10)
    have p111 : Go p.tables e below _ (T110.setTop (mkF m 13 #[.val (.ref a1)] [(.int p2)])) := fun t k => p109 t (st110 t k)
    have p112 : Go p.tables e below _ (T110.setTop (mkF m 15 #[.val (.ref a1)] [(.int (88 : Int32)), (.int p2)])) := fun t k => p111 t (by
      show Steps p.tables e below (T110.setTop (mkF m 13 #[.val (.ref a1)] [(.int p2)])) _
      refine XS.bipush X110.here hx rfl (hb hby d5_13) ?_
      show Steps p.tables e below (T110.setTop (mkF m 15 #[.val (.ref a1)] [(.int (88 : Int32)), (.int p2)])) _
      exact k)
    by_cases c113 : p2 = (88 : Int32)
    · have p114 : Go p.tables e below _ (T110.setTop (mkF m 18 #[.val (.ref a1)] [])) := fun t k => p112 t (by
        show Steps p.tables e below (T110.setTop (mkF m 15 #[.val (.ref a1)] [(.int (88 : Int32)), (.int p2)])) _
        refine XS.icmpNo X110.here hx rfl (hb hby d5_15) rfl (teq c113).2 ?_
        show Steps p.tables e below (T110.setTop (mkF m 18 #[.val (.ref a1)] [])) _
        exact k)
      have p115 : Go p.tables e below _ (T110.setTop (mkF m 23 #[.val (.ref a1)] [(.int (1 : Int32))])) := fun t k => p114 t (by
        show Steps p.tables e below (T110.setTop (mkF m 18 #[.val (.ref a1)] [])) _
        refine XS.iconst X110.here hx rfl (hb hby d5_18) ?_
        show Steps p.tables e below (T110.setTop (mkF m 19 #[.val (.ref a1)] [(.int (1 : Int32))])) _
        refine XS.goto X110.here hx rfl (pc0 := 19) (pc' := 23) rfl (hb hby d5_19) (by decide) (by decide) ?_
        show Steps p.tables e below (T110.setTop (mkF m 23 #[.val (.ref a1)] [(.int (1 : Int32))])) _
        exact k)
      obtain ⟨fs, hr, hrun, hended, hW, hsame⟩ := X110.leave (v := some (.int (1 : Int32))) (fun h => by rw [Bd.returns] at h; cases h)
      refine ⟨_, _, p115 _ (retN X110 hx (t := .boolean) Bd.returns (by simp) (hb hby d5_23) hr), hrun, hended, _, _, rfl, ?_, ⟨_, rfl⟩, hW, hsame.mono (by decide) (by decide)⟩
      show Q5 Z a1 p2 h0 n0 _ T110.heap _
      rw [e110]
      exact ⟨by simp [own_zd, c105, c113], N0, rfl⟩
    · have p116 : Go p.tables e below _ (T110.setTop (mkF m 22 #[.val (.ref a1)] [])) := fun t k => p112 t (by
        show Steps p.tables e below (T110.setTop (mkF m 15 #[.val (.ref a1)] [(.int (88 : Int32)), (.int p2)])) _
        refine XS.icmpYes X110.here hx rfl (pc0 := 15) (pc' := 22) rfl (hb hby d5_15) rfl (feq c113).2 (by decide) (by decide) ?_
        show Steps p.tables e below (T110.setTop (mkF m 22 #[.val (.ref a1)] [])) _
        exact k)
      have p117 : Go p.tables e below _ (T110.setTop (mkF m 23 #[.val (.ref a1)] [(.int (0 : Int32))])) := fun t k => p116 t (by
        show Steps p.tables e below (T110.setTop (mkF m 22 #[.val (.ref a1)] [])) _
        refine XS.iconst X110.here hx rfl (hb hby d5_22) ?_
        show Steps p.tables e below (T110.setTop (mkF m 23 #[.val (.ref a1)] [(.int (0 : Int32))])) _
        exact k)
      obtain ⟨fs, hr, hrun, hended, hW, hsame⟩ := X110.leave (v := some (.int (0 : Int32))) (fun h => by rw [Bd.returns] at h; cases h)
      refine ⟨_, _, p117 _ (retN X110 hx (t := .boolean) Bd.returns (by simp) (hb hby d5_23) hr), hrun, hended, _, _, rfl, ?_, ⟨_, rfl⟩, hW, hsame.mono (by decide) (by decide)⟩
      show Q5 Z a1 p2 h0 n0 _ T110.heap _
      rw [e110]
      exact ⟨by simp [own_zd, c105, c113], N0, rfl⟩
theorem pd1 : parseMethodDescriptor "(CJ)V" = some ⟨[.char, .long], none⟩ := by decide +kernel
theorem pd2 : parseMethodDescriptor "(C)Z" = some ⟨[.char], some .boolean⟩ := by decide +kernel
theorem pd3 : parseMethodDescriptor "()Z" = some ⟨[], some .boolean⟩ := by decide +kernel
theorem pn0 : plainFor (⟨"com/example/far_queue/farqueue/ProcessStatEndedPinLaw", "law", "(IJJ)Z"⟩ : MethodName) = true := plainFor_of_name (by first | (simp [plainName, overriddenIn]; done) | decide +kernel)
theorem ef_rm0 (m : MethodId) (p1 : Int32) (q2 : Int64) (q3 : Int64) : entryFrame m #[(.int p1), (.long q2), (.long q3)] maxLocals = mkF m 0 #[.val (.int p1), .val (.long q2), .second, .val (.long q3), .second, .unset, .unset, .unset, .unset] [] := by first | (simp [entryFrame, mkF, argsToLocals, Value.category, maxLocals]; done) | rfl
def Q0 (Z : State) (p1 : Int32) (q2 : Int64) (q3 : Int64) (h0 : Heap) (n0 : Nat) (v : Option Value) (h : Heap) (L : List Loc) : Prop := v = some (.int (1 : Int32)) ∧ Fr n0 L
set_option maxRecDepth 65536 in
set_option maxHeartbeats 40000000 in
theorem rm0 (l : Launch) (Z : State) (a0 : Array Value) (hw : ∀ d ∈ tables_1, d.before a0 Z = true) (ws : List Jvm.Cond) (p1 : Int32) (q2 : Int64) (q3 : Int64) (h0 : Heap) (n0 : Nat) (Z0 : n0 ≤ h0.size) :
    MetFree l x (head1 (Jvm.Cond.code x code maxLocals ret :: ws) room_1) (fun a U => a = #[(.int p1), (.long q2), (.long q3)] ∧ Z.Warmed39 U.vm ∧ U.heap = h0) (fun _ _ _ _ _ => True) (fun _ U o U' => ∃ v L, o = .returned v ∧ Q0 Z p1 q2 q3 h0 n0 v U'.heap L ∧ FrameEnd U o U' L room_1.cells room_1.slots) := by
  refine MetFree.of_bodySF pn0 hisR ?_
  intro p e s m args below meth c s₁ Bd hml0 hP hK
  obtain ⟨rfl, hZ, hh⟩ := hP
  have hx := Bd.exec
  have hby := Bd.bytes
  have hml : c.maxLocals = 9 := hml0
  have hown : s.vm.findClass "com/example/far_queue/farqueue/ProcessStatEndedPinLaw" = some m.cls := findClass_of_methodNamed Bd.named
  have hnm := (name_of_methodNamed Bd.named Bd.method).1
  have X0 : Stand p l e room_1 s m #[(.int p1), (.long q2), (.long q3)] below meth c s₁ [] 0 0 := Stand.of_body Bd
  have e0 : s₁.heap = h0 := by rw [← hh, Bd.state]; rfl
  have N0 := Fr.nil n0
  have p0 : Go p.tables e below (s₁.setTop (entryFrame m #[(.int p1), (.long q2), (.long q3)] maxLocals)) (s₁.setTop (mkF m 0 #[.val (.int p1), .val (.long q2), .second, .val (.long q3), .second, .unset, .unset, .unset, .unset] [])) := fun t k => castTop (ef_rm0 m p1 q2 q3) k
  have p101 : Go p.tables e below _ (s₁.setTop (mkF m 4 #[.val (.int p1), .val (.long q2), .second, .val (.long q3), .second, .val (.int (p1.toUInt32.toUInt16.toUInt32.toInt32)), .unset, .unset, .unset] [])) := fun t k => p0 t (by
    show Steps p.tables e below (s₁.setTop (mkF m 0 #[.val (.int p1), .val (.long q2), .second, .val (.long q3), .second, .unset, .unset, .unset, .unset] [])) _
    refine XS.iloadN X0.here hx rfl (hb hby at_0) rfl ?_
    show Steps p.tables e below (s₁.setTop (mkF m 1 #[.val (.int p1), .val (.long q2), .second, .val (.long q3), .second, .unset, .unset, .unset, .unset] [(.int p1)])) _
    refine XS.i2c X0.here hx rfl (hb hby at_1) rfl ?_
    show Steps p.tables e below (s₁.setTop (mkF m 2 #[.val (.int p1), .val (.long q2), .second, .val (.long q3), .second, .unset, .unset, .unset, .unset] [(.int (p1.toUInt32.toUInt16.toUInt32.toInt32))])) _
    refine XS.istore X0.here hx rfl (hb hby at_2) rfl (l' := #[.val (.int p1), .val (.long q2), .second, .val (.long q3), .second, .val (.int (p1.toUInt32.toUInt16.toUInt32.toInt32)), .unset, .unset, .unset]) rfl ?_
    show Steps p.tables e below (s₁.setTop (mkF m 4 #[.val (.int p1), .val (.long q2), .second, .val (.long q3), .second, .val (.int (p1.toUInt32.toUInt16.toUInt32.toInt32)), .unset, .unset, .unset] [])) _
    exact k)
  obtain ⟨T102, h102, X102, e102, E102, A102, D102, -, st102⟩ := newO X0 hx hZ hown (own_w hw 0 rfl) (own_w hw 1 rfl) (own_w hw 2 rfl) e0 (g := (mkF m 4 #[.val (.int p1), .val (.long q2), .second, .val (.long q3), .second, .val (.int (p1.toUInt32.toUInt16.toUInt32.toInt32)), .unset, .unset, .unset] [])) rfl (hb hby at_4) (by decide) (by decide)
  obtain ⟨b102, g102⟩ : ∃ z, z = h0.size := ⟨_, rfl⟩
  rw [← g102] at A102 D102 st102
  have ge_b102 : n0 ≤ b102 := Nat.le_trans (Nat.le_trans Z0 (Keep.refl h0 []).1) (Nat.le_of_eq g102.symm)
  have sz_b102 : h0.size ≤ b102 := Nat.le_trans (Keep.refl h0 []).1 (Nat.le_of_eq g102.symm)
  have K103 : Keep h0 h102 [] := (Keep.refl h0 []).ext E102
  have p104 : Go p.tables e below _ (T102.setTop (mkF m 7 #[.val (.int p1), .val (.long q2), .second, .val (.long q3), .second, .val (.int (p1.toUInt32.toUInt16.toUInt32.toInt32)), .unset, .unset, .unset] [(.ref b102)])) := fun t k => p101 t (st102 t k)
  have F102_state : Fld Z h102 b102 "com/example/far_queue/farqueue/ProcessStat" "state" "C" (.int (0 : Int32)) := D102 (Or.inr (own_w hw 15 rfl)) (ty := .char) (by decide)
  have F102_startTicks : Fld Z h102 b102 "com/example/far_queue/farqueue/ProcessStat" "startTicks" "J" (.long (0 : Int64)) := D102 (Or.inr (own_w hw 17 rfl)) (ty := .long) (by decide)
  have p105 : Go p.tables e below _ (T102.setTop (mkF m 11 #[.val (.int p1), .val (.long q2), .second, .val (.long q3), .second, .val (.int (p1.toUInt32.toUInt16.toUInt32.toInt32)), .unset, .unset, .unset] [(.long q2), (.int (p1.toUInt32.toUInt16.toUInt32.toInt32)), (.ref b102), (.ref b102)])) := fun t k => p104 t (by
    show Steps p.tables e below (T102.setTop (mkF m 7 #[.val (.int p1), .val (.long q2), .second, .val (.long q3), .second, .val (.int (p1.toUInt32.toUInt16.toUInt32.toInt32)), .unset, .unset, .unset] [(.ref b102)])) _
    refine XS.dup X102.here hx rfl (hb hby at_7) rfl rfl ?_
    show Steps p.tables e below (T102.setTop (mkF m 8 #[.val (.int p1), .val (.long q2), .second, .val (.long q3), .second, .val (.int (p1.toUInt32.toUInt16.toUInt32.toInt32)), .unset, .unset, .unset] [(.ref b102), (.ref b102)])) _
    refine XS.iload X102.here hx rfl (hb hby at_8) rfl ?_
    show Steps p.tables e below (T102.setTop (mkF m 10 #[.val (.int p1), .val (.long q2), .second, .val (.long q3), .second, .val (.int (p1.toUInt32.toUInt16.toUInt32.toInt32)), .unset, .unset, .unset] [(.int (p1.toUInt32.toUInt16.toUInt32.toInt32)), (.ref b102), (.ref b102)])) _
    refine XS.lloadN X102.here hx rfl (hb hby at_10) rfl ?_
    show Steps p.tables e below (T102.setTop (mkF m 11 #[.val (.int p1), .val (.long q2), .second, .val (.long q3), .second, .val (.int (p1.toUInt32.toUInt16.toUInt32.toInt32)), .unset, .unset, .unset] [(.long q2), (.int (p1.toUInt32.toUInt16.toUInt32.toInt32)), (.ref b102), (.ref b102)])) _
    exact k)
  obtain ⟨_, _, ⟨T106, L106, k106, n106⟩, -, X106, ⟨Lc106, hQ106, l106, y106, z106⟩, st106⟩ := X102.specialBack hx (y := (⟨"com/example/far_queue/farqueue/ProcessStat", "<init>", "(CJ)V"⟩ : MethodName)) rfl hown (mvT hZ (own_w hw 3 rfl)) (mvT hZ (own_w hw 4 rfl)) (mvT hZ (own_w hw 5 rfl)) (by decide) (backOf (W := 1) (rm1 l Z a0 hw [] b102 (p1.toUInt32.toUInt16.toUInt32.toInt32) q2 h102 n0 (Nat.le_trans Z0 K103.1) F102_state F102_startTicks A102 ge_b102) hZ (own_w hw 5 rfl) (own_w hw 2 rfl) (by decide) (by decide)) (g := (mkF m 11 #[.val (.int p1), .val (.long q2), .second, .val (.long q3), .second, .val (.int (p1.toUInt32.toUInt16.toUInt32.toInt32)), .unset, .unset, .unset] [(.long q2), (.int (p1.toUInt32.toUInt16.toUInt32.toInt32)), (.ref b102), (.ref b102)])) rfl (by rw [hml]; rfl) (Steps.refl _) (a := b102) (argsL := [(.int (p1.toUInt32.toUInt16.toUInt32.toInt32)), (.long q2)]) (rest := [(.ref b102)]) (lenOf pd1 rfl) rfl (by show 2 * 0 + _ ≤ _; exact Nat.le_of_eq rfl) (hb hby at_11) (fun _ _ => ⟨rfl, e102, (by decide : 1 + 0 ≤ _), (by decide : 2 + 0 ≤ _)⟩)
  dsimp only [Pt.U, Pt.locs, Pt.cells, Pt.slots] at X106 l106 y106 z106 st106 hQ106
  subst l106 y106 z106
  obtain ⟨rfl, N106q, q106_K, q106_E, q106_S, q106_T⟩ := hQ106
  have N106 := Fr.app N0 N106q
  have K107 : Keep h0 T106.heap [] := K103.trans q106_K (allS (Or.inr sz_b102) all0)
  have p108 : Go p.tables e below _ (T106.setTop (mkF m 14 #[.val (.int p1), .val (.long q2), .second, .val (.long q3), .second, .val (.int (p1.toUInt32.toUInt16.toUInt32.toInt32)), .unset, .unset, .unset] [(.ref b102)])) := fun t k => p105 t (st106.trans k)
  have p109 : Go p.tables e below _ (T106.setTop (mkF m 16 #[.val (.int p1), .val (.long q2), .second, .val (.long q3), .second, .val (.int (p1.toUInt32.toUInt16.toUInt32.toInt32)), .val (.ref b102), .unset, .unset] [])) := fun t k => p108 t (by
    show Steps p.tables e below (T106.setTop (mkF m 14 #[.val (.int p1), .val (.long q2), .second, .val (.long q3), .second, .val (.int (p1.toUInt32.toUInt16.toUInt32.toInt32)), .unset, .unset, .unset] [(.ref b102)])) _
    refine XS.astore X106.here hx rfl (hb hby at_14) rfl rfl (l' := #[.val (.int p1), .val (.long q2), .second, .val (.long q3), .second, .val (.int (p1.toUInt32.toUInt16.toUInt32.toInt32)), .val (.ref b102), .unset, .unset]) rfl ?_
    show Steps p.tables e below (T106.setTop (mkF m 16 #[.val (.int p1), .val (.long q2), .second, .val (.long q3), .second, .val (.int (p1.toUInt32.toUInt16.toUInt32.toInt32)), .val (.ref b102), .unset, .unset] [])) _
    exact k)
  obtain ⟨T110, h110, X110, e110, E110, A110, D110, -, st110⟩ := newO X106 hx hZ hown (own_w hw 0 rfl) (own_w hw 1 rfl) (own_w hw 2 rfl) rfl (g := (mkF m 16 #[.val (.int p1), .val (.long q2), .second, .val (.long q3), .second, .val (.int (p1.toUInt32.toUInt16.toUInt32.toInt32)), .val (.ref b102), .unset, .unset] [])) rfl (hb hby at_16) (by decide) (by decide)
  obtain ⟨b110, g110⟩ : ∃ z, z = T106.heap.size := ⟨_, rfl⟩
  rw [← g110] at A110 D110 st110
  have ne_b102_b110 : b102 ≠ b110 := Nat.ne_of_lt (Nat.lt_of_lt_of_le q106_E.lt (Nat.le_of_eq g110.symm))
  have ge_b110 : n0 ≤ b110 := Nat.le_trans (Nat.le_trans Z0 K107.1) (Nat.le_of_eq g110.symm)
  have sz_b110 : h0.size ≤ b110 := Nat.le_trans K107.1 (Nat.le_of_eq g110.symm)
  have K111 : Keep h0 h110 [] := K107.ext E110
  have p112 : Go p.tables e below _ (T110.setTop (mkF m 19 #[.val (.int p1), .val (.long q2), .second, .val (.long q3), .second, .val (.int (p1.toUInt32.toUInt16.toUInt32.toInt32)), .val (.ref b102), .unset, .unset] [(.ref b110)])) := fun t k => p109 t (st110 t k)
  have F110_state : Fld Z h110 b110 "com/example/far_queue/farqueue/ProcessStat" "state" "C" (.int (0 : Int32)) := D110 (Or.inr (own_w hw 15 rfl)) (ty := .char) (by decide)
  have F110_startTicks : Fld Z h110 b110 "com/example/far_queue/farqueue/ProcessStat" "startTicks" "J" (.long (0 : Int64)) := D110 (Or.inr (own_w hw 17 rfl)) (ty := .long) (by decide)
  have p113 : Go p.tables e below _ (T110.setTop (mkF m 23 #[.val (.int p1), .val (.long q2), .second, .val (.long q3), .second, .val (.int (p1.toUInt32.toUInt16.toUInt32.toInt32)), .val (.ref b102), .unset, .unset] [(.long q3), (.int (p1.toUInt32.toUInt16.toUInt32.toInt32)), (.ref b110), (.ref b110)])) := fun t k => p112 t (by
    show Steps p.tables e below (T110.setTop (mkF m 19 #[.val (.int p1), .val (.long q2), .second, .val (.long q3), .second, .val (.int (p1.toUInt32.toUInt16.toUInt32.toInt32)), .val (.ref b102), .unset, .unset] [(.ref b110)])) _
    refine XS.dup X110.here hx rfl (hb hby at_19) rfl rfl ?_
    show Steps p.tables e below (T110.setTop (mkF m 20 #[.val (.int p1), .val (.long q2), .second, .val (.long q3), .second, .val (.int (p1.toUInt32.toUInt16.toUInt32.toInt32)), .val (.ref b102), .unset, .unset] [(.ref b110), (.ref b110)])) _
    refine XS.iload X110.here hx rfl (hb hby at_20) rfl ?_
    show Steps p.tables e below (T110.setTop (mkF m 22 #[.val (.int p1), .val (.long q2), .second, .val (.long q3), .second, .val (.int (p1.toUInt32.toUInt16.toUInt32.toInt32)), .val (.ref b102), .unset, .unset] [(.int (p1.toUInt32.toUInt16.toUInt32.toInt32)), (.ref b110), (.ref b110)])) _
    refine XS.lloadN X110.here hx rfl (hb hby at_22) rfl ?_
    show Steps p.tables e below (T110.setTop (mkF m 23 #[.val (.int p1), .val (.long q2), .second, .val (.long q3), .second, .val (.int (p1.toUInt32.toUInt16.toUInt32.toInt32)), .val (.ref b102), .unset, .unset] [(.long q3), (.int (p1.toUInt32.toUInt16.toUInt32.toInt32)), (.ref b110), (.ref b110)])) _
    exact k)
  obtain ⟨_, _, ⟨T114, L114, k114, n114⟩, -, X114, ⟨Lc114, hQ114, l114, y114, z114⟩, st114⟩ := X110.specialBack hx (y := (⟨"com/example/far_queue/farqueue/ProcessStat", "<init>", "(CJ)V"⟩ : MethodName)) rfl hown (mvT hZ (own_w hw 3 rfl)) (mvT hZ (own_w hw 4 rfl)) (mvT hZ (own_w hw 5 rfl)) (by decide) (backOf (W := 1) (rm1 l Z a0 hw [] b110 (p1.toUInt32.toUInt16.toUInt32.toInt32) q3 h110 n0 (Nat.le_trans Z0 K111.1) F110_state F110_startTicks A110 ge_b110) hZ (own_w hw 5 rfl) (own_w hw 2 rfl) (by decide) (by decide)) (g := (mkF m 23 #[.val (.int p1), .val (.long q2), .second, .val (.long q3), .second, .val (.int (p1.toUInt32.toUInt16.toUInt32.toInt32)), .val (.ref b102), .unset, .unset] [(.long q3), (.int (p1.toUInt32.toUInt16.toUInt32.toInt32)), (.ref b110), (.ref b110)])) rfl (by rw [hml]; rfl) (Steps.refl _) (a := b110) (argsL := [(.int (p1.toUInt32.toUInt16.toUInt32.toInt32)), (.long q3)]) (rest := [(.ref b110)]) (lenOf pd1 rfl) rfl (by show 2 * 0 + _ ≤ _; exact Nat.le_of_eq rfl) (hb hby at_23) (fun _ _ => ⟨rfl, e110, (by decide : 2 + 0 ≤ _), (by decide : 4 + 0 ≤ _)⟩)
  dsimp only [Pt.U, Pt.locs, Pt.cells, Pt.slots] at X114 l114 y114 z114 st114 hQ114
  subst l114 y114 z114
  obtain ⟨rfl, N114q, q114_K, q114_E, q114_S, q114_T⟩ := hQ114
  have N114 := Fr.app N106 N114q
  have K115 : Keep h0 T114.heap [] := K111.trans q114_K (allS (Or.inr sz_b110) all0)
  have p116 : Go p.tables e below _ (T114.setTop (mkF m 26 #[.val (.int p1), .val (.long q2), .second, .val (.long q3), .second, .val (.int (p1.toUInt32.toUInt16.toUInt32.toInt32)), .val (.ref b102), .unset, .unset] [(.ref b110)])) := fun t k => p113 t (st114.trans k)
  have p117 : Go p.tables e below _ (T114.setTop (mkF m 30 #[.val (.int p1), .val (.long q2), .second, .val (.long q3), .second, .val (.int (p1.toUInt32.toUInt16.toUInt32.toInt32)), .val (.ref b102), .val (.ref b110), .unset] [(.int (p1.toUInt32.toUInt16.toUInt32.toInt32))])) := fun t k => p116 t (by
    show Steps p.tables e below (T114.setTop (mkF m 26 #[.val (.int p1), .val (.long q2), .second, .val (.long q3), .second, .val (.int (p1.toUInt32.toUInt16.toUInt32.toInt32)), .val (.ref b102), .unset, .unset] [(.ref b110)])) _
    refine XS.astore X114.here hx rfl (hb hby at_26) rfl rfl (l' := #[.val (.int p1), .val (.long q2), .second, .val (.long q3), .second, .val (.int (p1.toUInt32.toUInt16.toUInt32.toInt32)), .val (.ref b102), .val (.ref b110), .unset]) rfl ?_
    show Steps p.tables e below (T114.setTop (mkF m 28 #[.val (.int p1), .val (.long q2), .second, .val (.long q3), .second, .val (.int (p1.toUInt32.toUInt16.toUInt32.toInt32)), .val (.ref b102), .val (.ref b110), .unset] [])) _
    refine XS.iload X114.here hx rfl (hb hby at_28) rfl ?_
    show Steps p.tables e below (T114.setTop (mkF m 30 #[.val (.int p1), .val (.long q2), .second, .val (.long q3), .second, .val (.int (p1.toUInt32.toUInt16.toUInt32.toInt32)), .val (.ref b102), .val (.ref b110), .unset] [(.int (p1.toUInt32.toUInt16.toUInt32.toInt32))])) _
    exact k)
  obtain ⟨_, _, ⟨T118, L118, k118, n118⟩, -, X118, ⟨Lc118, hQ118, l118, y118, z118⟩, st118⟩ := Jvm.LawKit.callS X114 hx (y := (⟨"com/example/far_queue/farqueue/ProcessStatEndedPinLaw", "isZombieOrDead", "(C)Z"⟩ : MethodName)) hown (mvT hZ (own_w hw 18 rfl)) (mvT hZ (own_w hw 19 rfl)) (mvT hZ (own_w hw 20 rfl)) (mvT hZ (own_w hw 21 rfl)) (by decide) (backOf (W := 0) (rm4 l Z a0 hw [] (p1.toUInt32.toUInt16.toUInt32.toInt32) T114.heap n0 (Nat.le_trans Z0 K115.1) ) hZ (own_w hw 21 rfl) (own_w hw 20 rfl) (by decide) (by decide)) (g := (mkF m 30 #[.val (.int p1), .val (.long q2), .second, .val (.long q3), .second, .val (.int (p1.toUInt32.toUInt16.toUInt32.toInt32)), .val (.ref b102), .val (.ref b110), .unset] [(.int (p1.toUInt32.toUInt16.toUInt32.toInt32))])) rfl (by rw [hml]; rfl) (argsL := [(.int (p1.toUInt32.toUInt16.toUInt32.toInt32))]) (rest := []) (lenOf pd2 rfl) rfl (by show 2 * 0 + _ ≤ _; exact Nat.le_of_eq rfl) (hb hby at_30) (fun _ _ => ⟨rfl, rfl, (by decide : 2 + 0 ≤ _), (by decide : 4 + 0 ≤ _)⟩)
  dsimp only [Pt.U, Pt.locs, Pt.cells, Pt.slots] at X118 l118 y118 z118 st118 hQ118
  subst l118 y118 z118
  obtain ⟨rfl, N118q, q118_hh⟩ := hQ118
  have N118 := Fr.app N114 N118q
  have p119 : Go p.tables e below _ (T118.setTop (mkF m 33 #[.val (.int p1), .val (.long q2), .second, .val (.long q3), .second, .val (.int (p1.toUInt32.toUInt16.toUInt32.toInt32)), .val (.ref b102), .val (.ref b110), .unset] [(.int (own_zd (p1.toUInt32.toUInt16.toUInt32.toInt32)))])) := fun t k => p117 t (st118 _ k)
  have p120 : Go p.tables e below _ (T118.setTop (mkF m 37 #[.val (.int p1), .val (.long q2), .second, .val (.long q3), .second, .val (.int (p1.toUInt32.toUInt16.toUInt32.toInt32)), .val (.ref b102), .val (.ref b110), .val (.int (own_zd (p1.toUInt32.toUInt16.toUInt32.toInt32)))] [(.ref b102)])) := fun t k => p119 t (by
    show Steps p.tables e below (T118.setTop (mkF m 33 #[.val (.int p1), .val (.long q2), .second, .val (.long q3), .second, .val (.int (p1.toUInt32.toUInt16.toUInt32.toInt32)), .val (.ref b102), .val (.ref b110), .unset] [(.int (own_zd (p1.toUInt32.toUInt16.toUInt32.toInt32)))])) _
    refine XS.istore X118.here hx rfl (hb hby at_33) rfl (l' := #[.val (.int p1), .val (.long q2), .second, .val (.long q3), .second, .val (.int (p1.toUInt32.toUInt16.toUInt32.toInt32)), .val (.ref b102), .val (.ref b110), .val (.int (own_zd (p1.toUInt32.toUInt16.toUInt32.toInt32)))]) rfl ?_
    show Steps p.tables e below (T118.setTop (mkF m 35 #[.val (.int p1), .val (.long q2), .second, .val (.long q3), .second, .val (.int (p1.toUInt32.toUInt16.toUInt32.toInt32)), .val (.ref b102), .val (.ref b110), .val (.int (own_zd (p1.toUInt32.toUInt16.toUInt32.toInt32)))] [])) _
    refine XS.aload X118.here hx rfl (hb hby at_35) rfl rfl ?_
    show Steps p.tables e below (T118.setTop (mkF m 37 #[.val (.int p1), .val (.long q2), .second, .val (.long q3), .second, .val (.int (p1.toUInt32.toUInt16.toUInt32.toInt32)), .val (.ref b102), .val (.ref b110), .val (.int (own_zd (p1.toUInt32.toUInt16.toUInt32.toInt32)))] [(.ref b102)])) _
    exact k)
  have f121 := ((q106_S.ext E110).keep q114_K (ninS ne_b102_b110 nin0))
  have f123 := ((q106_E.ext E110).keep q114_K)
  obtain ⟨cq122, kq122, q122a, q122b, q122c⟩ := isOf hZ q118_hh f123
  obtain ⟨_, _, ⟨T122, L122, k122, n122⟩, -, X122, ⟨Lc122, hQ122, l122, y122, z122⟩, st122⟩ := X118.virtualBack hx (y := (⟨"com/example/far_queue/farqueue/ProcessStat", "ended", "()Z"⟩ : MethodName)) (z := (⟨"com/example/far_queue/farqueue/ProcessStat", "ended", "()Z"⟩ : MethodName)) hown (mvT hZ (own_w hw 22 rfl)) (mvT hZ (own_w hw 23 rfl)) (notFace_of_selects (args := #[]) (mvT hZ (own_w hw 25 rfl))) (mvT hZ (own_w hw 25 rfl)) (mvT hZ (own_w hw 24 rfl)) (by decide) (backOf (W := 0) (rm5 l Z a0 hw [] b102 (nar .char (p1.toUInt32.toUInt16.toUInt32.toInt32)) T114.heap n0 (Nat.le_trans Z0 K115.1) f121) hZ (own_w hw 26 rfl) (own_w hw 2 rfl) (by decide) (by decide)) q122a q122c (g := (mkF m 37 #[.val (.int p1), .val (.long q2), .second, .val (.long q3), .second, .val (.int (p1.toUInt32.toUInt16.toUInt32.toInt32)), .val (.ref b102), .val (.ref b110), .val (.int (own_zd (p1.toUInt32.toUInt16.toUInt32.toInt32)))] [(.ref b102)])) rfl (by rw [hml]; rfl) (Steps.refl _) (argsL := []) (rest := []) (lenOf pd3 rfl) rfl (by show 2 * 0 + _ ≤ _; exact Nat.le_of_eq rfl) (hb hby at_37) (fun _ _ => ⟨rfl, q118_hh, (by decide : 2 + 0 ≤ _), (by decide : 4 + 0 ≤ _)⟩)
  dsimp only [Pt.U, Pt.locs, Pt.cells, Pt.slots] at X122 l122 y122 z122 st122 hQ122
  subst l122 y122 z122
  obtain ⟨rfl, N122q, q122_hh⟩ := hQ122
  have N122 := Fr.app N118 N122q
  have p124 : Go p.tables e below _ (T122.setTop (mkF m 40 #[.val (.int p1), .val (.long q2), .second, .val (.long q3), .second, .val (.int (p1.toUInt32.toUInt16.toUInt32.toInt32)), .val (.ref b102), .val (.ref b110), .val (.int (own_zd (p1.toUInt32.toUInt16.toUInt32.toInt32)))] [(.int (own_zd (nar .char (p1.toUInt32.toUInt16.toUInt32.toInt32))))])) := fun t k => p120 t (st122.trans k)
  have p125 : Go p.tables e below _ (T122.setTop (mkF m 42 #[.val (.int p1), .val (.long q2), .second, .val (.long q3), .second, .val (.int (p1.toUInt32.toUInt16.toUInt32.toInt32)), .val (.ref b102), .val (.ref b110), .val (.int (own_zd (p1.toUInt32.toUInt16.toUInt32.toInt32)))] [(.int (own_zd (p1.toUInt32.toUInt16.toUInt32.toInt32))), (.int (own_zd (nar .char (p1.toUInt32.toUInt16.toUInt32.toInt32))))])) := fun t k => p124 t (by
    show Steps p.tables e below (T122.setTop (mkF m 40 #[.val (.int p1), .val (.long q2), .second, .val (.long q3), .second, .val (.int (p1.toUInt32.toUInt16.toUInt32.toInt32)), .val (.ref b102), .val (.ref b110), .val (.int (own_zd (p1.toUInt32.toUInt16.toUInt32.toInt32)))] [(.int (own_zd (nar .char (p1.toUInt32.toUInt16.toUInt32.toInt32))))])) _
    refine XS.iload X122.here hx rfl (hb hby at_40) rfl ?_
    show Steps p.tables e below (T122.setTop (mkF m 42 #[.val (.int p1), .val (.long q2), .second, .val (.long q3), .second, .val (.int (p1.toUInt32.toUInt16.toUInt32.toInt32)), .val (.ref b102), .val (.ref b110), .val (.int (own_zd (p1.toUInt32.toUInt16.toUInt32.toInt32)))] [(.int (own_zd (p1.toUInt32.toUInt16.toUInt32.toInt32))), (.int (own_zd (nar .char (p1.toUInt32.toUInt16.toUInt32.toInt32))))])) _
    exact k)
  have c126 : ((own_zd (nar .char (p1.toUInt32.toUInt16.toUInt32.toInt32))) = (own_zd (p1.toUInt32.toUInt16.toUInt32.toInt32))) := by rw [own_nar_c]
  have p127 : Go p.tables e below _ (T122.setTop (mkF m 47 #[.val (.int p1), .val (.long q2), .second, .val (.long q3), .second, .val (.int (p1.toUInt32.toUInt16.toUInt32.toInt32)), .val (.ref b102), .val (.ref b110), .val (.int (own_zd (p1.toUInt32.toUInt16.toUInt32.toInt32)))] [(.ref b110)])) := fun t k => p125 t (by
    show Steps p.tables e below (T122.setTop (mkF m 42 #[.val (.int p1), .val (.long q2), .second, .val (.long q3), .second, .val (.int (p1.toUInt32.toUInt16.toUInt32.toInt32)), .val (.ref b102), .val (.ref b110), .val (.int (own_zd (p1.toUInt32.toUInt16.toUInt32.toInt32)))] [(.int (own_zd (p1.toUInt32.toUInt16.toUInt32.toInt32))), (.int (own_zd (nar .char (p1.toUInt32.toUInt16.toUInt32.toInt32))))])) _
    refine XS.icmpNo X122.here hx rfl (hb hby at_42) rfl (teq c126).2 ?_
    show Steps p.tables e below (T122.setTop (mkF m 45 #[.val (.int p1), .val (.long q2), .second, .val (.long q3), .second, .val (.int (p1.toUInt32.toUInt16.toUInt32.toInt32)), .val (.ref b102), .val (.ref b110), .val (.int (own_zd (p1.toUInt32.toUInt16.toUInt32.toInt32)))] [])) _
    refine XS.aload X122.here hx rfl (hb hby at_45) rfl rfl ?_
    show Steps p.tables e below (T122.setTop (mkF m 47 #[.val (.int p1), .val (.long q2), .second, .val (.long q3), .second, .val (.int (p1.toUInt32.toUInt16.toUInt32.toInt32)), .val (.ref b102), .val (.ref b110), .val (.int (own_zd (p1.toUInt32.toUInt16.toUInt32.toInt32)))] [(.ref b110)])) _
    exact k)
  obtain ⟨cq128, kq128, q128a, q128b, q128c⟩ := isOf hZ q122_hh q114_E
  obtain ⟨_, _, ⟨T128, L128, k128, n128⟩, -, X128, ⟨Lc128, hQ128, l128, y128, z128⟩, st128⟩ := X122.virtualBack hx (y := (⟨"com/example/far_queue/farqueue/ProcessStat", "ended", "()Z"⟩ : MethodName)) (z := (⟨"com/example/far_queue/farqueue/ProcessStat", "ended", "()Z"⟩ : MethodName)) hown (mvT hZ (own_w hw 22 rfl)) (mvT hZ (own_w hw 23 rfl)) (notFace_of_selects (args := #[]) (mvT hZ (own_w hw 25 rfl))) (mvT hZ (own_w hw 25 rfl)) (mvT hZ (own_w hw 24 rfl)) (by decide) (backOf (W := 0) (rm5 l Z a0 hw [] b110 (nar .char (p1.toUInt32.toUInt16.toUInt32.toInt32)) T114.heap n0 (Nat.le_trans Z0 K115.1) q114_S) hZ (own_w hw 26 rfl) (own_w hw 2 rfl) (by decide) (by decide)) q128a q128c (g := (mkF m 47 #[.val (.int p1), .val (.long q2), .second, .val (.long q3), .second, .val (.int (p1.toUInt32.toUInt16.toUInt32.toInt32)), .val (.ref b102), .val (.ref b110), .val (.int (own_zd (p1.toUInt32.toUInt16.toUInt32.toInt32)))] [(.ref b110)])) rfl (by rw [hml]; rfl) (Steps.refl _) (argsL := []) (rest := []) (lenOf pd3 rfl) rfl (by show 2 * 0 + _ ≤ _; exact Nat.le_of_eq rfl) (hb hby at_47) (fun _ _ => ⟨rfl, q122_hh, (by decide : 2 + 0 ≤ _), (by decide : 4 + 0 ≤ _)⟩)
  dsimp only [Pt.U, Pt.locs, Pt.cells, Pt.slots] at X128 l128 y128 z128 st128 hQ128
  subst l128 y128 z128
  obtain ⟨rfl, N128q, q128_hh⟩ := hQ128
  have N128 := Fr.app N122 N128q
  have p129 : Go p.tables e below _ (T128.setTop (mkF m 50 #[.val (.int p1), .val (.long q2), .second, .val (.long q3), .second, .val (.int (p1.toUInt32.toUInt16.toUInt32.toInt32)), .val (.ref b102), .val (.ref b110), .val (.int (own_zd (p1.toUInt32.toUInt16.toUInt32.toInt32)))] [(.int (own_zd (nar .char (p1.toUInt32.toUInt16.toUInt32.toInt32))))])) := fun t k => p127 t (st128.trans k)
  have p130 : Go p.tables e below _ (T128.setTop (mkF m 52 #[.val (.int p1), .val (.long q2), .second, .val (.long q3), .second, .val (.int (p1.toUInt32.toUInt16.toUInt32.toInt32)), .val (.ref b102), .val (.ref b110), .val (.int (own_zd (p1.toUInt32.toUInt16.toUInt32.toInt32)))] [(.int (own_zd (p1.toUInt32.toUInt16.toUInt32.toInt32))), (.int (own_zd (nar .char (p1.toUInt32.toUInt16.toUInt32.toInt32))))])) := fun t k => p129 t (by
    show Steps p.tables e below (T128.setTop (mkF m 50 #[.val (.int p1), .val (.long q2), .second, .val (.long q3), .second, .val (.int (p1.toUInt32.toUInt16.toUInt32.toInt32)), .val (.ref b102), .val (.ref b110), .val (.int (own_zd (p1.toUInt32.toUInt16.toUInt32.toInt32)))] [(.int (own_zd (nar .char (p1.toUInt32.toUInt16.toUInt32.toInt32))))])) _
    refine XS.iload X128.here hx rfl (hb hby at_50) rfl ?_
    show Steps p.tables e below (T128.setTop (mkF m 52 #[.val (.int p1), .val (.long q2), .second, .val (.long q3), .second, .val (.int (p1.toUInt32.toUInt16.toUInt32.toInt32)), .val (.ref b102), .val (.ref b110), .val (.int (own_zd (p1.toUInt32.toUInt16.toUInt32.toInt32)))] [(.int (own_zd (p1.toUInt32.toUInt16.toUInt32.toInt32))), (.int (own_zd (nar .char (p1.toUInt32.toUInt16.toUInt32.toInt32))))])) _
    exact k)
  have c131 : ((own_zd (nar .char (p1.toUInt32.toUInt16.toUInt32.toInt32))) = (own_zd (p1.toUInt32.toUInt16.toUInt32.toInt32))) := by rw [own_nar_c]
  have p132 : Go p.tables e below _ (T128.setTop (mkF m 60 #[.val (.int p1), .val (.long q2), .second, .val (.long q3), .second, .val (.int (p1.toUInt32.toUInt16.toUInt32.toInt32)), .val (.ref b102), .val (.ref b110), .val (.int (own_zd (p1.toUInt32.toUInt16.toUInt32.toInt32)))] [(.int (1 : Int32))])) := fun t k => p130 t (by
    show Steps p.tables e below (T128.setTop (mkF m 52 #[.val (.int p1), .val (.long q2), .second, .val (.long q3), .second, .val (.int (p1.toUInt32.toUInt16.toUInt32.toInt32)), .val (.ref b102), .val (.ref b110), .val (.int (own_zd (p1.toUInt32.toUInt16.toUInt32.toInt32)))] [(.int (own_zd (p1.toUInt32.toUInt16.toUInt32.toInt32))), (.int (own_zd (nar .char (p1.toUInt32.toUInt16.toUInt32.toInt32))))])) _
    refine XS.icmpNo X128.here hx rfl (hb hby at_52) rfl (teq c131).2 ?_
    show Steps p.tables e below (T128.setTop (mkF m 55 #[.val (.int p1), .val (.long q2), .second, .val (.long q3), .second, .val (.int (p1.toUInt32.toUInt16.toUInt32.toInt32)), .val (.ref b102), .val (.ref b110), .val (.int (own_zd (p1.toUInt32.toUInt16.toUInt32.toInt32)))] [])) _
    refine XS.iconst X128.here hx rfl (hb hby at_55) ?_
    show Steps p.tables e below (T128.setTop (mkF m 56 #[.val (.int p1), .val (.long q2), .second, .val (.long q3), .second, .val (.int (p1.toUInt32.toUInt16.toUInt32.toInt32)), .val (.ref b102), .val (.ref b110), .val (.int (own_zd (p1.toUInt32.toUInt16.toUInt32.toInt32)))] [(.int (1 : Int32))])) _
    refine XS.goto X128.here hx rfl (pc0 := 56) (pc' := 60) rfl (hb hby at_56) (by decide) (by decide) ?_
    show Steps p.tables e below (T128.setTop (mkF m 60 #[.val (.int p1), .val (.long q2), .second, .val (.long q3), .second, .val (.int (p1.toUInt32.toUInt16.toUInt32.toInt32)), .val (.ref b102), .val (.ref b110), .val (.int (own_zd (p1.toUInt32.toUInt16.toUInt32.toInt32)))] [(.int (1 : Int32))])) _
    exact k)
  obtain ⟨fs, hr, hrun, hended, hW, hsame⟩ := X128.leave (v := some (.int (1 : Int32))) (fun h => by rw [Bd.returns] at h; cases h)
  refine ⟨_, _, p132 _ (retN X128 hx (t := .boolean) Bd.returns (by simp) (hb hby at_60) hr), hrun, hended, _, _, rfl, ?_, ⟨_, rfl⟩, hW, hsame.mono (by decide) (by decide)⟩
  show Q0 Z p1 q2 q3 h0 n0 _ T128.heap _
  rw [q128_hh]
  exact ⟨rfl, N128⟩
set_option maxRecDepth 65536 in
set_option maxHeartbeats 40000000 in
theorem comes_1 {Post : Tables → Env → Array Value → State → Outcome → State → Prop} (hpost : ∀ tb e args s v u, (limb_1_1.after args s (.returned v) u = true ∧ limb_1_2.after args s (.returned v) u = true ∧ True) → FrameEnd s (.returned v) u (Jvm.fieldLocs frame_1_writes args s ++ Jvm.arrayLocs frame_1_arrays args s ++ Jvm.staticLocs frame_1_statics s) 16 128 → Post tb e args s (.returned v) u) :
    ArmFor flags0 classFile x code maxLocals ret World_1 tables_1 room_1 Calls_1 rest_1 Pre_1 Post := by
  intro l hfl _ _ p e ha hc hk s m args below hf hA hF happ hP
  obtain ⟨hcalls, hrest, hpre⟩ := hP
  obtain ⟨-, -, -, hnamed, -, -, -, hat⟩ := (Spec.applies_iff hf).mp happ
  obtain ⟨hg, hn⟩ := and_e (Cond.before_iff.mp (show (Jvm.Cond.and given_1 narrow_1).before args s = true from hpre))
  obtain ⟨ga, gb0⟩ := and_e hg
  obtain ⟨gi0, gb1⟩ := and_e gb0
  obtain ⟨gi1, gb2⟩ := and_e gb1
  have gi2 := gb2
  obtain ⟨w0, w1, w2, rfl⟩ : ∃ w0 w1 w2 : Value, args = #[w0, w1, w2] := by
    have hs : args.size = 3 := by simpa [Cond.value, given_1] using ga
    obtain ⟨L⟩ := args
    match L, hs with
    | [w0, w1, w2], _ => exact ⟨w0, w1, w2, rfl⟩
  have hw := fun d (hd : d ∈ tables_1) => atoms_spec (ws := Jvm.Cond.code x code maxLocals ret :: tables_1) hat d (List.mem_cons_of_mem _ hd)
  have hfit : Fit s := fun {y c} hc i hi => by
    obtain ⟨ha, rfl⟩ := Array.getElem?_eq_some_iff.mp hc
    have q := List.all_eq_true.mp ((Array.all_eq_true_iff_forall_mem.mp hF) _ (Array.getElem_mem ha)) i (List.mem_range.mpr hi)
    simpa [Array.getElem?_eq_getElem hi] using q
  obtain ⟨i0, ei0⟩ := is_v gi0
  obtain rfl : w0 = (.int i0) := Option.some.inj ei0
  obtain ⟨i1, ei1⟩ := isL_v gi1
  obtain rfl : w1 = (.long i1) := Option.some.inj ei1
  obtain ⟨i2, ei2⟩ := isL_v gi2
  obtain rfl : w2 = (.long i2) := Option.some.inj ei2
  obtain ⟨n, o, h1, h2, h3, _, L, rfl, ⟨rfl, N⟩, hq⟩ := rm0 l s _ hw tables_1 i0 i1 i2 s.heap s.heap.size (Nat.le_refl _) p e ha hc hk s m _ below hf ((Spec.applies_iff_loose hf).mp happ).1 ⟨rfl, State.Warmed39.refl s, rfl⟩ trivial
  refine ⟨n, _, h1, h2, h3, hpost _ _ _ _ _ _ ⟨Cond.after_iff.mpr rfl, Cond.after_iff.mpr (eq_i res_at (Term.int_eval (1)) rfl), trivial⟩ ⟨hq.1, hq.2.1, (hq.2.2.sift fun y hy => Or.inr (N y hy)).mono (by decide) (by decide)⟩⟩
theorem main_1_1 : Claimed_1_1 := comes_1 fun _ _ _ _ _ _ h hF => ⟨h.1, hF⟩
theorem main_1_2 : Claimed_1_2 := comes_1 fun _ _ _ _ _ _ h hF => ⟨h.2.1, hF⟩
end Jvm.Pilot.@@N@@
namespace Jvm.Pilot.@@N@@
open Jvm Jvm.ClassFile Sem Op Lib Jvm.Free Jvm.Stand Jvm.Pilot.@@N@@.Jvm.D
/-! MADE BY PROGRAM (witnessworld.py) out of the Statement's table words and the real class files: 10 classes; the members and pool entries that the words name. The judged class is class 1, her method 2. -/
namespace start1
open Jvm.ClassFile
def u (s : String) : CpInfo := .utf8 (stringToUtf16 s)
/-- a pool by its gaps: so many unusable entries, then the entry; so many at the end -/
def gap : Nat → List CpInfo → List CpInfo
  | 0, r => r
  | n + 1, r => .unusable :: gap n r
def poolList (es : List (Nat × CpInfo)) (last : Nat) : List CpInfo := es.foldr (fun e r => gap e.1 (e.2 :: r)) (gap last [])
def pool (es : List (Nat × CpInfo)) (last : Nat) : Array CpInfo := ⟨poolList es last⟩
def fileOf (pool : Array CpInfo) (this : Nat) (attrs : Array Attribute := #[]) (ms : Array MethodInfo := #[]) (fl : Nat := 33) (sup : Nat := 0) (ifs : Array Nat := #[]) (fds : Array FieldInfo := #[]) : ClassFile where
  minorVersion := 0
  majorVersion := 65
  constantPool := pool
  accessFlags := fl
  thisClass := this
  superClass := sup
  interfaces := ifs
  fields := fds
  methods := ms
  attributes := attrs
def plain (name : String) (sup : Option ClassId) : Class where
  name := name
  kind := .ordinary
  loader := none
  accessFlags := 33
  super := sup
  interfaces := #[]
  cf := none
  fields := #[]
  methods := #[]
  instanceTypes := #[]
  staticTypes := #[]
  resolved := #[]
  callSites := []
  init := .initialized
  statics := none
  mirror := none

def pool0 : Array CpInfo := pool [(5, u "<init>"), (0, u "()V"), (1, .class_ 10), (1, u "java/lang/Object")] 113

def k0c0 : Code := { maxStack := 0, maxLocals := 1, code := object_method_1_code, exceptionTable := #[], attributes := #[] }
def k0m0 : Method := { name := "<init>", desc := "()V", sig := { parameters := [], returnType := none }, accessFlags := 1, code := some k0c0 }
/-- java/lang/Object -/
def k0 : Class := { plain "java/lang/Object" none with
  accessFlags := 33
  interfaces := #[]
  cf := some (fileOf pool0 8 #[] #[{ accessFlags := 1, nameIndex := 5, descriptorIndex := 6, attributes := #[] }] 33 0 #[] #[])
  fields := #[]
  methods := #[k0m0]
  instanceTypes := #[]
  staticTypes := #[]
  resolved := Array.replicate 124 none
  statics := none }

def pool1 : Array CpInfo := pool [(2, .class_ 4), (1, u "java/lang/Object"), (0, u "<init>"), (0, u "()V"), (0, .class_ 8), (0, u "com/example/far_queue/farqueue/ProcessStat"), (0, .methodref 7 10), (0, .nameAndType 5 11), (0, u "(CJ)V"), (0, .methodref 13 14), (0, .class_ 15), (0, .nameAndType 16 17), (0, u "com/example/far_queue/farqueue/ProcessStatEndedPinLaw"), (0, u "isZombieOrDead"), (0, u "(C)Z"), (0, .methodref 7 19), (0, .nameAndType 20 21), (0, u "ended"), (0, u "()Z"), (3, u "law"), (0, u "(IJJ)Z")] 2

def k1m0 : Method := { name := "<init>", desc := "()V", sig := { parameters := [], returnType := none }, accessFlags := 2, code := none }
def k1c1 : Code := { maxStack := 2, maxLocals := 1, code := method_2_code, exceptionTable := #[], attributes := #[] }
def k1m1 : Method := { name := "isZombieOrDead", desc := "(C)Z", sig := { parameters := [.char], returnType := some .boolean }, accessFlags := 10, code := some k1c1 }
def k1c2 : Code := { maxStack := 5, maxLocals := 9, code := code, exceptionTable := #[], attributes := #[] }
def k1m2 : Method := { name := "law", desc := "(IJJ)Z", sig := { parameters := [.int, .long, .long], returnType := some .boolean }, accessFlags := 9, code := some k1c2 }
/-- com/example/far_queue/farqueue/ProcessStatEndedPinLaw -/
def k1 : Class := { plain "com/example/far_queue/farqueue/ProcessStatEndedPinLaw" (some 0) with
  accessFlags := 49
  interfaces := #[]
  cf := some (fileOf pool1 13 #[] #[{ accessFlags := 2, nameIndex := 5, descriptorIndex := 6, attributes := #[] }, { accessFlags := 10, nameIndex := 16, descriptorIndex := 17, attributes := #[] }, { accessFlags := 9, nameIndex := 25, descriptorIndex := 26, attributes := #[] }] 49 2 #[] #[])
  fields := #[]
  methods := #[k1m0, k1m1, k1m2]
  instanceTypes := #[]
  staticTypes := #[]
  resolved := Array.replicate 29 none
  statics := none }

def pool2 : Array CpInfo := pool [(1, .methodref 2 3), (0, .class_ 4), (0, .nameAndType 5 6), (0, u "java/lang/Object"), (0, u "<init>"), (0, u "()V"), (0, .class_ 8), (0, u "java/lang/Record")] 13

def k2c0 : Code := { maxStack := 1, maxLocals := 1, code := jdk_30_method_1_code, exceptionTable := #[], attributes := #[] }
def k2m0 : Method := { name := "<init>", desc := "()V", sig := { parameters := [], returnType := none }, accessFlags := 4, code := some k2c0 }
/-- java/lang/Record -/
def k2 : Class := { plain "java/lang/Record" (some 0) with
  accessFlags := 1057
  interfaces := #[]
  cf := some (fileOf pool2 7 #[] #[{ accessFlags := 4, nameIndex := 5, descriptorIndex := 6, attributes := #[] }] 1057 2 #[] #[])
  fields := #[]
  methods := #[k2m0]
  instanceTypes := #[]
  staticTypes := #[]
  resolved := Array.replicate 22 none
  statics := none }

def pool3 : Array CpInfo := pool [(1, .methodref 2 3), (0, .class_ 4), (0, .nameAndType 5 6), (0, u "java/lang/Record"), (0, u "<init>"), (0, u "()V"), (0, .fieldref 8 9), (0, .class_ 10), (0, .nameAndType 11 12), (0, u "com/example/far_queue/farqueue/ProcessStat"), (0, u "state"), (0, u "C"), (0, .fieldref 8 14), (0, .nameAndType 15 16), (0, u "startTicks"), (0, u "J"), (35, u "()Z"), (56, u "(CJ)V"), (11, u "READ_BYTES"), (0, u "I"), (7, u "ended")] 25

def k3c0 : Code := { maxStack := 3, maxLocals := 4, code := prog_6_method_1_code, exceptionTable := #[], attributes := #[] }
def k3m0 : Method := { name := "<init>", desc := "(CJ)V", sig := { parameters := [.char, .long], returnType := none }, accessFlags := 0, code := some k3c0 }
def k3c1 : Code := { maxStack := 2, maxLocals := 1, code := prog_6_method_3_code, exceptionTable := #[], attributes := #[] }
def k3m1 : Method := { name := "ended", desc := "()Z", sig := { parameters := [], returnType := some .boolean }, accessFlags := 0, code := some k3c1 }
/-- com/example/far_queue/farqueue/ProcessStat -/
def k3 : Class := { plain "com/example/far_queue/farqueue/ProcessStat" (some 2) with
  accessFlags := 48
  interfaces := #[]
  cf := some (fileOf pool3 8 #[] #[{ accessFlags := 0, nameIndex := 5, descriptorIndex := 109, attributes := #[] }, { accessFlags := 0, nameIndex := 130, descriptorIndex := 52, attributes := #[] }] 48 2 #[] #[{ accessFlags := 18, nameIndex := 11, descriptorIndex := 12, attributes := #[] }, { accessFlags := 18, nameIndex := 15, descriptorIndex := 16, attributes := #[] }, { accessFlags := 26, nameIndex := 121, descriptorIndex := 122, attributes := #[] }])
  fields := #[{ name := "state", type := .char, accessFlags := 18, slot := 0, constantValue := 0 }, { name := "startTicks", type := .long, accessFlags := 18, slot := 1, constantValue := 0 }, { name := "READ_BYTES", type := .int, accessFlags := 26, slot := 0, constantValue := 0 }]
  methods := #[k3m0, k3m1]
  instanceTypes := #[.char, .long]
  staticTypes := #[.int]
  resolved := Array.replicate 156 none
  statics := none }

def pool4 : Array CpInfo := pool [(1, u "java/lang/Cloneable"), (0, .class_ 1), (0, u "java/lang/Object"), (0, .class_ 3)] 3

/-- java/lang/Cloneable -/
def k4 : Class := { plain "java/lang/Cloneable" (some 0) with
  accessFlags := 1537
  interfaces := #[]
  cf := some (fileOf pool4 2 #[] #[] 1537 4 #[] #[])
  fields := #[]
  methods := #[]
  instanceTypes := #[]
  staticTypes := #[]
  resolved := Array.replicate 8 none
  statics := none }

def pool5 : Array CpInfo := pool [(1, u "java/io/Serializable"), (0, .class_ 1), (0, u "java/lang/Object"), (0, .class_ 3)] 3

/-- java/io/Serializable -/
def k5 : Class := { plain "java/io/Serializable" (some 0) with
  accessFlags := 1537
  interfaces := #[]
  cf := some (fileOf pool5 2 #[] #[] 1537 4 #[] #[])
  fields := #[]
  methods := #[]
  instanceTypes := #[]
  staticTypes := #[]
  resolved := Array.replicate 8 none
  statics := none }

/-- the primitive byte -/
def k6 : Class := { plain "byte" none with kind := .primitive 'B', accessFlags := 0x411 }
/-- [B -/
def k7 : Class := { plain "[B" (some 0) with kind := .array 6 .byte, interfaces := #[4, 5], accessFlags := 1041 }

/-- the primitive int -/
def k8 : Class := { plain "int" none with kind := .primitive 'I', accessFlags := 0x411 }
/-- [I -/
def k9 : Class := { plain "[I" (some 0) with kind := .array 8 .int, interfaces := #[4, 5], accessFlags := 1041 }

def heap : Heap := #[]
def classes : Array Class := #[k0, k1, k2, k3, k4, k5, k6, k7, k8, k9]
def interned : List (Array UInt16 × Addr) := []
def slotsUsed : Nat := 0
def theMethod : MethodId := ⟨1, 2⟩
def args0 : Array Value := #[.int 90, .long 5, .long 7]
def aboutOver (below : List Frame) : State where
  vm := { classes := classes, interned := interned.toArray }
  heap := heap
  slotsUsed := slotsUsed
  threads := #[{ frames := .invoking theMethod args0 :: below }]
def below0 : List Frame := [.native { method := ⟨0, 0⟩, args := #[] }]
def about1 : State := aboutOver below0
def p0 : Program := .bare "" "" ""
def e0 : Env := launch0.env 0 0 0
theorem w_frames : about1.frames = Frame.invoking theMethod args0 :: below0 := rfl
set_option maxRecDepth 65536 in
theorem w_args : argsFit about1.vm theMethod args0 = true := by decide +kernel
set_option maxRecDepth 65536 in
theorem w_heap : heapFits about1 = true := by decide +kernel
set_option maxRecDepth 65536 in
theorem w_runnable : about1.curStatus? = some .runnable := by decide +kernel
set_option maxRecDepth 65536 in
theorem w_alone : about1.alone = true := by decide +kernel
set_option maxRecDepth 65536 in
theorem w_named : about1.methodNamed? x = some theMethod := by decide +kernel
set_option maxRecDepth 65536 in
theorem w_hears : about1.hears theMethod below0 = true := by decide +kernel
set_option maxRecDepth 65536 in
theorem w_ripe : about1.ripe theMethod args0 below0 = true := by decide +kernel
theorem w_running : about1.status = .running := rfl
set_option maxRecDepth 65536 in
theorem w_room : about1.hasRoom e0.platform room_1 = true :=
  launch0.hasRoom_least _ room_1 (by decide +kernel) (by decide +kernel) (by decide +kernel) (by decide +kernel) (by decide +kernel) (by decide +kernel)
theorem allAtoms_all (ts : List Jvm.Cond) (a : Array Jvm.Value) (st : Jvm.State) : (allAtoms ts).before a st = ts.all (fun c => c.before a st) := by
  induction ts with
  | nil => rfl
  | cons c t ih =>
    show (Jvm.Cond.and c (allAtoms t)).before a st = _
    rw [Jvm.Cond.before_and, ih, List.all_cons]
def words1 : List Jvm.Cond := Jvm.Cond.code x code maxLocals ret :: tables_1
/-- a 'code' word, met by the world's own term for the bytes: nothing is compared byte by byte -/
theorem code_word {y : MethodName} {bytes : ByteArray} {mx : Nat} {rt : Option FieldType} {a : Array Value} {s : State} {m : MethodId} {meth : Method} {c : Code} (h1 : s.methodNamed? y = some m) (h2 : s.vm.method? m = some meth) (h3 : meth.code = some c) (h4 : c.code = bytes)
    (h5 : (c.maxLocals == mx && c.exceptionTable.isEmpty && decide (c.maxStack ≤ mostOperands) && decide (meth.sig.returnType = rt) && !meth.locks && decide (parseMethodDescriptor y.desc = some meth.sig)) = true) : (Jvm.Cond.code y bytes mx rt).before a s = true := by
  simp only [Bool.and_eq_true, beq_iff_eq, Bool.not_eq_true', decide_eq_true_eq] at h5
  obtain ⟨⟨⟨⟨⟨g1, g2⟩, g3⟩, g4⟩, g5⟩, g6⟩ := h5
  simp [Cond.before, Cond.holds, Cond.value, h1, h2, h3, h4, g1, g2, g3, g4, g5, g6]
def isCode : Jvm.Cond → Bool
  | .code _ _ _ _ => true
  | _ => false
theorem all_split {L : List Jvm.Cond} {P : Jvm.Cond → Bool} (h1 : L.all (fun c => isCode c || P c) = true) (h2 : ∀ c ∈ L.filter isCode, P c = true) : L.all P = true := by
  refine List.all_eq_true.mpr fun c hc => ?_
  have h := List.all_eq_true.mp h1 c hc
  rcases Bool.eq_false_or_eq_true (isCode c) with hi | hi
  · exact h2 c (List.mem_filter.mpr ⟨hc, hi⟩)
  · simpa [hi] using h
set_option maxRecDepth 65536 in
theorem w_c0 : (Jvm.Cond.code x code maxLocals ret).before args0 about1 = true := code_word (m := ⟨1, 2⟩) (meth := k1m2) (c := k1c2) (by decide +kernel) rfl rfl rfl (by decide +kernel)
set_option maxRecDepth 65536 in
theorem w_c1 : (Jvm.Cond.code ({ cls := "com/example/far_queue/farqueue/ProcessStat", name := "<init>", desc := "(CJ)V" } : Jvm.MethodName) prog_6_method_1_code (4 : Nat) (Option.none : Option Jvm.ClassFile.FieldType)).before args0 about1 = true := code_word (m := ⟨3, 0⟩) (meth := k3m0) (c := k3c0) (by decide +kernel) rfl rfl rfl (by decide +kernel)
set_option maxRecDepth 65536 in
theorem w_c2 : (Jvm.Cond.code ({ cls := "java/lang/Record", name := "<init>", desc := "()V" } : Jvm.MethodName) jdk_30_method_1_code (1 : Nat) (Option.none : Option Jvm.ClassFile.FieldType)).before args0 about1 = true := code_word (m := ⟨2, 0⟩) (meth := k2m0) (c := k2c0) (by decide +kernel) rfl rfl rfl (by decide +kernel)
set_option maxRecDepth 65536 in
theorem w_c3 : (Jvm.Cond.code ({ cls := "java/lang/Object", name := "<init>", desc := "()V" } : Jvm.MethodName) object_method_1_code (1 : Nat) (Option.none : Option Jvm.ClassFile.FieldType)).before args0 about1 = true := code_word (m := ⟨0, 0⟩) (meth := k0m0) (c := k0c0) (by decide +kernel) rfl rfl rfl (by decide +kernel)
set_option maxRecDepth 65536 in
theorem w_c4 : (Jvm.Cond.code ({ cls := "com/example/far_queue/farqueue/ProcessStatEndedPinLaw", name := "isZombieOrDead", desc := "(C)Z" } : Jvm.MethodName) method_2_code (1 : Nat) (Option.some Jvm.ClassFile.FieldType.boolean)).before args0 about1 = true := code_word (m := ⟨1, 1⟩) (meth := k1m1) (c := k1c1) (by decide +kernel) rfl rfl rfl (by decide +kernel)
set_option maxRecDepth 65536 in
theorem w_c5 : (Jvm.Cond.code ({ cls := "com/example/far_queue/farqueue/ProcessStat", name := "ended", desc := "()Z" } : Jvm.MethodName) prog_6_method_3_code (1 : Nat) (Option.some Jvm.ClassFile.FieldType.boolean)).before args0 about1 = true := code_word (m := ⟨3, 1⟩) (meth := k3m1) (c := k3c1) (by decide +kernel) rfl rfl rfl (by decide +kernel)
def codes1 : List Jvm.Cond := [Jvm.Cond.code x code maxLocals ret, Jvm.Cond.code ({ cls := "com/example/far_queue/farqueue/ProcessStat", name := "<init>", desc := "(CJ)V" } : Jvm.MethodName) prog_6_method_1_code (4 : Nat) (Option.none : Option Jvm.ClassFile.FieldType), Jvm.Cond.code ({ cls := "java/lang/Record", name := "<init>", desc := "()V" } : Jvm.MethodName) jdk_30_method_1_code (1 : Nat) (Option.none : Option Jvm.ClassFile.FieldType), Jvm.Cond.code ({ cls := "java/lang/Object", name := "<init>", desc := "()V" } : Jvm.MethodName) object_method_1_code (1 : Nat) (Option.none : Option Jvm.ClassFile.FieldType), Jvm.Cond.code ({ cls := "com/example/far_queue/farqueue/ProcessStatEndedPinLaw", name := "isZombieOrDead", desc := "(C)Z" } : Jvm.MethodName) method_2_code (1 : Nat) (Option.some Jvm.ClassFile.FieldType.boolean), Jvm.Cond.code ({ cls := "com/example/far_queue/farqueue/ProcessStat", name := "ended", desc := "()Z" } : Jvm.MethodName) prog_6_method_3_code (1 : Nat) (Option.some Jvm.ClassFile.FieldType.boolean)]
set_option maxRecDepth 65536 in
theorem codes_eq : words1.filter isCode = codes1 := rfl
theorem w_codes : ∀ c ∈ words1.filter isCode, c.before args0 about1 = true := by
  rw [codes_eq]
  intro c hc
  simp only [codes1, List.mem_cons, List.not_mem_nil, or_false] at hc
  rcases hc with rfl | rfl | rfl | rfl | rfl | rfl
  · exact w_c0
  · exact w_c1
  · exact w_c2
  · exact w_c3
  · exact w_c4
  · exact w_c5
set_option maxRecDepth 65536 in
theorem w_t1 : (words1.take 24).all (fun c => isCode c || c.before args0 about1) = true := by decide +kernel
set_option maxRecDepth 65536 in
theorem w_t2 : (words1.drop 24).all (fun c => isCode c || c.before args0 about1) = true := by decide +kernel
theorem w_tables : (allAtoms (Jvm.Cond.code x code maxLocals ret :: tables_1)).before args0 about1 = true := by
  rw [allAtoms_all]
  show words1.all (fun c => c.before args0 about1) = true
  refine all_split ?_ w_codes
  rw [← List.take_append_drop 24 words1, List.all_append, w_t1, w_t2]
  rfl
set_option maxRecDepth 65536 in
theorem w_case : (Jvm.Cond.and given_1 narrow_1).before args0 about1 = true := by decide +kernel
theorem w_applies : (headSpec (Jvm.Cond.code x code maxLocals ret :: tables_1) room_1).applies x e0.platform about1 = true :=
  (Spec.applies_iff w_frames).mpr ⟨w_running, w_runnable, w_alone, w_named, w_hears, w_ripe, w_room, w_tables⟩
theorem atStart : AtStart classFile x code maxLocals ret World_1 tables_1 room_1 Calls_1 rest_1 Pre_1 launch0 p0 e0 about1 theMethod args0 below0 :=
  ⟨lists_1, trivial, launch0.admits_env _ _ _, launch0.least_env, fairChoices_fair.cas, fairChoices_fair.clock, w_frames, w_args, w_heap, w_applies, trivial, trivial, w_case⟩
end start1
theorem witness_1 : WitnessClaimed_1 := ⟨start1.p0, start1.e0, start1.about1, start1.theMethod, start1.args0, start1.below0, start1.atStart⟩
end Jvm.Pilot.@@N@@
