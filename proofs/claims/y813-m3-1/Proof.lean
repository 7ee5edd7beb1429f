import JvmDerived
import JvmDerived.Pilot.@@N@@Statement
import JvmDerived.Pilot.@@N@@Code
set_option linter.unusedVariables false
set_option linter.unusedSimpArgs false
namespace Jvm.RoadKit
open Sem ClassFile Op Lib Jvm.Stand Jvm.Free Jvm.LawKit
section New
variable {p : Program} {l : Launch} {e : Env} {R : Room} {s : State} {m : MethodId} {args : Array Value} {below : List Frame} {meth : Method} {c : Code} {T : State} {locs : List Loc} {cells slots : Nat}
theorem retI (X : Stand p l e R s m args below meth c T locs cells slots) (hx : p.tables.exec = Jvm.exec) {pc : Nat} {Ls : Array Slot} {z : Int32} {rest : List Value} (hret : meth.sig.returnType = some .int) (hd : decode c.code pc = .ok (.ireturn, 1)) {fs : List Frame}
    (hl : ∀ (f : JFrame) (acts : List Action), f.method = m → f.locked = none → f.entered = [] → (doReturn e (T.setTop f) acts (some (.int z))).1 = T.setFrames fs) : Steps p.tables e below (T.setTop (mkF m pc Ls (.int z :: rest))) (T.setFrames fs) :=
  retOut X hx (w := .int z) (t := .int) hret rfl (Or.inl ⟨rfl, Or.inl rfl, _, rfl⟩) hd hl
end New
end Jvm.RoadKit
namespace Jvm.Own
open Sem ClassFile Op Lib Jvm.Stand Jvm.Free Jvm.LawKit Jvm.RoadKit
/-- from A on the run comes to B -/
abbrev Go (tb : Tables) (e : Env) (below : List Frame) (A B : State) : Prop := ∀ t, Steps tb e below B t → Steps tb e below A t
theorem lremM {p : Program} {l : Launch} {e : Env} {R : Room} {s : State} {m : MethodId} {args : Array Value} {below : List Frame} {meth : Method} {c : Code} {T : State} {locs : List Loc} {cells slots : Nat} {g : JFrame} {target : State} (X : Stand p l e R s m args below meth c T locs cells slots) (hx : p.tables.exec = Jvm.exec) (hg : g.method = m) {x y : Int64} {rest : List Value} (hd : decode c.code g.pc = .ok (.lrem, 1)) (hs : g.stack = .long y :: .long x :: rest) (hy : y ≠ 0)
    (hr : Steps p.tables e below (T.setTop { g with pc := g.pc + 1, stack := .long (x % y) :: rest }) target) : Steps p.tables e below (T.setTop g) target :=
  XS.lrem X.here hx hg hd hs hy (by rw [lrem_mod]; exact hr)
theorem eqInt {s : State} {args : Array Value} {a : Term} {c : Int32} (h : (Cond.eq a (.int c)).value args s none s [] = some true) : a.eval args s none [] s = some (.int c) := by
  obtain ⟨x, y, hx, hy, k1, k2⟩ := cmp_v (Or.inl h)
  cases hy
  obtain ⟨z, rfl⟩ := k2
  simp [Cond.value, hx, Term.eval] at h
  subst h; exact hx
theorem neqInt {s : State} {args : Array Value} {a : Term} {c x : Int32} (hx : a.eval args s none [] s = some (.int x)) (h : (Cond.not (Cond.eq a (.int c))).value args s none s [] = some true) : ¬ x = c := by
  intro q
  have h2 := not_v h
  subst q
  simp [Cond.value, hx, Term.eval] at h2
theorem elAt {s : State} {args : Array Value} {t u : Term} {a w : Addr} {cl : Cell} {ty : FieldType} {i : Int32} (ht : t.eval args s none [] s = some (.ref a)) (A : Arr s s.heap a cl ty) (h : (Cond.eq (.elem t (.int i)) u).value args s none s [] = some true) (hu : u.eval args s none [] s = some (.ref w)) {j : Nat} (hj : i.toNatClampNeg = j) : cl.slots[j]? = some (.ref w) := by
  obtain ⟨x, y, hx, hy, k1, k2⟩ := cmp_v (Or.inl h)
  rw [hu] at hy; cases hy
  have hr : x.isRef = true := k2.2
  have e := gotT (eq_R hx hu hr rfl) h
  subst e
  have q := (elem_in hx ht (Term.int_eval i) A.1).2
  rw [hj] at q; exact q
theorem arvOf {s : State} {args : Array Value} {t : Term} {a : Addr} {cl : Cell} {ty : FieldType} {z : Int32} {vs : List Value} {dv : Value} (hf : Fit s) (ev : t.eval args s none [] s = some (.ref a)) (A : Arr s s.heap a cl ty) (hl : (Term.length t).eval args s none [] s = some (.int z)) (hz : ¬ z < 0) (hn : z.toNatClampNeg = vs.length) (H : HasL cl 0 vs) : Arv s s.heap a cl.cls ty z vs dv := by
  have ha : s.arrayAt? a = some cl := Arr.fin (Vm.Alike.refl _) A
  by_cases q : cl.slots.size < 2 ^ 31
  · rw [len_f ev ha q] at hl
    cases hl
    exact Arv.start hf A q rfl hz hn H
  · simp [Term.eval, ev, ha, q] at hl
theorem selPriv {s : State} {args : Array Value} {C : String} {z y : MethodName} (w : (Cond.selects C z z).before args s = true) (hc : z.cls = y.cls) (hp : s.PrivateAt y) (hi : (Cond.instanceMethod y).before args s = true) (hy : y.cls ≠ "java/lang/invoke/MethodHandle" ∧ y.cls ≠ "java/lang/invoke/VarHandle") : (Cond.selects y.cls y y).before args s = true := by
  obtain ⟨c2, r2, m2, -, -, q3, -, kP, hkP, hkPi⟩ := Cond.selects_spec w
  exact selects_self_of_private (hc ▸ findClass_of_methodNamed q3) hkP hkPi hp hi hy
end Jvm.Own
namespace Jvm.Pilot.@@N@@
open Jvm Jvm.ClassFile Sem Op Lib Jvm.Free Jvm.Stand Jvm.LawKit Jvm.RoadKit Jvm.Own Bundle Jvm.Pilot.@@N@@.Jvm.D
theorem own_w {Z : State} {a0 : Array Value} (hw : ∀ d ∈ tables_1, d.before a0 Z = true) (i : Nat) {d : Jvm.Cond} (h : tables_1[i]? = some d) : d.before a0 Z = true := hw _ (List.mem_of_getElem? h)
def own_En (Z : State) (nm : String) (a : Addr) (c : Int32) : Prop := Sta Z Z.heap "com/example/boot_sealer/bootsealer/rp2350/ItemType" nm "Lcom/example/boot_sealer/bootsealer/rp2350/ItemType;" (.ref a) ∧ Exa Z Z.heap a "com/example/boot_sealer/bootsealer/rp2350/ItemType" ∧ Fld Z Z.heap a "com/example/boot_sealer/bootsealer/rp2350/ItemType" "code" "I" (.int c)
def own_fc (p : Int32) (w0 w1 w2 w3 w4 w5 w6 w7 w8 w9 w10 w11 w12 w13 : Addr) : Addr := if (3 : Int32) = p then w0 else if (5 : Int32) = p then w1 else if (6 : Int32) = p then w2 else if (9 : Int32) = p then w3 else if (10 : Int32) = p then w4 else if (12 : Int32) = p then w5 else if (65 : Int32) = p then w6 else if (66 : Int32) = p then w7 else if (68 : Int32) = p then w8 else if (71 : Int32) = p then w9 else if (72 : Int32) = p then w10 else if (75 : Int32) = p then w11 else if (254 : Int32) = p then w12 else w13
theorem own_rem14 (x : Int32) : (x &&& 2147483647) % 14 = 0 ∨ (x &&& 2147483647) % 14 = 1 ∨ (x &&& 2147483647) % 14 = 2 ∨ (x &&& 2147483647) % 14 = 3 ∨ (x &&& 2147483647) % 14 = 4 ∨ (x &&& 2147483647) % 14 = 5 ∨ (x &&& 2147483647) % 14 = 6 ∨ (x &&& 2147483647) % 14 = 7 ∨ (x &&& 2147483647) % 14 = 8 ∨ (x &&& 2147483647) % 14 = 9 ∨ (x &&& 2147483647) % 14 = 10 ∨ (x &&& 2147483647) % 14 = 11 ∨ (x &&& 2147483647) % 14 = 12 ∨ (x &&& 2147483647) % 14 = 13 := by
  have h0 := c_mask x 2147483647 31 (by decide) (by decide)
  have h1 := (c_irem (x &&& 2147483647) 14 14 (by decide)).1 (by omega)
  have h2 : ((x &&& 2147483647) % 14).toInt = 0 ∨ ((x &&& 2147483647) % 14).toInt = 1 ∨ ((x &&& 2147483647) % 14).toInt = 2 ∨ ((x &&& 2147483647) % 14).toInt = 3 ∨ ((x &&& 2147483647) % 14).toInt = 4 ∨ ((x &&& 2147483647) % 14).toInt = 5 ∨ ((x &&& 2147483647) % 14).toInt = 6 ∨ ((x &&& 2147483647) % 14).toInt = 7 ∨ ((x &&& 2147483647) % 14).toInt = 8 ∨ ((x &&& 2147483647) % 14).toInt = 9 ∨ ((x &&& 2147483647) % 14).toInt = 10 ∨ ((x &&& 2147483647) % 14).toInt = 11 ∨ ((x &&& 2147483647) % 14).toInt = 12 ∨ ((x &&& 2147483647) % 14).toInt = 13 := by omega
  rcases h2 with h | h | h | h | h | h | h | h | h | h | h | h | h | h
  · exact (Or.inl (Int32.toInt_inj.mp h))
  · exact Or.inr ((Or.inl (Int32.toInt_inj.mp h)))
  · exact Or.inr (Or.inr ((Or.inl (Int32.toInt_inj.mp h))))
  · exact Or.inr (Or.inr (Or.inr ((Or.inl (Int32.toInt_inj.mp h)))))
  · exact Or.inr (Or.inr (Or.inr (Or.inr ((Or.inl (Int32.toInt_inj.mp h))))))
  · exact Or.inr (Or.inr (Or.inr (Or.inr (Or.inr ((Or.inl (Int32.toInt_inj.mp h)))))))
  · exact Or.inr (Or.inr (Or.inr (Or.inr (Or.inr (Or.inr ((Or.inl (Int32.toInt_inj.mp h))))))))
  · exact Or.inr (Or.inr (Or.inr (Or.inr (Or.inr (Or.inr (Or.inr ((Or.inl (Int32.toInt_inj.mp h)))))))))
  · exact Or.inr (Or.inr (Or.inr (Or.inr (Or.inr (Or.inr (Or.inr (Or.inr ((Or.inl (Int32.toInt_inj.mp h))))))))))
  · exact Or.inr (Or.inr (Or.inr (Or.inr (Or.inr (Or.inr (Or.inr (Or.inr (Or.inr ((Or.inl (Int32.toInt_inj.mp h)))))))))))
  · exact Or.inr (Or.inr (Or.inr (Or.inr (Or.inr (Or.inr (Or.inr (Or.inr (Or.inr (Or.inr ((Or.inl (Int32.toInt_inj.mp h))))))))))))
  · exact Or.inr (Or.inr (Or.inr (Or.inr (Or.inr (Or.inr (Or.inr (Or.inr (Or.inr (Or.inr (Or.inr ((Or.inl (Int32.toInt_inj.mp h)))))))))))))
  · exact Or.inr (Or.inr (Or.inr (Or.inr (Or.inr (Or.inr (Or.inr (Or.inr (Or.inr (Or.inr (Or.inr (Or.inr ((Or.inl (Int32.toInt_inj.mp h))))))))))))))
  · exact Or.inr (Or.inr (Or.inr (Or.inr (Or.inr (Or.inr (Or.inr (Or.inr (Or.inr (Or.inr (Or.inr (Or.inr (Or.inr (((Int32.toInt_inj.mp h)))))))))))))))

theorem d2_0 : decode prog_37_method_1_code 0 = .ok (.getstatic 46, 3) := by decide +kernel
theorem d2_3 : decode prog_37_method_1_code 3 = .ok (.invokevirtual 50, 3) := by decide +kernel
theorem d2_6 : decode prog_37_method_1_code 6 = .ok (.checkcast 51, 3) := by decide +kernel
theorem d2_9 : decode prog_37_method_1_code 9 = .ok (.areturn, 1) := by decide +kernel
theorem pn2 : plainFor (⟨"com/example/boot_sealer/bootsealer/rp2350/ItemType", "values", "()[Lcom/example/boot_sealer/bootsealer/rp2350/ItemType;"⟩ : MethodName) = true := plainFor_of_name (by first | (simp [plainName, overriddenIn]; done) | decide +kernel)
theorem ef_rm2 (m : MethodId) (w0 : Addr) (w1 : Addr) (w2 : Addr) (w3 : Addr) (w4 : Addr) (w5 : Addr) (w6 : Addr) (w7 : Addr) (w8 : Addr) (w9 : Addr) (w10 : Addr) (w11 : Addr) (w12 : Addr) (w13 : Addr) (wv : Addr) (kv : ClassId) : entryFrame m #[] 0 = mkF m 0 #[] [] := by first | (simp [entryFrame, mkF, argsToLocals, Value.category]; done) | rfl
def Q2 (Z : State) (w0 : Addr) (w1 : Addr) (w2 : Addr) (w3 : Addr) (w4 : Addr) (w5 : Addr) (w6 : Addr) (w7 : Addr) (w8 : Addr) (w9 : Addr) (w10 : Addr) (w11 : Addr) (w12 : Addr) (w13 : Addr) (wv : Addr) (kv : ClassId) (h0 : Heap) (n0 : Nat) (v : Option Value) (h : Heap) (L : List Loc) : Prop := ∃ (b : Addr), v = some (.ref b) ∧ Fr n0 L ∧ (Keep h0 h []) ∧ (n0 ≤ b) ∧ (Arv Z h b kv (.object "com/example/boot_sealer/bootsealer/rp2350/ItemType") (14 : Int32) [(.ref w0), (.ref w1), (.ref w2), (.ref w3), (.ref w4), (.ref w5), (.ref w6), (.ref w7), (.ref w8), (.ref w9), (.ref w10), (.ref w11), (.ref w12), (.ref w13)] .null)
set_option maxRecDepth 65536 in
set_option maxHeartbeats 40000000 in
theorem rm2 (l : Launch) (Z : State) (a0 : Array Value) (hw : ∀ d ∈ tables_1, d.before a0 Z = true) (ws : List Jvm.Cond) (w0 : Addr) (w1 : Addr) (w2 : Addr) (w3 : Addr) (w4 : Addr) (w5 : Addr) (w6 : Addr) (w7 : Addr) (w8 : Addr) (w9 : Addr) (w10 : Addr) (w11 : Addr) (w12 : Addr) (w13 : Addr) (wv : Addr) (kv : ClassId) (h0 : Heap) (n0 : Nat) (Z0 : n0 ≤ h0.size) (O1 : Old Z n0 h0) (SV : Sta Z Z.heap "com/example/boot_sealer/bootsealer/rp2350/ItemType" "$VALUES" "[Lcom/example/boot_sealer/bootsealer/rp2350/ItemType;" (.ref wv)) (EV : Exa Z Z.heap wv "[Lcom/example/boot_sealer/bootsealer/rp2350/ItemType;") (VV : Arv Z Z.heap wv kv (.object "com/example/boot_sealer/bootsealer/rp2350/ItemType") (14 : Int32) [(.ref w0), (.ref w1), (.ref w2), (.ref w3), (.ref w4), (.ref w5), (.ref w6), (.ref w7), (.ref w8), (.ref w9), (.ref w10), (.ref w11), (.ref w12), (.ref w13)] .null) :
    MetFree l (⟨"com/example/boot_sealer/bootsealer/rp2350/ItemType", "values", "()[Lcom/example/boot_sealer/bootsealer/rp2350/ItemType;"⟩ : MethodName) (head1 (Jvm.Cond.code (⟨"com/example/boot_sealer/bootsealer/rp2350/ItemType", "values", "()[Lcom/example/boot_sealer/bootsealer/rp2350/ItemType;"⟩ : MethodName) prog_37_method_1_code 0 (some (.array (.object "com/example/boot_sealer/bootsealer/rp2350/ItemType"))) :: ws) ({ frames := 1, cells := 1, slots := 14, locals := 14 } : Room)) (fun a U => a = #[] ∧ Z.Warmed39 U.vm ∧ U.heap = h0) (fun _ _ _ _ _ => True) (fun _ U o U' => ∃ v L, o = .returned v ∧ Q2 Z w0 w1 w2 w3 w4 w5 w6 w7 w8 w9 w10 w11 w12 w13 wv kv h0 n0 v U'.heap L ∧ FrameEnd U o U' L ({ frames := 1, cells := 1, slots := 14, locals := 14 } : Room).cells ({ frames := 1, cells := 1, slots := 14, locals := 14 } : Room).slots) := by
  refine MetFree.of_bodySF pn2 hisR ?_
  intro p e s m args below meth c s₁ Bd hml0 hP hK
  obtain ⟨rfl, hZ, hh⟩ := hP
  have hx := Bd.exec
  have hby := Bd.bytes
  have hml : c.maxLocals = 0 := hml0
  have hown : s.vm.findClass "com/example/boot_sealer/bootsealer/rp2350/ItemType" = some m.cls := findClass_of_methodNamed Bd.named
  have hnm := (name_of_methodNamed Bd.named Bd.method).1
  have X0 : Stand p l e ({ frames := 1, cells := 1, slots := 14, locals := 14 } : Room) s m #[] below meth c s₁ [] 0 0 := Stand.of_body Bd
  have e0 : s₁.heap = h0 := by rw [← hh, Bd.state]; rfl
  have N0 := Fr.nil n0
  have p0 : Go p.tables e below (s₁.setTop (entryFrame m #[] 0)) (s₁.setTop (mkF m 0 #[] [])) := fun t k => castTop (ef_rm2 m w0 w1 w2 w3 w4 w5 w6 w7 w8 w9 w10 w11 w12 w13 wv kv) k
  obtain ⟨T101, X101, e101, st101⟩ := getS2 X0 hx hZ hown (host := "") (Or.inl (own_w hw 39 rfl)) Via.refl e0 (SV.ext O1.2) (g := (mkF m 0 #[] [])) rfl (hb hby d2_0)
  have p102 : Go p.tables e below _ (T101.setTop (mkF m 3 #[] [(.ref wv)])) := fun t k => p0 t (st101 t k)
  obtain ⟨T103, h103, X103, e103, E103, V103, A103, st103⟩ := cloneH X101 hx hZ hown (own_w hw 41 rfl) (own_w hw 42 rfl) (own_w hw 46 rfl) (own_w hw 44 rfl) (own_w hw 45 rfl) (own_w hw 47 rfl) e101 (Arv.arh (VV.ext O1.2)) (EV.ext O1.2) (g := (mkF m 3 #[] [(.ref wv)])) rfl (by rw [hml]; rfl) rfl (hb hby d2_3) (by decide) (W := 0) (cap := 14) (by show 2 * 0 + _ ≤ _; exact Nat.le_of_eq rfl) (by decide) (by decide) (by decide) (by decide)
  obtain ⟨b103, g103⟩ : ∃ z, z = h0.size := ⟨_, rfl⟩
  rw [← g103] at A103 V103 st103
  have ge_b103 : n0 ≤ b103 := Nat.le_trans (Nat.le_trans Z0 (Keep.refl h0 []).1) (Nat.le_of_eq g103.symm)
  have sz_b103 : h0.size ≤ b103 := Nat.le_trans (Keep.refl h0 []).1 (Nat.le_of_eq g103.symm)
  have K104 : Keep h0 h103 [] := (Keep.refl h0 []).ext E103
  have p105 : Go p.tables e below _ (T103.setTop (mkF m 6 #[] [(.ref b103)])) := fun t k => p102 t (st103 t k)
  have VV103 : Arv Z h103 b103 kv (.object "com/example/boot_sealer/bootsealer/rp2350/ItemType") (14 : Int32) [(.ref w0), (.ref w1), (.ref w2), (.ref w3), (.ref w4), (.ref w5), (.ref w6), (.ref w7), (.ref w8), (.ref w9), (.ref w10), (.ref w11), (.ref w12), (.ref w13)] .null := V103
  obtain ⟨T106, X106, e106, st106⟩ := castY X103 hx hZ hown (own_w hw 49 rfl) e103 (Ins.self A103) (g := (mkF m 6 #[] [(.ref b103)])) rfl rfl (hb hby d2_6)
  have p107 : Go p.tables e below _ (T106.setTop (mkF m 9 #[] [(.ref b103)])) := fun t k => p105 t (st106 t k)
  obtain ⟨fs, hr, hrun, hended, hW, hsame⟩ := X106.leave (v := some (.ref b103)) (fun h => by rw [Bd.returns] at h; cases h)
  refine ⟨_, _, p107 _ (retOut X106 hx (w := (.ref b103)) (i := .areturn) Bd.returns rfl (Or.inr (Or.inr (Or.inr (Or.inr ⟨rfl, rfl, rfl⟩)))) (hb hby d2_9) hr), hrun, hended, _, _, rfl, ?_, ⟨_, rfl⟩, hW, hsame.mono (by decide) (by decide)⟩
  show Q2 Z w0 w1 w2 w3 w4 w5 w6 w7 w8 w9 w10 w11 w12 w13 wv kv h0 n0 _ T106.heap _
  rw [e106]
  exact ⟨b103, rfl, N0, K104, ge_b103, VV103⟩
theorem d1_0 : decode prog_37_method_6_code 0 = .ok (.invokestatic 69, 3) := by decide +kernel
theorem d1_3 : decode prog_37_method_6_code 3 = .ok (.astore_n 1, 1) := by decide +kernel
theorem d1_4 : decode prog_37_method_6_code 4 = .ok (.aload_n 1, 1) := by decide +kernel
theorem d1_5 : decode prog_37_method_6_code 5 = .ok (.arraylength, 1) := by decide +kernel
theorem d1_6 : decode prog_37_method_6_code 6 = .ok (.istore_n 2, 1) := by decide +kernel
theorem d1_7 : decode prog_37_method_6_code 7 = .ok (.iconst 0, 1) := by decide +kernel
theorem d1_8 : decode prog_37_method_6_code 8 = .ok (.istore_n 3, 1) := by decide +kernel
theorem d1_9 : decode prog_37_method_6_code 9 = .ok (.iload_n 3, 1) := by decide +kernel
theorem d1_10 : decode prog_37_method_6_code 10 = .ok (.iload_n 2, 1) := by decide +kernel
theorem d1_11 : decode prog_37_method_6_code 11 = .ok (.if_icmp .ge 26, 3) := by decide +kernel
theorem d1_14 : decode prog_37_method_6_code 14 = .ok (.aload_n 1, 1) := by decide +kernel
theorem d1_15 : decode prog_37_method_6_code 15 = .ok (.iload_n 3, 1) := by decide +kernel
theorem d1_16 : decode prog_37_method_6_code 16 = .ok (.aaload, 1) := by decide +kernel
theorem d1_17 : decode prog_37_method_6_code 17 = .ok (.astore 4, 2) := by decide +kernel
theorem d1_19 : decode prog_37_method_6_code 19 = .ok (.aload 4, 2) := by decide +kernel
theorem d1_21 : decode prog_37_method_6_code 21 = .ok (.getfield 65, 3) := by decide +kernel
theorem d1_24 : decode prog_37_method_6_code 24 = .ok (.iload_n 0, 1) := by decide +kernel
theorem d1_25 : decode prog_37_method_6_code 25 = .ok (.if_icmp .ne 6, 3) := by decide +kernel
theorem d1_28 : decode prog_37_method_6_code 28 = .ok (.aload 4, 2) := by decide +kernel
theorem d1_30 : decode prog_37_method_6_code 30 = .ok (.areturn, 1) := by decide +kernel
theorem d1_31 : decode prog_37_method_6_code 31 = .ok (.iinc 3 1, 3) := by decide +kernel
theorem d1_34 : decode prog_37_method_6_code 34 = .ok (.goto (-25), 3) := by decide +kernel
theorem d1_37 : decode prog_37_method_6_code 37 = .ok (.getstatic 43, 3) := by decide +kernel
theorem d1_40 : decode prog_37_method_6_code 40 = .ok (.areturn, 1) := by decide +kernel
theorem pd0 : parseMethodDescriptor "()[Lcom/example/boot_sealer/bootsealer/rp2350/ItemType;" = some ⟨[], some (.array (.object "com/example/boot_sealer/bootsealer/rp2350/ItemType"))⟩ := by decide +kernel
theorem pn1 : plainFor (⟨"com/example/boot_sealer/bootsealer/rp2350/ItemType", "forCode", "(I)Lcom/example/boot_sealer/bootsealer/rp2350/ItemType;"⟩ : MethodName) = true := plainFor_of_name (by first | (simp [plainName, overriddenIn]; done) | decide +kernel)
theorem ef_rm1 (m : MethodId) (p1 : Int32) (w0 : Addr) (w1 : Addr) (w2 : Addr) (w3 : Addr) (w4 : Addr) (w5 : Addr) (w6 : Addr) (w7 : Addr) (w8 : Addr) (w9 : Addr) (w10 : Addr) (w11 : Addr) (w12 : Addr) (w13 : Addr) (wv : Addr) (kv : ClassId) : entryFrame m #[(.int p1)] 5 = mkF m 0 #[.val (.int p1), .unset, .unset, .unset, .unset] [] := by first | (simp [entryFrame, mkF, argsToLocals, Value.category]; done) | rfl
def Q1 (Z : State) (p1 : Int32) (w0 : Addr) (w1 : Addr) (w2 : Addr) (w3 : Addr) (w4 : Addr) (w5 : Addr) (w6 : Addr) (w7 : Addr) (w8 : Addr) (w9 : Addr) (w10 : Addr) (w11 : Addr) (w12 : Addr) (w13 : Addr) (wv : Addr) (kv : ClassId) (h0 : Heap) (n0 : Nat) (v : Option Value) (h : Heap) (L : List Loc) : Prop := v = some (.ref (own_fc p1 w0 w1 w2 w3 w4 w5 w6 w7 w8 w9 w10 w11 w12 w13)) ∧ Fr n0 L ∧ (Keep h0 h [])
set_option maxRecDepth 65536 in
set_option maxHeartbeats 40000000 in
theorem rm1 (l : Launch) (Z : State) (a0 : Array Value) (hw : ∀ d ∈ tables_1, d.before a0 Z = true) (ws : List Jvm.Cond) (p1 : Int32) (w0 : Addr) (w1 : Addr) (w2 : Addr) (w3 : Addr) (w4 : Addr) (w5 : Addr) (w6 : Addr) (w7 : Addr) (w8 : Addr) (w9 : Addr) (w10 : Addr) (w11 : Addr) (w12 : Addr) (w13 : Addr) (wv : Addr) (kv : ClassId) (h0 : Heap) (n0 : Nat) (Z0 : n0 ≤ h0.size) (O1 : Old Z n0 h0) (En0 : own_En Z "VECTOR_TABLE" w0 3) (En1 : own_En Z "ROLLING_WINDOW_DELTA" w1 5) (En2 : own_En Z "LOAD_MAP" w2 6) (En3 : own_En Z "SIGNATURE" w3 9) (En4 : own_En Z "PARTITION_TABLE" w4 10) (En5 : own_En Z "SALT" w5 12) (En6 : own_En Z "NEXT_BLOCK_OFFSET" w6 65) (En7 : own_En Z "IMAGE_TYPE" w7 66) (En8 : own_En Z "ENTRY_POINT" w8 68) (En9 : own_En Z "HASH_DEF" w9 71) (En10 : own_En Z "VERSION" w10 72) (En11 : own_En Z "HASH_VALUE" w11 75) (En12 : own_En Z "IGNORED" w12 254) (En13 : own_En Z "UNKNOWN" w13 (-1)) (SV : Sta Z Z.heap "com/example/boot_sealer/bootsealer/rp2350/ItemType" "$VALUES" "[Lcom/example/boot_sealer/bootsealer/rp2350/ItemType;" (.ref wv)) (EV : Exa Z Z.heap wv "[Lcom/example/boot_sealer/bootsealer/rp2350/ItemType;") (VV : Arv Z Z.heap wv kv (.object "com/example/boot_sealer/bootsealer/rp2350/ItemType") (14 : Int32) [(.ref w0), (.ref w1), (.ref w2), (.ref w3), (.ref w4), (.ref w5), (.ref w6), (.ref w7), (.ref w8), (.ref w9), (.ref w10), (.ref w11), (.ref w12), (.ref w13)] .null) :
    MetFree l (⟨"com/example/boot_sealer/bootsealer/rp2350/ItemType", "forCode", "(I)Lcom/example/boot_sealer/bootsealer/rp2350/ItemType;"⟩ : MethodName) (head1 (Jvm.Cond.code (⟨"com/example/boot_sealer/bootsealer/rp2350/ItemType", "forCode", "(I)Lcom/example/boot_sealer/bootsealer/rp2350/ItemType;"⟩ : MethodName) prog_37_method_6_code 5 (some (.object "com/example/boot_sealer/bootsealer/rp2350/ItemType")) :: ws) ({ frames := 2, cells := 1, slots := 14, locals := 25 } : Room)) (fun a U => a = #[(.int p1)] ∧ Z.Warmed39 U.vm ∧ U.heap = h0) (fun _ _ _ _ _ => True) (fun _ U o U' => ∃ v L, o = .returned v ∧ Q1 Z p1 w0 w1 w2 w3 w4 w5 w6 w7 w8 w9 w10 w11 w12 w13 wv kv h0 n0 v U'.heap L ∧ FrameEnd U o U' L ({ frames := 2, cells := 1, slots := 14, locals := 25 } : Room).cells ({ frames := 2, cells := 1, slots := 14, locals := 25 } : Room).slots) := by
  refine MetFree.of_bodySF pn1 hisR ?_
  intro p e s m args below meth c s₁ Bd hml0 hP hK
  obtain ⟨rfl, hZ, hh⟩ := hP
  have hx := Bd.exec
  have hby := Bd.bytes
  have hml : c.maxLocals = 5 := hml0
  have hown : s.vm.findClass "com/example/boot_sealer/bootsealer/rp2350/ItemType" = some m.cls := findClass_of_methodNamed Bd.named
  have hnm := (name_of_methodNamed Bd.named Bd.method).1
  have X0 : Stand p l e ({ frames := 2, cells := 1, slots := 14, locals := 25 } : Room) s m #[(.int p1)] below meth c s₁ [] 0 0 := Stand.of_body Bd
  have e0 : s₁.heap = h0 := by rw [← hh, Bd.state]; rfl
  have N0 := Fr.nil n0
  have p0 : Go p.tables e below (s₁.setTop (entryFrame m #[(.int p1)] 5)) (s₁.setTop (mkF m 0 #[.val (.int p1), .unset, .unset, .unset, .unset] [])) := fun t k => castTop (ef_rm1 m p1 w0 w1 w2 w3 w4 w5 w6 w7 w8 w9 w10 w11 w12 w13 wv kv) k
  obtain ⟨_, _, ⟨T101, L101, k101, n101⟩, -, X101, ⟨Lc101, hQ101, l101, y101, z101⟩, st101⟩ := Jvm.LawKit.callS X0 hx (y := (⟨"com/example/boot_sealer/bootsealer/rp2350/ItemType", "values", "()[Lcom/example/boot_sealer/bootsealer/rp2350/ItemType;"⟩ : MethodName)) hown (mvT hZ (own_w hw 36 rfl)) (mvT hZ (own_w hw 37 rfl)) (mvT hZ (own_w hw 3 rfl)) (mvT hZ (own_w hw 38 rfl)) (by decide) (backOf (W := 0) (rm2 l Z a0 hw [] w0 w1 w2 w3 w4 w5 w6 w7 w8 w9 w10 w11 w12 w13 wv kv h0 n0 (Nat.le_trans Z0 (Keep.refl h0 []).1) O1 SV EV VV) hZ (own_w hw 38 rfl) (own_w hw 3 rfl) (by decide) (by decide)) (g := (mkF m 0 #[.val (.int p1), .unset, .unset, .unset, .unset] [])) rfl (by rw [hml]; rfl) (argsL := []) (rest := []) (lenOf pd0 rfl) rfl (by show 2 * 0 + _ ≤ _; exact Nat.le_of_eq rfl) (hb hby d1_0) (fun _ _ => ⟨rfl, e0, (by decide : 0 + 1 ≤ _), (by decide : 0 + 14 ≤ _)⟩)
  dsimp only [Pt.U, Pt.locs, Pt.cells, Pt.slots] at X101 l101 y101 z101 st101 hQ101
  subst l101 y101 z101
  obtain ⟨x102, rfl, N101q, q101_K, q101_g, q101_V⟩ := hQ101
  have N101 := Fr.app N0 N101q
  have K103 : Keep h0 T101.heap [] := (Keep.refl h0 []).trans q101_K all0
  have p104 : Go p.tables e below _ (T101.setTop (mkF m 3 #[.val (.int p1), .unset, .unset, .unset, .unset] [(.ref x102)])) := fun t k => p0 t (st101 _ k)
  have p105 : Go p.tables e below _ (T101.setTop (mkF m 5 #[.val (.int p1), .val (.ref x102), .unset, .unset, .unset] [(.ref x102)])) := fun t k => p104 t (by
    show Steps p.tables e below (T101.setTop (mkF m 3 #[.val (.int p1), .unset, .unset, .unset, .unset] [(.ref x102)])) _
    refine XS.astoreN X101.here hx rfl (hb hby d1_3) rfl rfl (l' := #[.val (.int p1), .val (.ref x102), .unset, .unset, .unset]) rfl ?_
    show Steps p.tables e below (T101.setTop (mkF m 4 #[.val (.int p1), .val (.ref x102), .unset, .unset, .unset] [])) _
    refine XS.aloadN X101.here hx rfl (hb hby d1_4) rfl rfl ?_
    show Steps p.tables e below (T101.setTop (mkF m 5 #[.val (.int p1), .val (.ref x102), .unset, .unset, .unset] [(.ref x102)])) _
    exact k)
  obtain ⟨cl106, Ar106, -, S106, Ng106, -, -⟩ := id q101_V
  have p107 : Go p.tables e below _ (T101.setTop (mkF m 16 #[.val (.int p1), .val (.ref x102), .val (.int (14 : Int32)), .val (.int (0 : Int32)), .unset] [(.int (0 : Int32)), (.ref x102)])) := fun t k => p105 t (by
    show Steps p.tables e below (T101.setTop (mkF m 5 #[.val (.int p1), .val (.ref x102), .unset, .unset, .unset] [(.ref x102)])) _
    refine X101.arraylength hx Ar106.1 (State.isArrayOf_alike hZ.alike Ar106.2.1) (g := (mkF m 5 #[.val (.int p1), .val (.ref x102), .unset, .unset, .unset] [(.ref x102)])) rfl rfl (hb hby d1_5) _ ?_
    rw [len_of S106 Ng106]
    show Steps p.tables e below (T101.setTop (mkF m 6 #[.val (.int p1), .val (.ref x102), .unset, .unset, .unset] [(.int (14 : Int32))])) _
    refine XS.istoreN X101.here hx rfl (hb hby d1_6) rfl (l' := #[.val (.int p1), .val (.ref x102), .val (.int (14 : Int32)), .unset, .unset]) rfl ?_
    show Steps p.tables e below (T101.setTop (mkF m 7 #[.val (.int p1), .val (.ref x102), .val (.int (14 : Int32)), .unset, .unset] [])) _
    refine XS.iconst X101.here hx rfl (hb hby d1_7) ?_
    show Steps p.tables e below (T101.setTop (mkF m 8 #[.val (.int p1), .val (.ref x102), .val (.int (14 : Int32)), .unset, .unset] [(.int (0 : Int32))])) _
    refine XS.istoreN X101.here hx rfl (hb hby d1_8) rfl (l' := #[.val (.int p1), .val (.ref x102), .val (.int (14 : Int32)), .val (.int (0 : Int32)), .unset]) rfl ?_
    show Steps p.tables e below (T101.setTop (mkF m 9 #[.val (.int p1), .val (.ref x102), .val (.int (14 : Int32)), .val (.int (0 : Int32)), .unset] [])) _
    refine XS.iloadN X101.here hx rfl (hb hby d1_9) rfl ?_
    show Steps p.tables e below (T101.setTop (mkF m 10 #[.val (.int p1), .val (.ref x102), .val (.int (14 : Int32)), .val (.int (0 : Int32)), .unset] [(.int (0 : Int32))])) _
    refine XS.iloadN X101.here hx rfl (hb hby d1_10) rfl ?_
    show Steps p.tables e below (T101.setTop (mkF m 11 #[.val (.int p1), .val (.ref x102), .val (.int (14 : Int32)), .val (.int (0 : Int32)), .unset] [(.int (14 : Int32)), (.int (0 : Int32))])) _
    refine XS.icmpNo X101.here hx rfl (hb hby d1_11) rfl (tlt (by decide : ((0 : Int32) < (14 : Int32)))).2.1 ?_
    show Steps p.tables e below (T101.setTop (mkF m 14 #[.val (.int p1), .val (.ref x102), .val (.int (14 : Int32)), .val (.int (0 : Int32)), .unset] [])) _
    refine XS.aloadN X101.here hx rfl (hb hby d1_14) rfl rfl ?_
    show Steps p.tables e below (T101.setTop (mkF m 15 #[.val (.int p1), .val (.ref x102), .val (.int (14 : Int32)), .val (.int (0 : Int32)), .unset] [(.ref x102)])) _
    refine XS.iloadN X101.here hx rfl (hb hby d1_15) rfl ?_
    show Steps p.tables e below (T101.setTop (mkF m 16 #[.val (.int p1), .val (.ref x102), .val (.int (14 : Int32)), .val (.int (0 : Int32)), .unset] [(.int (0 : Int32)), (.ref x102)])) _
    exact k)
  obtain ⟨cl108, Ar108, q108, S108, Ng108, H108, G108⟩ := id q101_V
  have hin108 := inb_of S108 (j := (0 : Int32)) ⟨by decide, by decide⟩
  have hat108 := H108.at (v := (.ref w0)) hin108 rfl
  have p109 : Go p.tables e below _ (T101.setTop (mkF m 21 #[.val (.int p1), .val (.ref x102), .val (.int (14 : Int32)), .val (.int (0 : Int32)), .val (.ref w0)] [(.ref w0)])) := fun t k => p107 t (by
    show Steps p.tables e below (T101.setTop (mkF m 16 #[.val (.int p1), .val (.ref x102), .val (.int (14 : Int32)), .val (.int (0 : Int32)), .unset] [(.int (0 : Int32)), (.ref x102)])) _
    refine X101.aaload hx (j := (0 : Int32)) (v := (.ref w0)) Ar108.1 (State.isArrayOf_alike hZ.alike Ar108.2.1) rfl Ar108.2.2 hin108 hat108 (g := (mkF m 16 #[.val (.int p1), .val (.ref x102), .val (.int (14 : Int32)), .val (.int (0 : Int32)), .unset] [(.int (0 : Int32)), (.ref x102)])) rfl rfl (hb hby d1_16) _ ?_
    show Steps p.tables e below (T101.setTop (mkF m 17 #[.val (.int p1), .val (.ref x102), .val (.int (14 : Int32)), .val (.int (0 : Int32)), .unset] [(.ref w0)])) _
    refine XS.astore X101.here hx rfl (hb hby d1_17) rfl rfl (l' := #[.val (.int p1), .val (.ref x102), .val (.int (14 : Int32)), .val (.int (0 : Int32)), .val (.ref w0)]) rfl ?_
    show Steps p.tables e below (T101.setTop (mkF m 19 #[.val (.int p1), .val (.ref x102), .val (.int (14 : Int32)), .val (.int (0 : Int32)), .val (.ref w0)] [])) _
    refine XS.aload X101.here hx rfl (hb hby d1_19) rfl rfl ?_
    show Steps p.tables e below (T101.setTop (mkF m 21 #[.val (.int p1), .val (.ref x102), .val (.int (14 : Int32)), .val (.int (0 : Int32)), .val (.ref w0)] [(.ref w0)])) _
    exact k)
  have f110 := (O1.keep q101_K all0)
  obtain ⟨T111, X111, e111, st111⟩ := getF X101 hx hZ hown (host := "") (Or.inl (own_w hw 51 rfl)) Via.refl rfl (En0.2.2.ext f110.2) (g := (mkF m 21 #[.val (.int p1), .val (.ref x102), .val (.int (14 : Int32)), .val (.int (0 : Int32)), .val (.ref w0)] [(.ref w0)])) rfl rfl (hb hby d1_21)
  have p112 : Go p.tables e below _ (T111.setTop (mkF m 24 #[.val (.int p1), .val (.ref x102), .val (.int (14 : Int32)), .val (.int (0 : Int32)), .val (.ref w0)] [(.int (3 : Int32))])) := fun t k => p109 t (st111 t k)
  have p113 : Go p.tables e below _ (T111.setTop (mkF m 25 #[.val (.int p1), .val (.ref x102), .val (.int (14 : Int32)), .val (.int (0 : Int32)), .val (.ref w0)] [(.int p1), (.int (3 : Int32))])) := fun t k => p112 t (by
    show Steps p.tables e below (T111.setTop (mkF m 24 #[.val (.int p1), .val (.ref x102), .val (.int (14 : Int32)), .val (.int (0 : Int32)), .val (.ref w0)] [(.int (3 : Int32))])) _
    refine XS.iloadN X111.here hx rfl (hb hby d1_24) rfl ?_
    show Steps p.tables e below (T111.setTop (mkF m 25 #[.val (.int p1), .val (.ref x102), .val (.int (14 : Int32)), .val (.int (0 : Int32)), .val (.ref w0)] [(.int p1), (.int (3 : Int32))])) _
    exact k)
  by_cases c114 : (3 : Int32) = p1
  · have p115 : Go p.tables e below _ (T111.setTop (mkF m 28 #[.val (.int p1), .val (.ref x102), .val (.int (14 : Int32)), .val (.int (0 : Int32)), .val (.ref w0)] [])) := fun t k => p113 t (by
      show Steps p.tables e below (T111.setTop (mkF m 25 #[.val (.int p1), .val (.ref x102), .val (.int (14 : Int32)), .val (.int (0 : Int32)), .val (.ref w0)] [(.int p1), (.int (3 : Int32))])) _
      refine XS.icmpNo X111.here hx rfl (hb hby d1_25) rfl (teq c114).2 ?_
      show Steps p.tables e below (T111.setTop (mkF m 28 #[.val (.int p1), .val (.ref x102), .val (.int (14 : Int32)), .val (.int (0 : Int32)), .val (.ref w0)] [])) _
      exact k)
    have p116 : Go p.tables e below _ (T111.setTop (mkF m 30 #[.val (.int p1), .val (.ref x102), .val (.int (14 : Int32)), .val (.int (0 : Int32)), .val (.ref w0)] [(.ref w0)])) := fun t k => p115 t (by
      show Steps p.tables e below (T111.setTop (mkF m 28 #[.val (.int p1), .val (.ref x102), .val (.int (14 : Int32)), .val (.int (0 : Int32)), .val (.ref w0)] [])) _
      refine XS.aload X111.here hx rfl (hb hby d1_28) rfl rfl ?_
      show Steps p.tables e below (T111.setTop (mkF m 30 #[.val (.int p1), .val (.ref x102), .val (.int (14 : Int32)), .val (.int (0 : Int32)), .val (.ref w0)] [(.ref w0)])) _
      exact k)
    obtain ⟨fs, hr, hrun, hended, hW, hsame⟩ := X111.leave (v := some (.ref w0)) (fun h => by rw [Bd.returns] at h; cases h)
    refine ⟨_, _, p116 _ (retOut X111 hx (w := (.ref w0)) (i := .areturn) Bd.returns rfl (Or.inr (Or.inr (Or.inr (Or.inr ⟨rfl, rfl, rfl⟩)))) (hb hby d1_30) hr), hrun, hended, _, _, rfl, ?_, ⟨_, rfl⟩, hW, hsame.mono (by decide) (by decide)⟩
    show Q1 Z p1 w0 w1 w2 w3 w4 w5 w6 w7 w8 w9 w10 w11 w12 w13 wv kv h0 n0 _ T111.heap _
    rw [e111]
    exact ⟨by simp [own_fc, c114], N101, K103⟩
  · have p117 : Go p.tables e below _ (T111.setTop (mkF m 31 #[.val (.int p1), .val (.ref x102), .val (.int (14 : Int32)), .val (.int (0 : Int32)), .val (.ref w0)] [])) := fun t k => p113 t (by
      show Steps p.tables e below (T111.setTop (mkF m 25 #[.val (.int p1), .val (.ref x102), .val (.int (14 : Int32)), .val (.int (0 : Int32)), .val (.ref w0)] [(.int p1), (.int (3 : Int32))])) _
      refine XS.icmpYes X111.here hx rfl (pc0 := 25) (pc' := 31) rfl (hb hby d1_25) rfl (feq c114).2 (by decide) (by decide) ?_
      show Steps p.tables e below (T111.setTop (mkF m 31 #[.val (.int p1), .val (.ref x102), .val (.int (14 : Int32)), .val (.int (0 : Int32)), .val (.ref w0)] [])) _
      exact k)
    have p118 : Go p.tables e below _ (T111.setTop (mkF m 16 #[.val (.int p1), .val (.ref x102), .val (.int (14 : Int32)), .val (.int (1 : Int32)), .val (.ref w0)] [(.int (1 : Int32)), (.ref x102)])) := fun t k => p117 t (by
      show Steps p.tables e below (T111.setTop (mkF m 31 #[.val (.int p1), .val (.ref x102), .val (.int (14 : Int32)), .val (.int (0 : Int32)), .val (.ref w0)] [])) _
      refine XS.iinc X111.here hx rfl (hb hby d1_31) rfl (l' := #[.val (.int p1), .val (.ref x102), .val (.int (14 : Int32)), .val (.int (1 : Int32)), .val (.ref w0)]) rfl ?_
      show Steps p.tables e below (T111.setTop (mkF m 34 #[.val (.int p1), .val (.ref x102), .val (.int (14 : Int32)), .val (.int (1 : Int32)), .val (.ref w0)] [])) _
      refine XS.goto X111.here hx rfl (pc0 := 34) (pc' := 9) rfl (hb hby d1_34) (by decide) (by decide) ?_
      show Steps p.tables e below (T111.setTop (mkF m 9 #[.val (.int p1), .val (.ref x102), .val (.int (14 : Int32)), .val (.int (1 : Int32)), .val (.ref w0)] [])) _
      refine XS.iloadN X111.here hx rfl (hb hby d1_9) rfl ?_
      show Steps p.tables e below (T111.setTop (mkF m 10 #[.val (.int p1), .val (.ref x102), .val (.int (14 : Int32)), .val (.int (1 : Int32)), .val (.ref w0)] [(.int (1 : Int32))])) _
      refine XS.iloadN X111.here hx rfl (hb hby d1_10) rfl ?_
      show Steps p.tables e below (T111.setTop (mkF m 11 #[.val (.int p1), .val (.ref x102), .val (.int (14 : Int32)), .val (.int (1 : Int32)), .val (.ref w0)] [(.int (14 : Int32)), (.int (1 : Int32))])) _
      refine XS.icmpNo X111.here hx rfl (hb hby d1_11) rfl (tlt (by decide : ((1 : Int32) < (14 : Int32)))).2.1 ?_
      show Steps p.tables e below (T111.setTop (mkF m 14 #[.val (.int p1), .val (.ref x102), .val (.int (14 : Int32)), .val (.int (1 : Int32)), .val (.ref w0)] [])) _
      refine XS.aloadN X111.here hx rfl (hb hby d1_14) rfl rfl ?_
      show Steps p.tables e below (T111.setTop (mkF m 15 #[.val (.int p1), .val (.ref x102), .val (.int (14 : Int32)), .val (.int (1 : Int32)), .val (.ref w0)] [(.ref x102)])) _
      refine XS.iloadN X111.here hx rfl (hb hby d1_15) rfl ?_
      show Steps p.tables e below (T111.setTop (mkF m 16 #[.val (.int p1), .val (.ref x102), .val (.int (14 : Int32)), .val (.int (1 : Int32)), .val (.ref w0)] [(.int (1 : Int32)), (.ref x102)])) _
      exact k)
    obtain ⟨cl119, Ar119, q119, S119, Ng119, H119, G119⟩ := id q101_V
    have hin119 := inb_of S119 (j := (1 : Int32)) ⟨by decide, by decide⟩
    have hat119 := H119.at (v := (.ref w1)) hin119 rfl
    have p120 : Go p.tables e below _ (T111.setTop (mkF m 21 #[.val (.int p1), .val (.ref x102), .val (.int (14 : Int32)), .val (.int (1 : Int32)), .val (.ref w1)] [(.ref w1)])) := fun t k => p118 t (by
      show Steps p.tables e below (T111.setTop (mkF m 16 #[.val (.int p1), .val (.ref x102), .val (.int (14 : Int32)), .val (.int (1 : Int32)), .val (.ref w0)] [(.int (1 : Int32)), (.ref x102)])) _
      refine X111.aaload hx (j := (1 : Int32)) (v := (.ref w1)) (by rw [e111]; exact Ar119.1) (State.isArrayOf_alike hZ.alike Ar119.2.1) rfl Ar119.2.2 hin119 hat119 (g := (mkF m 16 #[.val (.int p1), .val (.ref x102), .val (.int (14 : Int32)), .val (.int (1 : Int32)), .val (.ref w0)] [(.int (1 : Int32)), (.ref x102)])) rfl rfl (hb hby d1_16) _ ?_
      show Steps p.tables e below (T111.setTop (mkF m 17 #[.val (.int p1), .val (.ref x102), .val (.int (14 : Int32)), .val (.int (1 : Int32)), .val (.ref w0)] [(.ref w1)])) _
      refine XS.astore X111.here hx rfl (hb hby d1_17) rfl rfl (l' := #[.val (.int p1), .val (.ref x102), .val (.int (14 : Int32)), .val (.int (1 : Int32)), .val (.ref w1)]) rfl ?_
      show Steps p.tables e below (T111.setTop (mkF m 19 #[.val (.int p1), .val (.ref x102), .val (.int (14 : Int32)), .val (.int (1 : Int32)), .val (.ref w1)] [])) _
      refine XS.aload X111.here hx rfl (hb hby d1_19) rfl rfl ?_
      show Steps p.tables e below (T111.setTop (mkF m 21 #[.val (.int p1), .val (.ref x102), .val (.int (14 : Int32)), .val (.int (1 : Int32)), .val (.ref w1)] [(.ref w1)])) _
      exact k)
    obtain ⟨T121, X121, e121, st121⟩ := getF X111 hx hZ hown (host := "") (Or.inl (own_w hw 51 rfl)) Via.refl e111 (En1.2.2.ext f110.2) (g := (mkF m 21 #[.val (.int p1), .val (.ref x102), .val (.int (14 : Int32)), .val (.int (1 : Int32)), .val (.ref w1)] [(.ref w1)])) rfl rfl (hb hby d1_21)
    have p122 : Go p.tables e below _ (T121.setTop (mkF m 24 #[.val (.int p1), .val (.ref x102), .val (.int (14 : Int32)), .val (.int (1 : Int32)), .val (.ref w1)] [(.int (5 : Int32))])) := fun t k => p120 t (st121 t k)
    have p123 : Go p.tables e below _ (T121.setTop (mkF m 25 #[.val (.int p1), .val (.ref x102), .val (.int (14 : Int32)), .val (.int (1 : Int32)), .val (.ref w1)] [(.int p1), (.int (5 : Int32))])) := fun t k => p122 t (by
      show Steps p.tables e below (T121.setTop (mkF m 24 #[.val (.int p1), .val (.ref x102), .val (.int (14 : Int32)), .val (.int (1 : Int32)), .val (.ref w1)] [(.int (5 : Int32))])) _
      refine XS.iloadN X121.here hx rfl (hb hby d1_24) rfl ?_
      show Steps p.tables e below (T121.setTop (mkF m 25 #[.val (.int p1), .val (.ref x102), .val (.int (14 : Int32)), .val (.int (1 : Int32)), .val (.ref w1)] [(.int p1), (.int (5 : Int32))])) _
      exact k)
    by_cases c124 : (5 : Int32) = p1
    · have p125 : Go p.tables e below _ (T121.setTop (mkF m 28 #[.val (.int p1), .val (.ref x102), .val (.int (14 : Int32)), .val (.int (1 : Int32)), .val (.ref w1)] [])) := fun t k => p123 t (by
        show Steps p.tables e below (T121.setTop (mkF m 25 #[.val (.int p1), .val (.ref x102), .val (.int (14 : Int32)), .val (.int (1 : Int32)), .val (.ref w1)] [(.int p1), (.int (5 : Int32))])) _
        refine XS.icmpNo X121.here hx rfl (hb hby d1_25) rfl (teq c124).2 ?_
        show Steps p.tables e below (T121.setTop (mkF m 28 #[.val (.int p1), .val (.ref x102), .val (.int (14 : Int32)), .val (.int (1 : Int32)), .val (.ref w1)] [])) _
        exact k)
      have p126 : Go p.tables e below _ (T121.setTop (mkF m 30 #[.val (.int p1), .val (.ref x102), .val (.int (14 : Int32)), .val (.int (1 : Int32)), .val (.ref w1)] [(.ref w1)])) := fun t k => p125 t (by
        show Steps p.tables e below (T121.setTop (mkF m 28 #[.val (.int p1), .val (.ref x102), .val (.int (14 : Int32)), .val (.int (1 : Int32)), .val (.ref w1)] [])) _
        refine XS.aload X121.here hx rfl (hb hby d1_28) rfl rfl ?_
        show Steps p.tables e below (T121.setTop (mkF m 30 #[.val (.int p1), .val (.ref x102), .val (.int (14 : Int32)), .val (.int (1 : Int32)), .val (.ref w1)] [(.ref w1)])) _
        exact k)
      obtain ⟨fs, hr, hrun, hended, hW, hsame⟩ := X121.leave (v := some (.ref w1)) (fun h => by rw [Bd.returns] at h; cases h)
      refine ⟨_, _, p126 _ (retOut X121 hx (w := (.ref w1)) (i := .areturn) Bd.returns rfl (Or.inr (Or.inr (Or.inr (Or.inr ⟨rfl, rfl, rfl⟩)))) (hb hby d1_30) hr), hrun, hended, _, _, rfl, ?_, ⟨_, rfl⟩, hW, hsame.mono (by decide) (by decide)⟩
      show Q1 Z p1 w0 w1 w2 w3 w4 w5 w6 w7 w8 w9 w10 w11 w12 w13 wv kv h0 n0 _ T121.heap _
      rw [e121]
      exact ⟨by simp [own_fc, c114, c124], N101, K103⟩
    · have p127 : Go p.tables e below _ (T121.setTop (mkF m 31 #[.val (.int p1), .val (.ref x102), .val (.int (14 : Int32)), .val (.int (1 : Int32)), .val (.ref w1)] [])) := fun t k => p123 t (by
        show Steps p.tables e below (T121.setTop (mkF m 25 #[.val (.int p1), .val (.ref x102), .val (.int (14 : Int32)), .val (.int (1 : Int32)), .val (.ref w1)] [(.int p1), (.int (5 : Int32))])) _
        refine XS.icmpYes X121.here hx rfl (pc0 := 25) (pc' := 31) rfl (hb hby d1_25) rfl (feq c124).2 (by decide) (by decide) ?_
        show Steps p.tables e below (T121.setTop (mkF m 31 #[.val (.int p1), .val (.ref x102), .val (.int (14 : Int32)), .val (.int (1 : Int32)), .val (.ref w1)] [])) _
        exact k)
      have p128 : Go p.tables e below _ (T121.setTop (mkF m 16 #[.val (.int p1), .val (.ref x102), .val (.int (14 : Int32)), .val (.int (2 : Int32)), .val (.ref w1)] [(.int (2 : Int32)), (.ref x102)])) := fun t k => p127 t (by
        show Steps p.tables e below (T121.setTop (mkF m 31 #[.val (.int p1), .val (.ref x102), .val (.int (14 : Int32)), .val (.int (1 : Int32)), .val (.ref w1)] [])) _
        refine XS.iinc X121.here hx rfl (hb hby d1_31) rfl (l' := #[.val (.int p1), .val (.ref x102), .val (.int (14 : Int32)), .val (.int (2 : Int32)), .val (.ref w1)]) rfl ?_
        show Steps p.tables e below (T121.setTop (mkF m 34 #[.val (.int p1), .val (.ref x102), .val (.int (14 : Int32)), .val (.int (2 : Int32)), .val (.ref w1)] [])) _
        refine XS.goto X121.here hx rfl (pc0 := 34) (pc' := 9) rfl (hb hby d1_34) (by decide) (by decide) ?_
        show Steps p.tables e below (T121.setTop (mkF m 9 #[.val (.int p1), .val (.ref x102), .val (.int (14 : Int32)), .val (.int (2 : Int32)), .val (.ref w1)] [])) _
        refine XS.iloadN X121.here hx rfl (hb hby d1_9) rfl ?_
        show Steps p.tables e below (T121.setTop (mkF m 10 #[.val (.int p1), .val (.ref x102), .val (.int (14 : Int32)), .val (.int (2 : Int32)), .val (.ref w1)] [(.int (2 : Int32))])) _
        refine XS.iloadN X121.here hx rfl (hb hby d1_10) rfl ?_
        show Steps p.tables e below (T121.setTop (mkF m 11 #[.val (.int p1), .val (.ref x102), .val (.int (14 : Int32)), .val (.int (2 : Int32)), .val (.ref w1)] [(.int (14 : Int32)), (.int (2 : Int32))])) _
        refine XS.icmpNo X121.here hx rfl (hb hby d1_11) rfl (tlt (by decide : ((2 : Int32) < (14 : Int32)))).2.1 ?_
        show Steps p.tables e below (T121.setTop (mkF m 14 #[.val (.int p1), .val (.ref x102), .val (.int (14 : Int32)), .val (.int (2 : Int32)), .val (.ref w1)] [])) _
        refine XS.aloadN X121.here hx rfl (hb hby d1_14) rfl rfl ?_
        show Steps p.tables e below (T121.setTop (mkF m 15 #[.val (.int p1), .val (.ref x102), .val (.int (14 : Int32)), .val (.int (2 : Int32)), .val (.ref w1)] [(.ref x102)])) _
        refine XS.iloadN X121.here hx rfl (hb hby d1_15) rfl ?_
        show Steps p.tables e below (T121.setTop (mkF m 16 #[.val (.int p1), .val (.ref x102), .val (.int (14 : Int32)), .val (.int (2 : Int32)), .val (.ref w1)] [(.int (2 : Int32)), (.ref x102)])) _
        exact k)
      obtain ⟨cl129, Ar129, q129, S129, Ng129, H129, G129⟩ := id q101_V
      have hin129 := inb_of S129 (j := (2 : Int32)) ⟨by decide, by decide⟩
      have hat129 := H129.at (v := (.ref w2)) hin129 rfl
      have p130 : Go p.tables e below _ (T121.setTop (mkF m 21 #[.val (.int p1), .val (.ref x102), .val (.int (14 : Int32)), .val (.int (2 : Int32)), .val (.ref w2)] [(.ref w2)])) := fun t k => p128 t (by
        show Steps p.tables e below (T121.setTop (mkF m 16 #[.val (.int p1), .val (.ref x102), .val (.int (14 : Int32)), .val (.int (2 : Int32)), .val (.ref w1)] [(.int (2 : Int32)), (.ref x102)])) _
        refine X121.aaload hx (j := (2 : Int32)) (v := (.ref w2)) (by rw [e121]; exact Ar129.1) (State.isArrayOf_alike hZ.alike Ar129.2.1) rfl Ar129.2.2 hin129 hat129 (g := (mkF m 16 #[.val (.int p1), .val (.ref x102), .val (.int (14 : Int32)), .val (.int (2 : Int32)), .val (.ref w1)] [(.int (2 : Int32)), (.ref x102)])) rfl rfl (hb hby d1_16) _ ?_
        show Steps p.tables e below (T121.setTop (mkF m 17 #[.val (.int p1), .val (.ref x102), .val (.int (14 : Int32)), .val (.int (2 : Int32)), .val (.ref w1)] [(.ref w2)])) _
        refine XS.astore X121.here hx rfl (hb hby d1_17) rfl rfl (l' := #[.val (.int p1), .val (.ref x102), .val (.int (14 : Int32)), .val (.int (2 : Int32)), .val (.ref w2)]) rfl ?_
        show Steps p.tables e below (T121.setTop (mkF m 19 #[.val (.int p1), .val (.ref x102), .val (.int (14 : Int32)), .val (.int (2 : Int32)), .val (.ref w2)] [])) _
        refine XS.aload X121.here hx rfl (hb hby d1_19) rfl rfl ?_
        show Steps p.tables e below (T121.setTop (mkF m 21 #[.val (.int p1), .val (.ref x102), .val (.int (14 : Int32)), .val (.int (2 : Int32)), .val (.ref w2)] [(.ref w2)])) _
        exact k)
      obtain ⟨T131, X131, e131, st131⟩ := getF X121 hx hZ hown (host := "") (Or.inl (own_w hw 51 rfl)) Via.refl e121 (En2.2.2.ext f110.2) (g := (mkF m 21 #[.val (.int p1), .val (.ref x102), .val (.int (14 : Int32)), .val (.int (2 : Int32)), .val (.ref w2)] [(.ref w2)])) rfl rfl (hb hby d1_21)
      have p132 : Go p.tables e below _ (T131.setTop (mkF m 24 #[.val (.int p1), .val (.ref x102), .val (.int (14 : Int32)), .val (.int (2 : Int32)), .val (.ref w2)] [(.int (6 : Int32))])) := fun t k => p130 t (st131 t k)
      have p133 : Go p.tables e below _ (T131.setTop (mkF m 25 #[.val (.int p1), .val (.ref x102), .val (.int (14 : Int32)), .val (.int (2 : Int32)), .val (.ref w2)] [(.int p1), (.int (6 : Int32))])) := fun t k => p132 t (by
        show Steps p.tables e below (T131.setTop (mkF m 24 #[.val (.int p1), .val (.ref x102), .val (.int (14 : Int32)), .val (.int (2 : Int32)), .val (.ref w2)] [(.int (6 : Int32))])) _
        refine XS.iloadN X131.here hx rfl (hb hby d1_24) rfl ?_
        show Steps p.tables e below (T131.setTop (mkF m 25 #[.val (.int p1), .val (.ref x102), .val (.int (14 : Int32)), .val (.int (2 : Int32)), .val (.ref w2)] [(.int p1), (.int (6 : Int32))])) _
        exact k)
      by_cases c134 : (6 : Int32) = p1
      · have p135 : Go p.tables e below _ (T131.setTop (mkF m 28 #[.val (.int p1), .val (.ref x102), .val (.int (14 : Int32)), .val (.int (2 : Int32)), .val (.ref w2)] [])) := fun t k => p133 t (by
          show Steps p.tables e below (T131.setTop (mkF m 25 #[.val (.int p1), .val (.ref x102), .val (.int (14 : Int32)), .val (.int (2 : Int32)), .val (.ref w2)] [(.int p1), (.int (6 : Int32))])) _
          refine XS.icmpNo X131.here hx rfl (hb hby d1_25) rfl (teq c134).2 ?_
          show Steps p.tables e below (T131.setTop (mkF m 28 #[.val (.int p1), .val (.ref x102), .val (.int (14 : Int32)), .val (.int (2 : Int32)), .val (.ref w2)] [])) _
          exact k)
        have p136 : Go p.tables e below _ (T131.setTop (mkF m 30 #[.val (.int p1), .val (.ref x102), .val (.int (14 : Int32)), .val (.int (2 : Int32)), .val (.ref w2)] [(.ref w2)])) := fun t k => p135 t (by
          show Steps p.tables e below (T131.setTop (mkF m 28 #[.val (.int p1), .val (.ref x102), .val (.int (14 : Int32)), .val (.int (2 : Int32)), .val (.ref w2)] [])) _
          refine XS.aload X131.here hx rfl (hb hby d1_28) rfl rfl ?_
          show Steps p.tables e below (T131.setTop (mkF m 30 #[.val (.int p1), .val (.ref x102), .val (.int (14 : Int32)), .val (.int (2 : Int32)), .val (.ref w2)] [(.ref w2)])) _
          exact k)
        obtain ⟨fs, hr, hrun, hended, hW, hsame⟩ := X131.leave (v := some (.ref w2)) (fun h => by rw [Bd.returns] at h; cases h)
        refine ⟨_, _, p136 _ (retOut X131 hx (w := (.ref w2)) (i := .areturn) Bd.returns rfl (Or.inr (Or.inr (Or.inr (Or.inr ⟨rfl, rfl, rfl⟩)))) (hb hby d1_30) hr), hrun, hended, _, _, rfl, ?_, ⟨_, rfl⟩, hW, hsame.mono (by decide) (by decide)⟩
        show Q1 Z p1 w0 w1 w2 w3 w4 w5 w6 w7 w8 w9 w10 w11 w12 w13 wv kv h0 n0 _ T131.heap _
        rw [e131]
        exact ⟨by simp [own_fc, c114, c124, c134], N101, K103⟩
      · have p137 : Go p.tables e below _ (T131.setTop (mkF m 31 #[.val (.int p1), .val (.ref x102), .val (.int (14 : Int32)), .val (.int (2 : Int32)), .val (.ref w2)] [])) := fun t k => p133 t (by
          show Steps p.tables e below (T131.setTop (mkF m 25 #[.val (.int p1), .val (.ref x102), .val (.int (14 : Int32)), .val (.int (2 : Int32)), .val (.ref w2)] [(.int p1), (.int (6 : Int32))])) _
          refine XS.icmpYes X131.here hx rfl (pc0 := 25) (pc' := 31) rfl (hb hby d1_25) rfl (feq c134).2 (by decide) (by decide) ?_
          show Steps p.tables e below (T131.setTop (mkF m 31 #[.val (.int p1), .val (.ref x102), .val (.int (14 : Int32)), .val (.int (2 : Int32)), .val (.ref w2)] [])) _
          exact k)
        have p138 : Go p.tables e below _ (T131.setTop (mkF m 16 #[.val (.int p1), .val (.ref x102), .val (.int (14 : Int32)), .val (.int (3 : Int32)), .val (.ref w2)] [(.int (3 : Int32)), (.ref x102)])) := fun t k => p137 t (by
          show Steps p.tables e below (T131.setTop (mkF m 31 #[.val (.int p1), .val (.ref x102), .val (.int (14 : Int32)), .val (.int (2 : Int32)), .val (.ref w2)] [])) _
          refine XS.iinc X131.here hx rfl (hb hby d1_31) rfl (l' := #[.val (.int p1), .val (.ref x102), .val (.int (14 : Int32)), .val (.int (3 : Int32)), .val (.ref w2)]) rfl ?_
          show Steps p.tables e below (T131.setTop (mkF m 34 #[.val (.int p1), .val (.ref x102), .val (.int (14 : Int32)), .val (.int (3 : Int32)), .val (.ref w2)] [])) _
          refine XS.goto X131.here hx rfl (pc0 := 34) (pc' := 9) rfl (hb hby d1_34) (by decide) (by decide) ?_
          show Steps p.tables e below (T131.setTop (mkF m 9 #[.val (.int p1), .val (.ref x102), .val (.int (14 : Int32)), .val (.int (3 : Int32)), .val (.ref w2)] [])) _
          refine XS.iloadN X131.here hx rfl (hb hby d1_9) rfl ?_
          show Steps p.tables e below (T131.setTop (mkF m 10 #[.val (.int p1), .val (.ref x102), .val (.int (14 : Int32)), .val (.int (3 : Int32)), .val (.ref w2)] [(.int (3 : Int32))])) _
          refine XS.iloadN X131.here hx rfl (hb hby d1_10) rfl ?_
          show Steps p.tables e below (T131.setTop (mkF m 11 #[.val (.int p1), .val (.ref x102), .val (.int (14 : Int32)), .val (.int (3 : Int32)), .val (.ref w2)] [(.int (14 : Int32)), (.int (3 : Int32))])) _
          refine XS.icmpNo X131.here hx rfl (hb hby d1_11) rfl (tlt (by decide : ((3 : Int32) < (14 : Int32)))).2.1 ?_
          show Steps p.tables e below (T131.setTop (mkF m 14 #[.val (.int p1), .val (.ref x102), .val (.int (14 : Int32)), .val (.int (3 : Int32)), .val (.ref w2)] [])) _
          refine XS.aloadN X131.here hx rfl (hb hby d1_14) rfl rfl ?_
          show Steps p.tables e below (T131.setTop (mkF m 15 #[.val (.int p1), .val (.ref x102), .val (.int (14 : Int32)), .val (.int (3 : Int32)), .val (.ref w2)] [(.ref x102)])) _
          refine XS.iloadN X131.here hx rfl (hb hby d1_15) rfl ?_
          show Steps p.tables e below (T131.setTop (mkF m 16 #[.val (.int p1), .val (.ref x102), .val (.int (14 : Int32)), .val (.int (3 : Int32)), .val (.ref w2)] [(.int (3 : Int32)), (.ref x102)])) _
          exact k)
        obtain ⟨cl139, Ar139, q139, S139, Ng139, H139, G139⟩ := id q101_V
        have hin139 := inb_of S139 (j := (3 : Int32)) ⟨by decide, by decide⟩
        have hat139 := H139.at (v := (.ref w3)) hin139 rfl
        have p140 : Go p.tables e below _ (T131.setTop (mkF m 21 #[.val (.int p1), .val (.ref x102), .val (.int (14 : Int32)), .val (.int (3 : Int32)), .val (.ref w3)] [(.ref w3)])) := fun t k => p138 t (by
          show Steps p.tables e below (T131.setTop (mkF m 16 #[.val (.int p1), .val (.ref x102), .val (.int (14 : Int32)), .val (.int (3 : Int32)), .val (.ref w2)] [(.int (3 : Int32)), (.ref x102)])) _
          refine X131.aaload hx (j := (3 : Int32)) (v := (.ref w3)) (by rw [e131]; exact Ar139.1) (State.isArrayOf_alike hZ.alike Ar139.2.1) rfl Ar139.2.2 hin139 hat139 (g := (mkF m 16 #[.val (.int p1), .val (.ref x102), .val (.int (14 : Int32)), .val (.int (3 : Int32)), .val (.ref w2)] [(.int (3 : Int32)), (.ref x102)])) rfl rfl (hb hby d1_16) _ ?_
          show Steps p.tables e below (T131.setTop (mkF m 17 #[.val (.int p1), .val (.ref x102), .val (.int (14 : Int32)), .val (.int (3 : Int32)), .val (.ref w2)] [(.ref w3)])) _
          refine XS.astore X131.here hx rfl (hb hby d1_17) rfl rfl (l' := #[.val (.int p1), .val (.ref x102), .val (.int (14 : Int32)), .val (.int (3 : Int32)), .val (.ref w3)]) rfl ?_
          show Steps p.tables e below (T131.setTop (mkF m 19 #[.val (.int p1), .val (.ref x102), .val (.int (14 : Int32)), .val (.int (3 : Int32)), .val (.ref w3)] [])) _
          refine XS.aload X131.here hx rfl (hb hby d1_19) rfl rfl ?_
          show Steps p.tables e below (T131.setTop (mkF m 21 #[.val (.int p1), .val (.ref x102), .val (.int (14 : Int32)), .val (.int (3 : Int32)), .val (.ref w3)] [(.ref w3)])) _
          exact k)
        obtain ⟨T141, X141, e141, st141⟩ := getF X131 hx hZ hown (host := "") (Or.inl (own_w hw 51 rfl)) Via.refl e131 (En3.2.2.ext f110.2) (g := (mkF m 21 #[.val (.int p1), .val (.ref x102), .val (.int (14 : Int32)), .val (.int (3 : Int32)), .val (.ref w3)] [(.ref w3)])) rfl rfl (hb hby d1_21)
        have p142 : Go p.tables e below _ (T141.setTop (mkF m 24 #[.val (.int p1), .val (.ref x102), .val (.int (14 : Int32)), .val (.int (3 : Int32)), .val (.ref w3)] [(.int (9 : Int32))])) := fun t k => p140 t (st141 t k)
        have p143 : Go p.tables e below _ (T141.setTop (mkF m 25 #[.val (.int p1), .val (.ref x102), .val (.int (14 : Int32)), .val (.int (3 : Int32)), .val (.ref w3)] [(.int p1), (.int (9 : Int32))])) := fun t k => p142 t (by
          show Steps p.tables e below (T141.setTop (mkF m 24 #[.val (.int p1), .val (.ref x102), .val (.int (14 : Int32)), .val (.int (3 : Int32)), .val (.ref w3)] [(.int (9 : Int32))])) _
          refine XS.iloadN X141.here hx rfl (hb hby d1_24) rfl ?_
          show Steps p.tables e below (T141.setTop (mkF m 25 #[.val (.int p1), .val (.ref x102), .val (.int (14 : Int32)), .val (.int (3 : Int32)), .val (.ref w3)] [(.int p1), (.int (9 : Int32))])) _
          exact k)
        by_cases c144 : (9 : Int32) = p1
        · have p145 : Go p.tables e below _ (T141.setTop (mkF m 28 #[.val (.int p1), .val (.ref x102), .val (.int (14 : Int32)), .val (.int (3 : Int32)), .val (.ref w3)] [])) := fun t k => p143 t (by
            show Steps p.tables e below (T141.setTop (mkF m 25 #[.val (.int p1), .val (.ref x102), .val (.int (14 : Int32)), .val (.int (3 : Int32)), .val (.ref w3)] [(.int p1), (.int (9 : Int32))])) _
            refine XS.icmpNo X141.here hx rfl (hb hby d1_25) rfl (teq c144).2 ?_
            show Steps p.tables e below (T141.setTop (mkF m 28 #[.val (.int p1), .val (.ref x102), .val (.int (14 : Int32)), .val (.int (3 : Int32)), .val (.ref w3)] [])) _
            exact k)
          have p146 : Go p.tables e below _ (T141.setTop (mkF m 30 #[.val (.int p1), .val (.ref x102), .val (.int (14 : Int32)), .val (.int (3 : Int32)), .val (.ref w3)] [(.ref w3)])) := fun t k => p145 t (by
            show Steps p.tables e below (T141.setTop (mkF m 28 #[.val (.int p1), .val (.ref x102), .val (.int (14 : Int32)), .val (.int (3 : Int32)), .val (.ref w3)] [])) _
            refine XS.aload X141.here hx rfl (hb hby d1_28) rfl rfl ?_
            show Steps p.tables e below (T141.setTop (mkF m 30 #[.val (.int p1), .val (.ref x102), .val (.int (14 : Int32)), .val (.int (3 : Int32)), .val (.ref w3)] [(.ref w3)])) _
            exact k)
          obtain ⟨fs, hr, hrun, hended, hW, hsame⟩ := X141.leave (v := some (.ref w3)) (fun h => by rw [Bd.returns] at h; cases h)
          refine ⟨_, _, p146 _ (retOut X141 hx (w := (.ref w3)) (i := .areturn) Bd.returns rfl (Or.inr (Or.inr (Or.inr (Or.inr ⟨rfl, rfl, rfl⟩)))) (hb hby d1_30) hr), hrun, hended, _, _, rfl, ?_, ⟨_, rfl⟩, hW, hsame.mono (by decide) (by decide)⟩
          show Q1 Z p1 w0 w1 w2 w3 w4 w5 w6 w7 w8 w9 w10 w11 w12 w13 wv kv h0 n0 _ T141.heap _
          rw [e141]
          exact ⟨by simp [own_fc, c114, c124, c134, c144], N101, K103⟩
        · have p147 : Go p.tables e below _ (T141.setTop (mkF m 31 #[.val (.int p1), .val (.ref x102), .val (.int (14 : Int32)), .val (.int (3 : Int32)), .val (.ref w3)] [])) := fun t k => p143 t (by
            show Steps p.tables e below (T141.setTop (mkF m 25 #[.val (.int p1), .val (.ref x102), .val (.int (14 : Int32)), .val (.int (3 : Int32)), .val (.ref w3)] [(.int p1), (.int (9 : Int32))])) _
            refine XS.icmpYes X141.here hx rfl (pc0 := 25) (pc' := 31) rfl (hb hby d1_25) rfl (feq c144).2 (by decide) (by decide) ?_
            show Steps p.tables e below (T141.setTop (mkF m 31 #[.val (.int p1), .val (.ref x102), .val (.int (14 : Int32)), .val (.int (3 : Int32)), .val (.ref w3)] [])) _
            exact k)
          have p148 : Go p.tables e below _ (T141.setTop (mkF m 16 #[.val (.int p1), .val (.ref x102), .val (.int (14 : Int32)), .val (.int (4 : Int32)), .val (.ref w3)] [(.int (4 : Int32)), (.ref x102)])) := fun t k => p147 t (by
            show Steps p.tables e below (T141.setTop (mkF m 31 #[.val (.int p1), .val (.ref x102), .val (.int (14 : Int32)), .val (.int (3 : Int32)), .val (.ref w3)] [])) _
            refine XS.iinc X141.here hx rfl (hb hby d1_31) rfl (l' := #[.val (.int p1), .val (.ref x102), .val (.int (14 : Int32)), .val (.int (4 : Int32)), .val (.ref w3)]) rfl ?_
            show Steps p.tables e below (T141.setTop (mkF m 34 #[.val (.int p1), .val (.ref x102), .val (.int (14 : Int32)), .val (.int (4 : Int32)), .val (.ref w3)] [])) _
            refine XS.goto X141.here hx rfl (pc0 := 34) (pc' := 9) rfl (hb hby d1_34) (by decide) (by decide) ?_
            show Steps p.tables e below (T141.setTop (mkF m 9 #[.val (.int p1), .val (.ref x102), .val (.int (14 : Int32)), .val (.int (4 : Int32)), .val (.ref w3)] [])) _
            refine XS.iloadN X141.here hx rfl (hb hby d1_9) rfl ?_
            show Steps p.tables e below (T141.setTop (mkF m 10 #[.val (.int p1), .val (.ref x102), .val (.int (14 : Int32)), .val (.int (4 : Int32)), .val (.ref w3)] [(.int (4 : Int32))])) _
            refine XS.iloadN X141.here hx rfl (hb hby d1_10) rfl ?_
            show Steps p.tables e below (T141.setTop (mkF m 11 #[.val (.int p1), .val (.ref x102), .val (.int (14 : Int32)), .val (.int (4 : Int32)), .val (.ref w3)] [(.int (14 : Int32)), (.int (4 : Int32))])) _
            refine XS.icmpNo X141.here hx rfl (hb hby d1_11) rfl (tlt (by decide : ((4 : Int32) < (14 : Int32)))).2.1 ?_
            show Steps p.tables e below (T141.setTop (mkF m 14 #[.val (.int p1), .val (.ref x102), .val (.int (14 : Int32)), .val (.int (4 : Int32)), .val (.ref w3)] [])) _
            refine XS.aloadN X141.here hx rfl (hb hby d1_14) rfl rfl ?_
            show Steps p.tables e below (T141.setTop (mkF m 15 #[.val (.int p1), .val (.ref x102), .val (.int (14 : Int32)), .val (.int (4 : Int32)), .val (.ref w3)] [(.ref x102)])) _
            refine XS.iloadN X141.here hx rfl (hb hby d1_15) rfl ?_
            show Steps p.tables e below (T141.setTop (mkF m 16 #[.val (.int p1), .val (.ref x102), .val (.int (14 : Int32)), .val (.int (4 : Int32)), .val (.ref w3)] [(.int (4 : Int32)), (.ref x102)])) _
            exact k)
          obtain ⟨cl149, Ar149, q149, S149, Ng149, H149, G149⟩ := id q101_V
          have hin149 := inb_of S149 (j := (4 : Int32)) ⟨by decide, by decide⟩
          have hat149 := H149.at (v := (.ref w4)) hin149 rfl
          have p150 : Go p.tables e below _ (T141.setTop (mkF m 21 #[.val (.int p1), .val (.ref x102), .val (.int (14 : Int32)), .val (.int (4 : Int32)), .val (.ref w4)] [(.ref w4)])) := fun t k => p148 t (by
            show Steps p.tables e below (T141.setTop (mkF m 16 #[.val (.int p1), .val (.ref x102), .val (.int (14 : Int32)), .val (.int (4 : Int32)), .val (.ref w3)] [(.int (4 : Int32)), (.ref x102)])) _
            refine X141.aaload hx (j := (4 : Int32)) (v := (.ref w4)) (by rw [e141]; exact Ar149.1) (State.isArrayOf_alike hZ.alike Ar149.2.1) rfl Ar149.2.2 hin149 hat149 (g := (mkF m 16 #[.val (.int p1), .val (.ref x102), .val (.int (14 : Int32)), .val (.int (4 : Int32)), .val (.ref w3)] [(.int (4 : Int32)), (.ref x102)])) rfl rfl (hb hby d1_16) _ ?_
            show Steps p.tables e below (T141.setTop (mkF m 17 #[.val (.int p1), .val (.ref x102), .val (.int (14 : Int32)), .val (.int (4 : Int32)), .val (.ref w3)] [(.ref w4)])) _
            refine XS.astore X141.here hx rfl (hb hby d1_17) rfl rfl (l' := #[.val (.int p1), .val (.ref x102), .val (.int (14 : Int32)), .val (.int (4 : Int32)), .val (.ref w4)]) rfl ?_
            show Steps p.tables e below (T141.setTop (mkF m 19 #[.val (.int p1), .val (.ref x102), .val (.int (14 : Int32)), .val (.int (4 : Int32)), .val (.ref w4)] [])) _
            refine XS.aload X141.here hx rfl (hb hby d1_19) rfl rfl ?_
            show Steps p.tables e below (T141.setTop (mkF m 21 #[.val (.int p1), .val (.ref x102), .val (.int (14 : Int32)), .val (.int (4 : Int32)), .val (.ref w4)] [(.ref w4)])) _
            exact k)
          obtain ⟨T151, X151, e151, st151⟩ := getF X141 hx hZ hown (host := "") (Or.inl (own_w hw 51 rfl)) Via.refl e141 (En4.2.2.ext f110.2) (g := (mkF m 21 #[.val (.int p1), .val (.ref x102), .val (.int (14 : Int32)), .val (.int (4 : Int32)), .val (.ref w4)] [(.ref w4)])) rfl rfl (hb hby d1_21)
          have p152 : Go p.tables e below _ (T151.setTop (mkF m 24 #[.val (.int p1), .val (.ref x102), .val (.int (14 : Int32)), .val (.int (4 : Int32)), .val (.ref w4)] [(.int (10 : Int32))])) := fun t k => p150 t (st151 t k)
          have p153 : Go p.tables e below _ (T151.setTop (mkF m 25 #[.val (.int p1), .val (.ref x102), .val (.int (14 : Int32)), .val (.int (4 : Int32)), .val (.ref w4)] [(.int p1), (.int (10 : Int32))])) := fun t k => p152 t (by
            show Steps p.tables e below (T151.setTop (mkF m 24 #[.val (.int p1), .val (.ref x102), .val (.int (14 : Int32)), .val (.int (4 : Int32)), .val (.ref w4)] [(.int (10 : Int32))])) _
            refine XS.iloadN X151.here hx rfl (hb hby d1_24) rfl ?_
            show Steps p.tables e below (T151.setTop (mkF m 25 #[.val (.int p1), .val (.ref x102), .val (.int (14 : Int32)), .val (.int (4 : Int32)), .val (.ref w4)] [(.int p1), (.int (10 : Int32))])) _
            exact k)
          by_cases c154 : (10 : Int32) = p1
          · have p155 : Go p.tables e below _ (T151.setTop (mkF m 28 #[.val (.int p1), .val (.ref x102), .val (.int (14 : Int32)), .val (.int (4 : Int32)), .val (.ref w4)] [])) := fun t k => p153 t (by
              show Steps p.tables e below (T151.setTop (mkF m 25 #[.val (.int p1), .val (.ref x102), .val (.int (14 : Int32)), .val (.int (4 : Int32)), .val (.ref w4)] [(.int p1), (.int (10 : Int32))])) _
              refine XS.icmpNo X151.here hx rfl (hb hby d1_25) rfl (teq c154).2 ?_
              show Steps p.tables e below (T151.setTop (mkF m 28 #[.val (.int p1), .val (.ref x102), .val (.int (14 : Int32)), .val (.int (4 : Int32)), .val (.ref w4)] [])) _
              exact k)
            have p156 : Go p.tables e below _ (T151.setTop (mkF m 30 #[.val (.int p1), .val (.ref x102), .val (.int (14 : Int32)), .val (.int (4 : Int32)), .val (.ref w4)] [(.ref w4)])) := fun t k => p155 t (by
              show Steps p.tables e below (T151.setTop (mkF m 28 #[.val (.int p1), .val (.ref x102), .val (.int (14 : Int32)), .val (.int (4 : Int32)), .val (.ref w4)] [])) _
              refine XS.aload X151.here hx rfl (hb hby d1_28) rfl rfl ?_
              show Steps p.tables e below (T151.setTop (mkF m 30 #[.val (.int p1), .val (.ref x102), .val (.int (14 : Int32)), .val (.int (4 : Int32)), .val (.ref w4)] [(.ref w4)])) _
              exact k)
            obtain ⟨fs, hr, hrun, hended, hW, hsame⟩ := X151.leave (v := some (.ref w4)) (fun h => by rw [Bd.returns] at h; cases h)
            refine ⟨_, _, p156 _ (retOut X151 hx (w := (.ref w4)) (i := .areturn) Bd.returns rfl (Or.inr (Or.inr (Or.inr (Or.inr ⟨rfl, rfl, rfl⟩)))) (hb hby d1_30) hr), hrun, hended, _, _, rfl, ?_, ⟨_, rfl⟩, hW, hsame.mono (by decide) (by decide)⟩
            show Q1 Z p1 w0 w1 w2 w3 w4 w5 w6 w7 w8 w9 w10 w11 w12 w13 wv kv h0 n0 _ T151.heap _
            rw [e151]
            exact ⟨by simp [own_fc, c114, c124, c134, c144, c154], N101, K103⟩
          · have p157 : Go p.tables e below _ (T151.setTop (mkF m 31 #[.val (.int p1), .val (.ref x102), .val (.int (14 : Int32)), .val (.int (4 : Int32)), .val (.ref w4)] [])) := fun t k => p153 t (by
              show Steps p.tables e below (T151.setTop (mkF m 25 #[.val (.int p1), .val (.ref x102), .val (.int (14 : Int32)), .val (.int (4 : Int32)), .val (.ref w4)] [(.int p1), (.int (10 : Int32))])) _
              refine XS.icmpYes X151.here hx rfl (pc0 := 25) (pc' := 31) rfl (hb hby d1_25) rfl (feq c154).2 (by decide) (by decide) ?_
              show Steps p.tables e below (T151.setTop (mkF m 31 #[.val (.int p1), .val (.ref x102), .val (.int (14 : Int32)), .val (.int (4 : Int32)), .val (.ref w4)] [])) _
              exact k)
            have p158 : Go p.tables e below _ (T151.setTop (mkF m 16 #[.val (.int p1), .val (.ref x102), .val (.int (14 : Int32)), .val (.int (5 : Int32)), .val (.ref w4)] [(.int (5 : Int32)), (.ref x102)])) := fun t k => p157 t (by
              show Steps p.tables e below (T151.setTop (mkF m 31 #[.val (.int p1), .val (.ref x102), .val (.int (14 : Int32)), .val (.int (4 : Int32)), .val (.ref w4)] [])) _
              refine XS.iinc X151.here hx rfl (hb hby d1_31) rfl (l' := #[.val (.int p1), .val (.ref x102), .val (.int (14 : Int32)), .val (.int (5 : Int32)), .val (.ref w4)]) rfl ?_
              show Steps p.tables e below (T151.setTop (mkF m 34 #[.val (.int p1), .val (.ref x102), .val (.int (14 : Int32)), .val (.int (5 : Int32)), .val (.ref w4)] [])) _
              refine XS.goto X151.here hx rfl (pc0 := 34) (pc' := 9) rfl (hb hby d1_34) (by decide) (by decide) ?_
              show Steps p.tables e below (T151.setTop (mkF m 9 #[.val (.int p1), .val (.ref x102), .val (.int (14 : Int32)), .val (.int (5 : Int32)), .val (.ref w4)] [])) _
              refine XS.iloadN X151.here hx rfl (hb hby d1_9) rfl ?_
              show Steps p.tables e below (T151.setTop (mkF m 10 #[.val (.int p1), .val (.ref x102), .val (.int (14 : Int32)), .val (.int (5 : Int32)), .val (.ref w4)] [(.int (5 : Int32))])) _
              refine XS.iloadN X151.here hx rfl (hb hby d1_10) rfl ?_
              show Steps p.tables e below (T151.setTop (mkF m 11 #[.val (.int p1), .val (.ref x102), .val (.int (14 : Int32)), .val (.int (5 : Int32)), .val (.ref w4)] [(.int (14 : Int32)), (.int (5 : Int32))])) _
              refine XS.icmpNo X151.here hx rfl (hb hby d1_11) rfl (tlt (by decide : ((5 : Int32) < (14 : Int32)))).2.1 ?_
              show Steps p.tables e below (T151.setTop (mkF m 14 #[.val (.int p1), .val (.ref x102), .val (.int (14 : Int32)), .val (.int (5 : Int32)), .val (.ref w4)] [])) _
              refine XS.aloadN X151.here hx rfl (hb hby d1_14) rfl rfl ?_
              show Steps p.tables e below (T151.setTop (mkF m 15 #[.val (.int p1), .val (.ref x102), .val (.int (14 : Int32)), .val (.int (5 : Int32)), .val (.ref w4)] [(.ref x102)])) _
              refine XS.iloadN X151.here hx rfl (hb hby d1_15) rfl ?_
              show Steps p.tables e below (T151.setTop (mkF m 16 #[.val (.int p1), .val (.ref x102), .val (.int (14 : Int32)), .val (.int (5 : Int32)), .val (.ref w4)] [(.int (5 : Int32)), (.ref x102)])) _
              exact k)
            obtain ⟨cl159, Ar159, q159, S159, Ng159, H159, G159⟩ := id q101_V
            have hin159 := inb_of S159 (j := (5 : Int32)) ⟨by decide, by decide⟩
            have hat159 := H159.at (v := (.ref w5)) hin159 rfl
            have p160 : Go p.tables e below _ (T151.setTop (mkF m 21 #[.val (.int p1), .val (.ref x102), .val (.int (14 : Int32)), .val (.int (5 : Int32)), .val (.ref w5)] [(.ref w5)])) := fun t k => p158 t (by
              show Steps p.tables e below (T151.setTop (mkF m 16 #[.val (.int p1), .val (.ref x102), .val (.int (14 : Int32)), .val (.int (5 : Int32)), .val (.ref w4)] [(.int (5 : Int32)), (.ref x102)])) _
              refine X151.aaload hx (j := (5 : Int32)) (v := (.ref w5)) (by rw [e151]; exact Ar159.1) (State.isArrayOf_alike hZ.alike Ar159.2.1) rfl Ar159.2.2 hin159 hat159 (g := (mkF m 16 #[.val (.int p1), .val (.ref x102), .val (.int (14 : Int32)), .val (.int (5 : Int32)), .val (.ref w4)] [(.int (5 : Int32)), (.ref x102)])) rfl rfl (hb hby d1_16) _ ?_
              show Steps p.tables e below (T151.setTop (mkF m 17 #[.val (.int p1), .val (.ref x102), .val (.int (14 : Int32)), .val (.int (5 : Int32)), .val (.ref w4)] [(.ref w5)])) _
              refine XS.astore X151.here hx rfl (hb hby d1_17) rfl rfl (l' := #[.val (.int p1), .val (.ref x102), .val (.int (14 : Int32)), .val (.int (5 : Int32)), .val (.ref w5)]) rfl ?_
              show Steps p.tables e below (T151.setTop (mkF m 19 #[.val (.int p1), .val (.ref x102), .val (.int (14 : Int32)), .val (.int (5 : Int32)), .val (.ref w5)] [])) _
              refine XS.aload X151.here hx rfl (hb hby d1_19) rfl rfl ?_
              show Steps p.tables e below (T151.setTop (mkF m 21 #[.val (.int p1), .val (.ref x102), .val (.int (14 : Int32)), .val (.int (5 : Int32)), .val (.ref w5)] [(.ref w5)])) _
              exact k)
            obtain ⟨T161, X161, e161, st161⟩ := getF X151 hx hZ hown (host := "") (Or.inl (own_w hw 51 rfl)) Via.refl e151 (En5.2.2.ext f110.2) (g := (mkF m 21 #[.val (.int p1), .val (.ref x102), .val (.int (14 : Int32)), .val (.int (5 : Int32)), .val (.ref w5)] [(.ref w5)])) rfl rfl (hb hby d1_21)
            have p162 : Go p.tables e below _ (T161.setTop (mkF m 24 #[.val (.int p1), .val (.ref x102), .val (.int (14 : Int32)), .val (.int (5 : Int32)), .val (.ref w5)] [(.int (12 : Int32))])) := fun t k => p160 t (st161 t k)
            have p163 : Go p.tables e below _ (T161.setTop (mkF m 25 #[.val (.int p1), .val (.ref x102), .val (.int (14 : Int32)), .val (.int (5 : Int32)), .val (.ref w5)] [(.int p1), (.int (12 : Int32))])) := fun t k => p162 t (by
              show Steps p.tables e below (T161.setTop (mkF m 24 #[.val (.int p1), .val (.ref x102), .val (.int (14 : Int32)), .val (.int (5 : Int32)), .val (.ref w5)] [(.int (12 : Int32))])) _
              refine XS.iloadN X161.here hx rfl (hb hby d1_24) rfl ?_
              show Steps p.tables e below (T161.setTop (mkF m 25 #[.val (.int p1), .val (.ref x102), .val (.int (14 : Int32)), .val (.int (5 : Int32)), .val (.ref w5)] [(.int p1), (.int (12 : Int32))])) _
              exact k)
            by_cases c164 : (12 : Int32) = p1
            · have p165 : Go p.tables e below _ (T161.setTop (mkF m 28 #[.val (.int p1), .val (.ref x102), .val (.int (14 : Int32)), .val (.int (5 : Int32)), .val (.ref w5)] [])) := fun t k => p163 t (by
                show Steps p.tables e below (T161.setTop (mkF m 25 #[.val (.int p1), .val (.ref x102), .val (.int (14 : Int32)), .val (.int (5 : Int32)), .val (.ref w5)] [(.int p1), (.int (12 : Int32))])) _
                refine XS.icmpNo X161.here hx rfl (hb hby d1_25) rfl (teq c164).2 ?_
                show Steps p.tables e below (T161.setTop (mkF m 28 #[.val (.int p1), .val (.ref x102), .val (.int (14 : Int32)), .val (.int (5 : Int32)), .val (.ref w5)] [])) _
                exact k)
              have p166 : Go p.tables e below _ (T161.setTop (mkF m 30 #[.val (.int p1), .val (.ref x102), .val (.int (14 : Int32)), .val (.int (5 : Int32)), .val (.ref w5)] [(.ref w5)])) := fun t k => p165 t (by
                show Steps p.tables e below (T161.setTop (mkF m 28 #[.val (.int p1), .val (.ref x102), .val (.int (14 : Int32)), .val (.int (5 : Int32)), .val (.ref w5)] [])) _
                refine XS.aload X161.here hx rfl (hb hby d1_28) rfl rfl ?_
                show Steps p.tables e below (T161.setTop (mkF m 30 #[.val (.int p1), .val (.ref x102), .val (.int (14 : Int32)), .val (.int (5 : Int32)), .val (.ref w5)] [(.ref w5)])) _
                exact k)
              obtain ⟨fs, hr, hrun, hended, hW, hsame⟩ := X161.leave (v := some (.ref w5)) (fun h => by rw [Bd.returns] at h; cases h)
              refine ⟨_, _, p166 _ (retOut X161 hx (w := (.ref w5)) (i := .areturn) Bd.returns rfl (Or.inr (Or.inr (Or.inr (Or.inr ⟨rfl, rfl, rfl⟩)))) (hb hby d1_30) hr), hrun, hended, _, _, rfl, ?_, ⟨_, rfl⟩, hW, hsame.mono (by decide) (by decide)⟩
              show Q1 Z p1 w0 w1 w2 w3 w4 w5 w6 w7 w8 w9 w10 w11 w12 w13 wv kv h0 n0 _ T161.heap _
              rw [e161]
              exact ⟨by simp [own_fc, c114, c124, c134, c144, c154, c164], N101, K103⟩
            · have p167 : Go p.tables e below _ (T161.setTop (mkF m 31 #[.val (.int p1), .val (.ref x102), .val (.int (14 : Int32)), .val (.int (5 : Int32)), .val (.ref w5)] [])) := fun t k => p163 t (by
                show Steps p.tables e below (T161.setTop (mkF m 25 #[.val (.int p1), .val (.ref x102), .val (.int (14 : Int32)), .val (.int (5 : Int32)), .val (.ref w5)] [(.int p1), (.int (12 : Int32))])) _
                refine XS.icmpYes X161.here hx rfl (pc0 := 25) (pc' := 31) rfl (hb hby d1_25) rfl (feq c164).2 (by decide) (by decide) ?_
                show Steps p.tables e below (T161.setTop (mkF m 31 #[.val (.int p1), .val (.ref x102), .val (.int (14 : Int32)), .val (.int (5 : Int32)), .val (.ref w5)] [])) _
                exact k)
              have p168 : Go p.tables e below _ (T161.setTop (mkF m 16 #[.val (.int p1), .val (.ref x102), .val (.int (14 : Int32)), .val (.int (6 : Int32)), .val (.ref w5)] [(.int (6 : Int32)), (.ref x102)])) := fun t k => p167 t (by
                show Steps p.tables e below (T161.setTop (mkF m 31 #[.val (.int p1), .val (.ref x102), .val (.int (14 : Int32)), .val (.int (5 : Int32)), .val (.ref w5)] [])) _
                refine XS.iinc X161.here hx rfl (hb hby d1_31) rfl (l' := #[.val (.int p1), .val (.ref x102), .val (.int (14 : Int32)), .val (.int (6 : Int32)), .val (.ref w5)]) rfl ?_
                show Steps p.tables e below (T161.setTop (mkF m 34 #[.val (.int p1), .val (.ref x102), .val (.int (14 : Int32)), .val (.int (6 : Int32)), .val (.ref w5)] [])) _
                refine XS.goto X161.here hx rfl (pc0 := 34) (pc' := 9) rfl (hb hby d1_34) (by decide) (by decide) ?_
                show Steps p.tables e below (T161.setTop (mkF m 9 #[.val (.int p1), .val (.ref x102), .val (.int (14 : Int32)), .val (.int (6 : Int32)), .val (.ref w5)] [])) _
                refine XS.iloadN X161.here hx rfl (hb hby d1_9) rfl ?_
                show Steps p.tables e below (T161.setTop (mkF m 10 #[.val (.int p1), .val (.ref x102), .val (.int (14 : Int32)), .val (.int (6 : Int32)), .val (.ref w5)] [(.int (6 : Int32))])) _
                refine XS.iloadN X161.here hx rfl (hb hby d1_10) rfl ?_
                show Steps p.tables e below (T161.setTop (mkF m 11 #[.val (.int p1), .val (.ref x102), .val (.int (14 : Int32)), .val (.int (6 : Int32)), .val (.ref w5)] [(.int (14 : Int32)), (.int (6 : Int32))])) _
                refine XS.icmpNo X161.here hx rfl (hb hby d1_11) rfl (tlt (by decide : ((6 : Int32) < (14 : Int32)))).2.1 ?_
                show Steps p.tables e below (T161.setTop (mkF m 14 #[.val (.int p1), .val (.ref x102), .val (.int (14 : Int32)), .val (.int (6 : Int32)), .val (.ref w5)] [])) _
                refine XS.aloadN X161.here hx rfl (hb hby d1_14) rfl rfl ?_
                show Steps p.tables e below (T161.setTop (mkF m 15 #[.val (.int p1), .val (.ref x102), .val (.int (14 : Int32)), .val (.int (6 : Int32)), .val (.ref w5)] [(.ref x102)])) _
                refine XS.iloadN X161.here hx rfl (hb hby d1_15) rfl ?_
                show Steps p.tables e below (T161.setTop (mkF m 16 #[.val (.int p1), .val (.ref x102), .val (.int (14 : Int32)), .val (.int (6 : Int32)), .val (.ref w5)] [(.int (6 : Int32)), (.ref x102)])) _
                exact k)
              obtain ⟨cl169, Ar169, q169, S169, Ng169, H169, G169⟩ := id q101_V
              have hin169 := inb_of S169 (j := (6 : Int32)) ⟨by decide, by decide⟩
              have hat169 := H169.at (v := (.ref w6)) hin169 rfl
              have p170 : Go p.tables e below _ (T161.setTop (mkF m 21 #[.val (.int p1), .val (.ref x102), .val (.int (14 : Int32)), .val (.int (6 : Int32)), .val (.ref w6)] [(.ref w6)])) := fun t k => p168 t (by
                show Steps p.tables e below (T161.setTop (mkF m 16 #[.val (.int p1), .val (.ref x102), .val (.int (14 : Int32)), .val (.int (6 : Int32)), .val (.ref w5)] [(.int (6 : Int32)), (.ref x102)])) _
                refine X161.aaload hx (j := (6 : Int32)) (v := (.ref w6)) (by rw [e161]; exact Ar169.1) (State.isArrayOf_alike hZ.alike Ar169.2.1) rfl Ar169.2.2 hin169 hat169 (g := (mkF m 16 #[.val (.int p1), .val (.ref x102), .val (.int (14 : Int32)), .val (.int (6 : Int32)), .val (.ref w5)] [(.int (6 : Int32)), (.ref x102)])) rfl rfl (hb hby d1_16) _ ?_
                show Steps p.tables e below (T161.setTop (mkF m 17 #[.val (.int p1), .val (.ref x102), .val (.int (14 : Int32)), .val (.int (6 : Int32)), .val (.ref w5)] [(.ref w6)])) _
                refine XS.astore X161.here hx rfl (hb hby d1_17) rfl rfl (l' := #[.val (.int p1), .val (.ref x102), .val (.int (14 : Int32)), .val (.int (6 : Int32)), .val (.ref w6)]) rfl ?_
                show Steps p.tables e below (T161.setTop (mkF m 19 #[.val (.int p1), .val (.ref x102), .val (.int (14 : Int32)), .val (.int (6 : Int32)), .val (.ref w6)] [])) _
                refine XS.aload X161.here hx rfl (hb hby d1_19) rfl rfl ?_
                show Steps p.tables e below (T161.setTop (mkF m 21 #[.val (.int p1), .val (.ref x102), .val (.int (14 : Int32)), .val (.int (6 : Int32)), .val (.ref w6)] [(.ref w6)])) _
                exact k)
              obtain ⟨T171, X171, e171, st171⟩ := getF X161 hx hZ hown (host := "") (Or.inl (own_w hw 51 rfl)) Via.refl e161 (En6.2.2.ext f110.2) (g := (mkF m 21 #[.val (.int p1), .val (.ref x102), .val (.int (14 : Int32)), .val (.int (6 : Int32)), .val (.ref w6)] [(.ref w6)])) rfl rfl (hb hby d1_21)
              have p172 : Go p.tables e below _ (T171.setTop (mkF m 24 #[.val (.int p1), .val (.ref x102), .val (.int (14 : Int32)), .val (.int (6 : Int32)), .val (.ref w6)] [(.int (65 : Int32))])) := fun t k => p170 t (st171 t k)
              have p173 : Go p.tables e below _ (T171.setTop (mkF m 25 #[.val (.int p1), .val (.ref x102), .val (.int (14 : Int32)), .val (.int (6 : Int32)), .val (.ref w6)] [(.int p1), (.int (65 : Int32))])) := fun t k => p172 t (by
                show Steps p.tables e below (T171.setTop (mkF m 24 #[.val (.int p1), .val (.ref x102), .val (.int (14 : Int32)), .val (.int (6 : Int32)), .val (.ref w6)] [(.int (65 : Int32))])) _
                refine XS.iloadN X171.here hx rfl (hb hby d1_24) rfl ?_
                show Steps p.tables e below (T171.setTop (mkF m 25 #[.val (.int p1), .val (.ref x102), .val (.int (14 : Int32)), .val (.int (6 : Int32)), .val (.ref w6)] [(.int p1), (.int (65 : Int32))])) _
                exact k)
              by_cases c174 : (65 : Int32) = p1
              · have p175 : Go p.tables e below _ (T171.setTop (mkF m 28 #[.val (.int p1), .val (.ref x102), .val (.int (14 : Int32)), .val (.int (6 : Int32)), .val (.ref w6)] [])) := fun t k => p173 t (by
                  show Steps p.tables e below (T171.setTop (mkF m 25 #[.val (.int p1), .val (.ref x102), .val (.int (14 : Int32)), .val (.int (6 : Int32)), .val (.ref w6)] [(.int p1), (.int (65 : Int32))])) _
                  refine XS.icmpNo X171.here hx rfl (hb hby d1_25) rfl (teq c174).2 ?_
                  show Steps p.tables e below (T171.setTop (mkF m 28 #[.val (.int p1), .val (.ref x102), .val (.int (14 : Int32)), .val (.int (6 : Int32)), .val (.ref w6)] [])) _
                  exact k)
                have p176 : Go p.tables e below _ (T171.setTop (mkF m 30 #[.val (.int p1), .val (.ref x102), .val (.int (14 : Int32)), .val (.int (6 : Int32)), .val (.ref w6)] [(.ref w6)])) := fun t k => p175 t (by
                  show Steps p.tables e below (T171.setTop (mkF m 28 #[.val (.int p1), .val (.ref x102), .val (.int (14 : Int32)), .val (.int (6 : Int32)), .val (.ref w6)] [])) _
                  refine XS.aload X171.here hx rfl (hb hby d1_28) rfl rfl ?_
                  show Steps p.tables e below (T171.setTop (mkF m 30 #[.val (.int p1), .val (.ref x102), .val (.int (14 : Int32)), .val (.int (6 : Int32)), .val (.ref w6)] [(.ref w6)])) _
                  exact k)
                obtain ⟨fs, hr, hrun, hended, hW, hsame⟩ := X171.leave (v := some (.ref w6)) (fun h => by rw [Bd.returns] at h; cases h)
                refine ⟨_, _, p176 _ (retOut X171 hx (w := (.ref w6)) (i := .areturn) Bd.returns rfl (Or.inr (Or.inr (Or.inr (Or.inr ⟨rfl, rfl, rfl⟩)))) (hb hby d1_30) hr), hrun, hended, _, _, rfl, ?_, ⟨_, rfl⟩, hW, hsame.mono (by decide) (by decide)⟩
                show Q1 Z p1 w0 w1 w2 w3 w4 w5 w6 w7 w8 w9 w10 w11 w12 w13 wv kv h0 n0 _ T171.heap _
                rw [e171]
                exact ⟨by simp [own_fc, c114, c124, c134, c144, c154, c164, c174], N101, K103⟩
              · have p177 : Go p.tables e below _ (T171.setTop (mkF m 31 #[.val (.int p1), .val (.ref x102), .val (.int (14 : Int32)), .val (.int (6 : Int32)), .val (.ref w6)] [])) := fun t k => p173 t (by
                  show Steps p.tables e below (T171.setTop (mkF m 25 #[.val (.int p1), .val (.ref x102), .val (.int (14 : Int32)), .val (.int (6 : Int32)), .val (.ref w6)] [(.int p1), (.int (65 : Int32))])) _
                  refine XS.icmpYes X171.here hx rfl (pc0 := 25) (pc' := 31) rfl (hb hby d1_25) rfl (feq c174).2 (by decide) (by decide) ?_
                  show Steps p.tables e below (T171.setTop (mkF m 31 #[.val (.int p1), .val (.ref x102), .val (.int (14 : Int32)), .val (.int (6 : Int32)), .val (.ref w6)] [])) _
                  exact k)
                have p178 : Go p.tables e below _ (T171.setTop (mkF m 16 #[.val (.int p1), .val (.ref x102), .val (.int (14 : Int32)), .val (.int (7 : Int32)), .val (.ref w6)] [(.int (7 : Int32)), (.ref x102)])) := fun t k => p177 t (by
                  show Steps p.tables e below (T171.setTop (mkF m 31 #[.val (.int p1), .val (.ref x102), .val (.int (14 : Int32)), .val (.int (6 : Int32)), .val (.ref w6)] [])) _
                  refine XS.iinc X171.here hx rfl (hb hby d1_31) rfl (l' := #[.val (.int p1), .val (.ref x102), .val (.int (14 : Int32)), .val (.int (7 : Int32)), .val (.ref w6)]) rfl ?_
                  show Steps p.tables e below (T171.setTop (mkF m 34 #[.val (.int p1), .val (.ref x102), .val (.int (14 : Int32)), .val (.int (7 : Int32)), .val (.ref w6)] [])) _
                  refine XS.goto X171.here hx rfl (pc0 := 34) (pc' := 9) rfl (hb hby d1_34) (by decide) (by decide) ?_
                  show Steps p.tables e below (T171.setTop (mkF m 9 #[.val (.int p1), .val (.ref x102), .val (.int (14 : Int32)), .val (.int (7 : Int32)), .val (.ref w6)] [])) _
                  refine XS.iloadN X171.here hx rfl (hb hby d1_9) rfl ?_
                  show Steps p.tables e below (T171.setTop (mkF m 10 #[.val (.int p1), .val (.ref x102), .val (.int (14 : Int32)), .val (.int (7 : Int32)), .val (.ref w6)] [(.int (7 : Int32))])) _
                  refine XS.iloadN X171.here hx rfl (hb hby d1_10) rfl ?_
                  show Steps p.tables e below (T171.setTop (mkF m 11 #[.val (.int p1), .val (.ref x102), .val (.int (14 : Int32)), .val (.int (7 : Int32)), .val (.ref w6)] [(.int (14 : Int32)), (.int (7 : Int32))])) _
                  refine XS.icmpNo X171.here hx rfl (hb hby d1_11) rfl (tlt (by decide : ((7 : Int32) < (14 : Int32)))).2.1 ?_
                  show Steps p.tables e below (T171.setTop (mkF m 14 #[.val (.int p1), .val (.ref x102), .val (.int (14 : Int32)), .val (.int (7 : Int32)), .val (.ref w6)] [])) _
                  refine XS.aloadN X171.here hx rfl (hb hby d1_14) rfl rfl ?_
                  show Steps p.tables e below (T171.setTop (mkF m 15 #[.val (.int p1), .val (.ref x102), .val (.int (14 : Int32)), .val (.int (7 : Int32)), .val (.ref w6)] [(.ref x102)])) _
                  refine XS.iloadN X171.here hx rfl (hb hby d1_15) rfl ?_
                  show Steps p.tables e below (T171.setTop (mkF m 16 #[.val (.int p1), .val (.ref x102), .val (.int (14 : Int32)), .val (.int (7 : Int32)), .val (.ref w6)] [(.int (7 : Int32)), (.ref x102)])) _
                  exact k)
                obtain ⟨cl179, Ar179, q179, S179, Ng179, H179, G179⟩ := id q101_V
                have hin179 := inb_of S179 (j := (7 : Int32)) ⟨by decide, by decide⟩
                have hat179 := H179.at (v := (.ref w7)) hin179 rfl
                have p180 : Go p.tables e below _ (T171.setTop (mkF m 21 #[.val (.int p1), .val (.ref x102), .val (.int (14 : Int32)), .val (.int (7 : Int32)), .val (.ref w7)] [(.ref w7)])) := fun t k => p178 t (by
                  show Steps p.tables e below (T171.setTop (mkF m 16 #[.val (.int p1), .val (.ref x102), .val (.int (14 : Int32)), .val (.int (7 : Int32)), .val (.ref w6)] [(.int (7 : Int32)), (.ref x102)])) _
                  refine X171.aaload hx (j := (7 : Int32)) (v := (.ref w7)) (by rw [e171]; exact Ar179.1) (State.isArrayOf_alike hZ.alike Ar179.2.1) rfl Ar179.2.2 hin179 hat179 (g := (mkF m 16 #[.val (.int p1), .val (.ref x102), .val (.int (14 : Int32)), .val (.int (7 : Int32)), .val (.ref w6)] [(.int (7 : Int32)), (.ref x102)])) rfl rfl (hb hby d1_16) _ ?_
                  show Steps p.tables e below (T171.setTop (mkF m 17 #[.val (.int p1), .val (.ref x102), .val (.int (14 : Int32)), .val (.int (7 : Int32)), .val (.ref w6)] [(.ref w7)])) _
                  refine XS.astore X171.here hx rfl (hb hby d1_17) rfl rfl (l' := #[.val (.int p1), .val (.ref x102), .val (.int (14 : Int32)), .val (.int (7 : Int32)), .val (.ref w7)]) rfl ?_
                  show Steps p.tables e below (T171.setTop (mkF m 19 #[.val (.int p1), .val (.ref x102), .val (.int (14 : Int32)), .val (.int (7 : Int32)), .val (.ref w7)] [])) _
                  refine XS.aload X171.here hx rfl (hb hby d1_19) rfl rfl ?_
                  show Steps p.tables e below (T171.setTop (mkF m 21 #[.val (.int p1), .val (.ref x102), .val (.int (14 : Int32)), .val (.int (7 : Int32)), .val (.ref w7)] [(.ref w7)])) _
                  exact k)
                obtain ⟨T181, X181, e181, st181⟩ := getF X171 hx hZ hown (host := "") (Or.inl (own_w hw 51 rfl)) Via.refl e171 (En7.2.2.ext f110.2) (g := (mkF m 21 #[.val (.int p1), .val (.ref x102), .val (.int (14 : Int32)), .val (.int (7 : Int32)), .val (.ref w7)] [(.ref w7)])) rfl rfl (hb hby d1_21)
                have p182 : Go p.tables e below _ (T181.setTop (mkF m 24 #[.val (.int p1), .val (.ref x102), .val (.int (14 : Int32)), .val (.int (7 : Int32)), .val (.ref w7)] [(.int (66 : Int32))])) := fun t k => p180 t (st181 t k)
                have p183 : Go p.tables e below _ (T181.setTop (mkF m 25 #[.val (.int p1), .val (.ref x102), .val (.int (14 : Int32)), .val (.int (7 : Int32)), .val (.ref w7)] [(.int p1), (.int (66 : Int32))])) := fun t k => p182 t (by
                  show Steps p.tables e below (T181.setTop (mkF m 24 #[.val (.int p1), .val (.ref x102), .val (.int (14 : Int32)), .val (.int (7 : Int32)), .val (.ref w7)] [(.int (66 : Int32))])) _
                  refine XS.iloadN X181.here hx rfl (hb hby d1_24) rfl ?_
                  show Steps p.tables e below (T181.setTop (mkF m 25 #[.val (.int p1), .val (.ref x102), .val (.int (14 : Int32)), .val (.int (7 : Int32)), .val (.ref w7)] [(.int p1), (.int (66 : Int32))])) _
                  exact k)
                by_cases c184 : (66 : Int32) = p1
                · have p185 : Go p.tables e below _ (T181.setTop (mkF m 28 #[.val (.int p1), .val (.ref x102), .val (.int (14 : Int32)), .val (.int (7 : Int32)), .val (.ref w7)] [])) := fun t k => p183 t (by
                    show Steps p.tables e below (T181.setTop (mkF m 25 #[.val (.int p1), .val (.ref x102), .val (.int (14 : Int32)), .val (.int (7 : Int32)), .val (.ref w7)] [(.int p1), (.int (66 : Int32))])) _
                    refine XS.icmpNo X181.here hx rfl (hb hby d1_25) rfl (teq c184).2 ?_
                    show Steps p.tables e below (T181.setTop (mkF m 28 #[.val (.int p1), .val (.ref x102), .val (.int (14 : Int32)), .val (.int (7 : Int32)), .val (.ref w7)] [])) _
                    exact k)
                  have p186 : Go p.tables e below _ (T181.setTop (mkF m 30 #[.val (.int p1), .val (.ref x102), .val (.int (14 : Int32)), .val (.int (7 : Int32)), .val (.ref w7)] [(.ref w7)])) := fun t k => p185 t (by
                    show Steps p.tables e below (T181.setTop (mkF m 28 #[.val (.int p1), .val (.ref x102), .val (.int (14 : Int32)), .val (.int (7 : Int32)), .val (.ref w7)] [])) _
                    refine XS.aload X181.here hx rfl (hb hby d1_28) rfl rfl ?_
                    show Steps p.tables e below (T181.setTop (mkF m 30 #[.val (.int p1), .val (.ref x102), .val (.int (14 : Int32)), .val (.int (7 : Int32)), .val (.ref w7)] [(.ref w7)])) _
                    exact k)
                  obtain ⟨fs, hr, hrun, hended, hW, hsame⟩ := X181.leave (v := some (.ref w7)) (fun h => by rw [Bd.returns] at h; cases h)
                  refine ⟨_, _, p186 _ (retOut X181 hx (w := (.ref w7)) (i := .areturn) Bd.returns rfl (Or.inr (Or.inr (Or.inr (Or.inr ⟨rfl, rfl, rfl⟩)))) (hb hby d1_30) hr), hrun, hended, _, _, rfl, ?_, ⟨_, rfl⟩, hW, hsame.mono (by decide) (by decide)⟩
                  show Q1 Z p1 w0 w1 w2 w3 w4 w5 w6 w7 w8 w9 w10 w11 w12 w13 wv kv h0 n0 _ T181.heap _
                  rw [e181]
                  exact ⟨by simp [own_fc, c114, c124, c134, c144, c154, c164, c174, c184], N101, K103⟩
                · have p187 : Go p.tables e below _ (T181.setTop (mkF m 31 #[.val (.int p1), .val (.ref x102), .val (.int (14 : Int32)), .val (.int (7 : Int32)), .val (.ref w7)] [])) := fun t k => p183 t (by
                    show Steps p.tables e below (T181.setTop (mkF m 25 #[.val (.int p1), .val (.ref x102), .val (.int (14 : Int32)), .val (.int (7 : Int32)), .val (.ref w7)] [(.int p1), (.int (66 : Int32))])) _
                    refine XS.icmpYes X181.here hx rfl (pc0 := 25) (pc' := 31) rfl (hb hby d1_25) rfl (feq c184).2 (by decide) (by decide) ?_
                    show Steps p.tables e below (T181.setTop (mkF m 31 #[.val (.int p1), .val (.ref x102), .val (.int (14 : Int32)), .val (.int (7 : Int32)), .val (.ref w7)] [])) _
                    exact k)
                  have p188 : Go p.tables e below _ (T181.setTop (mkF m 16 #[.val (.int p1), .val (.ref x102), .val (.int (14 : Int32)), .val (.int (8 : Int32)), .val (.ref w7)] [(.int (8 : Int32)), (.ref x102)])) := fun t k => p187 t (by
                    show Steps p.tables e below (T181.setTop (mkF m 31 #[.val (.int p1), .val (.ref x102), .val (.int (14 : Int32)), .val (.int (7 : Int32)), .val (.ref w7)] [])) _
                    refine XS.iinc X181.here hx rfl (hb hby d1_31) rfl (l' := #[.val (.int p1), .val (.ref x102), .val (.int (14 : Int32)), .val (.int (8 : Int32)), .val (.ref w7)]) rfl ?_
                    show Steps p.tables e below (T181.setTop (mkF m 34 #[.val (.int p1), .val (.ref x102), .val (.int (14 : Int32)), .val (.int (8 : Int32)), .val (.ref w7)] [])) _
                    refine XS.goto X181.here hx rfl (pc0 := 34) (pc' := 9) rfl (hb hby d1_34) (by decide) (by decide) ?_
                    show Steps p.tables e below (T181.setTop (mkF m 9 #[.val (.int p1), .val (.ref x102), .val (.int (14 : Int32)), .val (.int (8 : Int32)), .val (.ref w7)] [])) _
                    refine XS.iloadN X181.here hx rfl (hb hby d1_9) rfl ?_
                    show Steps p.tables e below (T181.setTop (mkF m 10 #[.val (.int p1), .val (.ref x102), .val (.int (14 : Int32)), .val (.int (8 : Int32)), .val (.ref w7)] [(.int (8 : Int32))])) _
                    refine XS.iloadN X181.here hx rfl (hb hby d1_10) rfl ?_
                    show Steps p.tables e below (T181.setTop (mkF m 11 #[.val (.int p1), .val (.ref x102), .val (.int (14 : Int32)), .val (.int (8 : Int32)), .val (.ref w7)] [(.int (14 : Int32)), (.int (8 : Int32))])) _
                    refine XS.icmpNo X181.here hx rfl (hb hby d1_11) rfl (tlt (by decide : ((8 : Int32) < (14 : Int32)))).2.1 ?_
                    show Steps p.tables e below (T181.setTop (mkF m 14 #[.val (.int p1), .val (.ref x102), .val (.int (14 : Int32)), .val (.int (8 : Int32)), .val (.ref w7)] [])) _
                    refine XS.aloadN X181.here hx rfl (hb hby d1_14) rfl rfl ?_
                    show Steps p.tables e below (T181.setTop (mkF m 15 #[.val (.int p1), .val (.ref x102), .val (.int (14 : Int32)), .val (.int (8 : Int32)), .val (.ref w7)] [(.ref x102)])) _
                    refine XS.iloadN X181.here hx rfl (hb hby d1_15) rfl ?_
                    show Steps p.tables e below (T181.setTop (mkF m 16 #[.val (.int p1), .val (.ref x102), .val (.int (14 : Int32)), .val (.int (8 : Int32)), .val (.ref w7)] [(.int (8 : Int32)), (.ref x102)])) _
                    exact k)
                  obtain ⟨cl189, Ar189, q189, S189, Ng189, H189, G189⟩ := id q101_V
                  have hin189 := inb_of S189 (j := (8 : Int32)) ⟨by decide, by decide⟩
                  have hat189 := H189.at (v := (.ref w8)) hin189 rfl
                  have p190 : Go p.tables e below _ (T181.setTop (mkF m 21 #[.val (.int p1), .val (.ref x102), .val (.int (14 : Int32)), .val (.int (8 : Int32)), .val (.ref w8)] [(.ref w8)])) := fun t k => p188 t (by
                    show Steps p.tables e below (T181.setTop (mkF m 16 #[.val (.int p1), .val (.ref x102), .val (.int (14 : Int32)), .val (.int (8 : Int32)), .val (.ref w7)] [(.int (8 : Int32)), (.ref x102)])) _
                    refine X181.aaload hx (j := (8 : Int32)) (v := (.ref w8)) (by rw [e181]; exact Ar189.1) (State.isArrayOf_alike hZ.alike Ar189.2.1) rfl Ar189.2.2 hin189 hat189 (g := (mkF m 16 #[.val (.int p1), .val (.ref x102), .val (.int (14 : Int32)), .val (.int (8 : Int32)), .val (.ref w7)] [(.int (8 : Int32)), (.ref x102)])) rfl rfl (hb hby d1_16) _ ?_
                    show Steps p.tables e below (T181.setTop (mkF m 17 #[.val (.int p1), .val (.ref x102), .val (.int (14 : Int32)), .val (.int (8 : Int32)), .val (.ref w7)] [(.ref w8)])) _
                    refine XS.astore X181.here hx rfl (hb hby d1_17) rfl rfl (l' := #[.val (.int p1), .val (.ref x102), .val (.int (14 : Int32)), .val (.int (8 : Int32)), .val (.ref w8)]) rfl ?_
                    show Steps p.tables e below (T181.setTop (mkF m 19 #[.val (.int p1), .val (.ref x102), .val (.int (14 : Int32)), .val (.int (8 : Int32)), .val (.ref w8)] [])) _
                    refine XS.aload X181.here hx rfl (hb hby d1_19) rfl rfl ?_
                    show Steps p.tables e below (T181.setTop (mkF m 21 #[.val (.int p1), .val (.ref x102), .val (.int (14 : Int32)), .val (.int (8 : Int32)), .val (.ref w8)] [(.ref w8)])) _
                    exact k)
                  obtain ⟨T191, X191, e191, st191⟩ := getF X181 hx hZ hown (host := "") (Or.inl (own_w hw 51 rfl)) Via.refl e181 (En8.2.2.ext f110.2) (g := (mkF m 21 #[.val (.int p1), .val (.ref x102), .val (.int (14 : Int32)), .val (.int (8 : Int32)), .val (.ref w8)] [(.ref w8)])) rfl rfl (hb hby d1_21)
                  have p192 : Go p.tables e below _ (T191.setTop (mkF m 24 #[.val (.int p1), .val (.ref x102), .val (.int (14 : Int32)), .val (.int (8 : Int32)), .val (.ref w8)] [(.int (68 : Int32))])) := fun t k => p190 t (st191 t k)
                  have p193 : Go p.tables e below _ (T191.setTop (mkF m 25 #[.val (.int p1), .val (.ref x102), .val (.int (14 : Int32)), .val (.int (8 : Int32)), .val (.ref w8)] [(.int p1), (.int (68 : Int32))])) := fun t k => p192 t (by
                    show Steps p.tables e below (T191.setTop (mkF m 24 #[.val (.int p1), .val (.ref x102), .val (.int (14 : Int32)), .val (.int (8 : Int32)), .val (.ref w8)] [(.int (68 : Int32))])) _
                    refine XS.iloadN X191.here hx rfl (hb hby d1_24) rfl ?_
                    show Steps p.tables e below (T191.setTop (mkF m 25 #[.val (.int p1), .val (.ref x102), .val (.int (14 : Int32)), .val (.int (8 : Int32)), .val (.ref w8)] [(.int p1), (.int (68 : Int32))])) _
                    exact k)
                  by_cases c194 : (68 : Int32) = p1
                  · have p195 : Go p.tables e below _ (T191.setTop (mkF m 28 #[.val (.int p1), .val (.ref x102), .val (.int (14 : Int32)), .val (.int (8 : Int32)), .val (.ref w8)] [])) := fun t k => p193 t (by
                      show Steps p.tables e below (T191.setTop (mkF m 25 #[.val (.int p1), .val (.ref x102), .val (.int (14 : Int32)), .val (.int (8 : Int32)), .val (.ref w8)] [(.int p1), (.int (68 : Int32))])) _
                      refine XS.icmpNo X191.here hx rfl (hb hby d1_25) rfl (teq c194).2 ?_
                      show Steps p.tables e below (T191.setTop (mkF m 28 #[.val (.int p1), .val (.ref x102), .val (.int (14 : Int32)), .val (.int (8 : Int32)), .val (.ref w8)] [])) _
                      exact k)
                    have p196 : Go p.tables e below _ (T191.setTop (mkF m 30 #[.val (.int p1), .val (.ref x102), .val (.int (14 : Int32)), .val (.int (8 : Int32)), .val (.ref w8)] [(.ref w8)])) := fun t k => p195 t (by
                      show Steps p.tables e below (T191.setTop (mkF m 28 #[.val (.int p1), .val (.ref x102), .val (.int (14 : Int32)), .val (.int (8 : Int32)), .val (.ref w8)] [])) _
                      refine XS.aload X191.here hx rfl (hb hby d1_28) rfl rfl ?_
                      show Steps p.tables e below (T191.setTop (mkF m 30 #[.val (.int p1), .val (.ref x102), .val (.int (14 : Int32)), .val (.int (8 : Int32)), .val (.ref w8)] [(.ref w8)])) _
                      exact k)
                    obtain ⟨fs, hr, hrun, hended, hW, hsame⟩ := X191.leave (v := some (.ref w8)) (fun h => by rw [Bd.returns] at h; cases h)
                    refine ⟨_, _, p196 _ (retOut X191 hx (w := (.ref w8)) (i := .areturn) Bd.returns rfl (Or.inr (Or.inr (Or.inr (Or.inr ⟨rfl, rfl, rfl⟩)))) (hb hby d1_30) hr), hrun, hended, _, _, rfl, ?_, ⟨_, rfl⟩, hW, hsame.mono (by decide) (by decide)⟩
                    show Q1 Z p1 w0 w1 w2 w3 w4 w5 w6 w7 w8 w9 w10 w11 w12 w13 wv kv h0 n0 _ T191.heap _
                    rw [e191]
                    exact ⟨by simp [own_fc, c114, c124, c134, c144, c154, c164, c174, c184, c194], N101, K103⟩
                  · have p197 : Go p.tables e below _ (T191.setTop (mkF m 31 #[.val (.int p1), .val (.ref x102), .val (.int (14 : Int32)), .val (.int (8 : Int32)), .val (.ref w8)] [])) := fun t k => p193 t (by
                      show Steps p.tables e below (T191.setTop (mkF m 25 #[.val (.int p1), .val (.ref x102), .val (.int (14 : Int32)), .val (.int (8 : Int32)), .val (.ref w8)] [(.int p1), (.int (68 : Int32))])) _
                      refine XS.icmpYes X191.here hx rfl (pc0 := 25) (pc' := 31) rfl (hb hby d1_25) rfl (feq c194).2 (by decide) (by decide) ?_
                      show Steps p.tables e below (T191.setTop (mkF m 31 #[.val (.int p1), .val (.ref x102), .val (.int (14 : Int32)), .val (.int (8 : Int32)), .val (.ref w8)] [])) _
                      exact k)
                    have p198 : Go p.tables e below _ (T191.setTop (mkF m 16 #[.val (.int p1), .val (.ref x102), .val (.int (14 : Int32)), .val (.int (9 : Int32)), .val (.ref w8)] [(.int (9 : Int32)), (.ref x102)])) := fun t k => p197 t (by
                      show Steps p.tables e below (T191.setTop (mkF m 31 #[.val (.int p1), .val (.ref x102), .val (.int (14 : Int32)), .val (.int (8 : Int32)), .val (.ref w8)] [])) _
                      refine XS.iinc X191.here hx rfl (hb hby d1_31) rfl (l' := #[.val (.int p1), .val (.ref x102), .val (.int (14 : Int32)), .val (.int (9 : Int32)), .val (.ref w8)]) rfl ?_
                      show Steps p.tables e below (T191.setTop (mkF m 34 #[.val (.int p1), .val (.ref x102), .val (.int (14 : Int32)), .val (.int (9 : Int32)), .val (.ref w8)] [])) _
                      refine XS.goto X191.here hx rfl (pc0 := 34) (pc' := 9) rfl (hb hby d1_34) (by decide) (by decide) ?_
                      show Steps p.tables e below (T191.setTop (mkF m 9 #[.val (.int p1), .val (.ref x102), .val (.int (14 : Int32)), .val (.int (9 : Int32)), .val (.ref w8)] [])) _
                      refine XS.iloadN X191.here hx rfl (hb hby d1_9) rfl ?_
                      show Steps p.tables e below (T191.setTop (mkF m 10 #[.val (.int p1), .val (.ref x102), .val (.int (14 : Int32)), .val (.int (9 : Int32)), .val (.ref w8)] [(.int (9 : Int32))])) _
                      refine XS.iloadN X191.here hx rfl (hb hby d1_10) rfl ?_
                      show Steps p.tables e below (T191.setTop (mkF m 11 #[.val (.int p1), .val (.ref x102), .val (.int (14 : Int32)), .val (.int (9 : Int32)), .val (.ref w8)] [(.int (14 : Int32)), (.int (9 : Int32))])) _
                      refine XS.icmpNo X191.here hx rfl (hb hby d1_11) rfl (tlt (by decide : ((9 : Int32) < (14 : Int32)))).2.1 ?_
                      show Steps p.tables e below (T191.setTop (mkF m 14 #[.val (.int p1), .val (.ref x102), .val (.int (14 : Int32)), .val (.int (9 : Int32)), .val (.ref w8)] [])) _
                      refine XS.aloadN X191.here hx rfl (hb hby d1_14) rfl rfl ?_
                      show Steps p.tables e below (T191.setTop (mkF m 15 #[.val (.int p1), .val (.ref x102), .val (.int (14 : Int32)), .val (.int (9 : Int32)), .val (.ref w8)] [(.ref x102)])) _
                      refine XS.iloadN X191.here hx rfl (hb hby d1_15) rfl ?_
                      show Steps p.tables e below (T191.setTop (mkF m 16 #[.val (.int p1), .val (.ref x102), .val (.int (14 : Int32)), .val (.int (9 : Int32)), .val (.ref w8)] [(.int (9 : Int32)), (.ref x102)])) _
                      exact k)
                    obtain ⟨cl199, Ar199, q199, S199, Ng199, H199, G199⟩ := id q101_V
                    have hin199 := inb_of S199 (j := (9 : Int32)) ⟨by decide, by decide⟩
                    have hat199 := H199.at (v := (.ref w9)) hin199 rfl
                    have p200 : Go p.tables e below _ (T191.setTop (mkF m 21 #[.val (.int p1), .val (.ref x102), .val (.int (14 : Int32)), .val (.int (9 : Int32)), .val (.ref w9)] [(.ref w9)])) := fun t k => p198 t (by
                      show Steps p.tables e below (T191.setTop (mkF m 16 #[.val (.int p1), .val (.ref x102), .val (.int (14 : Int32)), .val (.int (9 : Int32)), .val (.ref w8)] [(.int (9 : Int32)), (.ref x102)])) _
                      refine X191.aaload hx (j := (9 : Int32)) (v := (.ref w9)) (by rw [e191]; exact Ar199.1) (State.isArrayOf_alike hZ.alike Ar199.2.1) rfl Ar199.2.2 hin199 hat199 (g := (mkF m 16 #[.val (.int p1), .val (.ref x102), .val (.int (14 : Int32)), .val (.int (9 : Int32)), .val (.ref w8)] [(.int (9 : Int32)), (.ref x102)])) rfl rfl (hb hby d1_16) _ ?_
                      show Steps p.tables e below (T191.setTop (mkF m 17 #[.val (.int p1), .val (.ref x102), .val (.int (14 : Int32)), .val (.int (9 : Int32)), .val (.ref w8)] [(.ref w9)])) _
                      refine XS.astore X191.here hx rfl (hb hby d1_17) rfl rfl (l' := #[.val (.int p1), .val (.ref x102), .val (.int (14 : Int32)), .val (.int (9 : Int32)), .val (.ref w9)]) rfl ?_
                      show Steps p.tables e below (T191.setTop (mkF m 19 #[.val (.int p1), .val (.ref x102), .val (.int (14 : Int32)), .val (.int (9 : Int32)), .val (.ref w9)] [])) _
                      refine XS.aload X191.here hx rfl (hb hby d1_19) rfl rfl ?_
                      show Steps p.tables e below (T191.setTop (mkF m 21 #[.val (.int p1), .val (.ref x102), .val (.int (14 : Int32)), .val (.int (9 : Int32)), .val (.ref w9)] [(.ref w9)])) _
                      exact k)
                    obtain ⟨T201, X201, e201, st201⟩ := getF X191 hx hZ hown (host := "") (Or.inl (own_w hw 51 rfl)) Via.refl e191 (En9.2.2.ext f110.2) (g := (mkF m 21 #[.val (.int p1), .val (.ref x102), .val (.int (14 : Int32)), .val (.int (9 : Int32)), .val (.ref w9)] [(.ref w9)])) rfl rfl (hb hby d1_21)
                    have p202 : Go p.tables e below _ (T201.setTop (mkF m 24 #[.val (.int p1), .val (.ref x102), .val (.int (14 : Int32)), .val (.int (9 : Int32)), .val (.ref w9)] [(.int (71 : Int32))])) := fun t k => p200 t (st201 t k)
                    have p203 : Go p.tables e below _ (T201.setTop (mkF m 25 #[.val (.int p1), .val (.ref x102), .val (.int (14 : Int32)), .val (.int (9 : Int32)), .val (.ref w9)] [(.int p1), (.int (71 : Int32))])) := fun t k => p202 t (by
                      show Steps p.tables e below (T201.setTop (mkF m 24 #[.val (.int p1), .val (.ref x102), .val (.int (14 : Int32)), .val (.int (9 : Int32)), .val (.ref w9)] [(.int (71 : Int32))])) _
                      refine XS.iloadN X201.here hx rfl (hb hby d1_24) rfl ?_
                      show Steps p.tables e below (T201.setTop (mkF m 25 #[.val (.int p1), .val (.ref x102), .val (.int (14 : Int32)), .val (.int (9 : Int32)), .val (.ref w9)] [(.int p1), (.int (71 : Int32))])) _
                      exact k)
                    by_cases c204 : (71 : Int32) = p1
                    · have p205 : Go p.tables e below _ (T201.setTop (mkF m 28 #[.val (.int p1), .val (.ref x102), .val (.int (14 : Int32)), .val (.int (9 : Int32)), .val (.ref w9)] [])) := fun t k => p203 t (by
                        show Steps p.tables e below (T201.setTop (mkF m 25 #[.val (.int p1), .val (.ref x102), .val (.int (14 : Int32)), .val (.int (9 : Int32)), .val (.ref w9)] [(.int p1), (.int (71 : Int32))])) _
                        refine XS.icmpNo X201.here hx rfl (hb hby d1_25) rfl (teq c204).2 ?_
                        show Steps p.tables e below (T201.setTop (mkF m 28 #[.val (.int p1), .val (.ref x102), .val (.int (14 : Int32)), .val (.int (9 : Int32)), .val (.ref w9)] [])) _
                        exact k)
                      have p206 : Go p.tables e below _ (T201.setTop (mkF m 30 #[.val (.int p1), .val (.ref x102), .val (.int (14 : Int32)), .val (.int (9 : Int32)), .val (.ref w9)] [(.ref w9)])) := fun t k => p205 t (by
                        show Steps p.tables e below (T201.setTop (mkF m 28 #[.val (.int p1), .val (.ref x102), .val (.int (14 : Int32)), .val (.int (9 : Int32)), .val (.ref w9)] [])) _
                        refine XS.aload X201.here hx rfl (hb hby d1_28) rfl rfl ?_
                        show Steps p.tables e below (T201.setTop (mkF m 30 #[.val (.int p1), .val (.ref x102), .val (.int (14 : Int32)), .val (.int (9 : Int32)), .val (.ref w9)] [(.ref w9)])) _
                        exact k)
                      obtain ⟨fs, hr, hrun, hended, hW, hsame⟩ := X201.leave (v := some (.ref w9)) (fun h => by rw [Bd.returns] at h; cases h)
                      refine ⟨_, _, p206 _ (retOut X201 hx (w := (.ref w9)) (i := .areturn) Bd.returns rfl (Or.inr (Or.inr (Or.inr (Or.inr ⟨rfl, rfl, rfl⟩)))) (hb hby d1_30) hr), hrun, hended, _, _, rfl, ?_, ⟨_, rfl⟩, hW, hsame.mono (by decide) (by decide)⟩
                      show Q1 Z p1 w0 w1 w2 w3 w4 w5 w6 w7 w8 w9 w10 w11 w12 w13 wv kv h0 n0 _ T201.heap _
                      rw [e201]
                      exact ⟨by simp [own_fc, c114, c124, c134, c144, c154, c164, c174, c184, c194, c204], N101, K103⟩
                    · have p207 : Go p.tables e below _ (T201.setTop (mkF m 31 #[.val (.int p1), .val (.ref x102), .val (.int (14 : Int32)), .val (.int (9 : Int32)), .val (.ref w9)] [])) := fun t k => p203 t (by
                        show Steps p.tables e below (T201.setTop (mkF m 25 #[.val (.int p1), .val (.ref x102), .val (.int (14 : Int32)), .val (.int (9 : Int32)), .val (.ref w9)] [(.int p1), (.int (71 : Int32))])) _
                        refine XS.icmpYes X201.here hx rfl (pc0 := 25) (pc' := 31) rfl (hb hby d1_25) rfl (feq c204).2 (by decide) (by decide) ?_
                        show Steps p.tables e below (T201.setTop (mkF m 31 #[.val (.int p1), .val (.ref x102), .val (.int (14 : Int32)), .val (.int (9 : Int32)), .val (.ref w9)] [])) _
                        exact k)
                      have p208 : Go p.tables e below _ (T201.setTop (mkF m 16 #[.val (.int p1), .val (.ref x102), .val (.int (14 : Int32)), .val (.int (10 : Int32)), .val (.ref w9)] [(.int (10 : Int32)), (.ref x102)])) := fun t k => p207 t (by
                        show Steps p.tables e below (T201.setTop (mkF m 31 #[.val (.int p1), .val (.ref x102), .val (.int (14 : Int32)), .val (.int (9 : Int32)), .val (.ref w9)] [])) _
                        refine XS.iinc X201.here hx rfl (hb hby d1_31) rfl (l' := #[.val (.int p1), .val (.ref x102), .val (.int (14 : Int32)), .val (.int (10 : Int32)), .val (.ref w9)]) rfl ?_
                        show Steps p.tables e below (T201.setTop (mkF m 34 #[.val (.int p1), .val (.ref x102), .val (.int (14 : Int32)), .val (.int (10 : Int32)), .val (.ref w9)] [])) _
                        refine XS.goto X201.here hx rfl (pc0 := 34) (pc' := 9) rfl (hb hby d1_34) (by decide) (by decide) ?_
                        show Steps p.tables e below (T201.setTop (mkF m 9 #[.val (.int p1), .val (.ref x102), .val (.int (14 : Int32)), .val (.int (10 : Int32)), .val (.ref w9)] [])) _
                        refine XS.iloadN X201.here hx rfl (hb hby d1_9) rfl ?_
                        show Steps p.tables e below (T201.setTop (mkF m 10 #[.val (.int p1), .val (.ref x102), .val (.int (14 : Int32)), .val (.int (10 : Int32)), .val (.ref w9)] [(.int (10 : Int32))])) _
                        refine XS.iloadN X201.here hx rfl (hb hby d1_10) rfl ?_
                        show Steps p.tables e below (T201.setTop (mkF m 11 #[.val (.int p1), .val (.ref x102), .val (.int (14 : Int32)), .val (.int (10 : Int32)), .val (.ref w9)] [(.int (14 : Int32)), (.int (10 : Int32))])) _
                        refine XS.icmpNo X201.here hx rfl (hb hby d1_11) rfl (tlt (by decide : ((10 : Int32) < (14 : Int32)))).2.1 ?_
                        show Steps p.tables e below (T201.setTop (mkF m 14 #[.val (.int p1), .val (.ref x102), .val (.int (14 : Int32)), .val (.int (10 : Int32)), .val (.ref w9)] [])) _
                        refine XS.aloadN X201.here hx rfl (hb hby d1_14) rfl rfl ?_
                        show Steps p.tables e below (T201.setTop (mkF m 15 #[.val (.int p1), .val (.ref x102), .val (.int (14 : Int32)), .val (.int (10 : Int32)), .val (.ref w9)] [(.ref x102)])) _
                        refine XS.iloadN X201.here hx rfl (hb hby d1_15) rfl ?_
                        show Steps p.tables e below (T201.setTop (mkF m 16 #[.val (.int p1), .val (.ref x102), .val (.int (14 : Int32)), .val (.int (10 : Int32)), .val (.ref w9)] [(.int (10 : Int32)), (.ref x102)])) _
                        exact k)
                      obtain ⟨cl209, Ar209, q209, S209, Ng209, H209, G209⟩ := id q101_V
                      have hin209 := inb_of S209 (j := (10 : Int32)) ⟨by decide, by decide⟩
                      have hat209 := H209.at (v := (.ref w10)) hin209 rfl
                      have p210 : Go p.tables e below _ (T201.setTop (mkF m 21 #[.val (.int p1), .val (.ref x102), .val (.int (14 : Int32)), .val (.int (10 : Int32)), .val (.ref w10)] [(.ref w10)])) := fun t k => p208 t (by
                        show Steps p.tables e below (T201.setTop (mkF m 16 #[.val (.int p1), .val (.ref x102), .val (.int (14 : Int32)), .val (.int (10 : Int32)), .val (.ref w9)] [(.int (10 : Int32)), (.ref x102)])) _
                        refine X201.aaload hx (j := (10 : Int32)) (v := (.ref w10)) (by rw [e201]; exact Ar209.1) (State.isArrayOf_alike hZ.alike Ar209.2.1) rfl Ar209.2.2 hin209 hat209 (g := (mkF m 16 #[.val (.int p1), .val (.ref x102), .val (.int (14 : Int32)), .val (.int (10 : Int32)), .val (.ref w9)] [(.int (10 : Int32)), (.ref x102)])) rfl rfl (hb hby d1_16) _ ?_
                        show Steps p.tables e below (T201.setTop (mkF m 17 #[.val (.int p1), .val (.ref x102), .val (.int (14 : Int32)), .val (.int (10 : Int32)), .val (.ref w9)] [(.ref w10)])) _
                        refine XS.astore X201.here hx rfl (hb hby d1_17) rfl rfl (l' := #[.val (.int p1), .val (.ref x102), .val (.int (14 : Int32)), .val (.int (10 : Int32)), .val (.ref w10)]) rfl ?_
                        show Steps p.tables e below (T201.setTop (mkF m 19 #[.val (.int p1), .val (.ref x102), .val (.int (14 : Int32)), .val (.int (10 : Int32)), .val (.ref w10)] [])) _
                        refine XS.aload X201.here hx rfl (hb hby d1_19) rfl rfl ?_
                        show Steps p.tables e below (T201.setTop (mkF m 21 #[.val (.int p1), .val (.ref x102), .val (.int (14 : Int32)), .val (.int (10 : Int32)), .val (.ref w10)] [(.ref w10)])) _
                        exact k)
                      obtain ⟨T211, X211, e211, st211⟩ := getF X201 hx hZ hown (host := "") (Or.inl (own_w hw 51 rfl)) Via.refl e201 (En10.2.2.ext f110.2) (g := (mkF m 21 #[.val (.int p1), .val (.ref x102), .val (.int (14 : Int32)), .val (.int (10 : Int32)), .val (.ref w10)] [(.ref w10)])) rfl rfl (hb hby d1_21)
                      have p212 : Go p.tables e below _ (T211.setTop (mkF m 24 #[.val (.int p1), .val (.ref x102), .val (.int (14 : Int32)), .val (.int (10 : Int32)), .val (.ref w10)] [(.int (72 : Int32))])) := fun t k => p210 t (st211 t k)
                      have p213 : Go p.tables e below _ (T211.setTop (mkF m 25 #[.val (.int p1), .val (.ref x102), .val (.int (14 : Int32)), .val (.int (10 : Int32)), .val (.ref w10)] [(.int p1), (.int (72 : Int32))])) := fun t k => p212 t (by
                        show Steps p.tables e below (T211.setTop (mkF m 24 #[.val (.int p1), .val (.ref x102), .val (.int (14 : Int32)), .val (.int (10 : Int32)), .val (.ref w10)] [(.int (72 : Int32))])) _
                        refine XS.iloadN X211.here hx rfl (hb hby d1_24) rfl ?_
                        show Steps p.tables e below (T211.setTop (mkF m 25 #[.val (.int p1), .val (.ref x102), .val (.int (14 : Int32)), .val (.int (10 : Int32)), .val (.ref w10)] [(.int p1), (.int (72 : Int32))])) _
                        exact k)
                      by_cases c214 : (72 : Int32) = p1
                      · have p215 : Go p.tables e below _ (T211.setTop (mkF m 28 #[.val (.int p1), .val (.ref x102), .val (.int (14 : Int32)), .val (.int (10 : Int32)), .val (.ref w10)] [])) := fun t k => p213 t (by
                          show Steps p.tables e below (T211.setTop (mkF m 25 #[.val (.int p1), .val (.ref x102), .val (.int (14 : Int32)), .val (.int (10 : Int32)), .val (.ref w10)] [(.int p1), (.int (72 : Int32))])) _
                          refine XS.icmpNo X211.here hx rfl (hb hby d1_25) rfl (teq c214).2 ?_
                          show Steps p.tables e below (T211.setTop (mkF m 28 #[.val (.int p1), .val (.ref x102), .val (.int (14 : Int32)), .val (.int (10 : Int32)), .val (.ref w10)] [])) _
                          exact k)
                        have p216 : Go p.tables e below _ (T211.setTop (mkF m 30 #[.val (.int p1), .val (.ref x102), .val (.int (14 : Int32)), .val (.int (10 : Int32)), .val (.ref w10)] [(.ref w10)])) := fun t k => p215 t (by
                          show Steps p.tables e below (T211.setTop (mkF m 28 #[.val (.int p1), .val (.ref x102), .val (.int (14 : Int32)), .val (.int (10 : Int32)), .val (.ref w10)] [])) _
                          refine XS.aload X211.here hx rfl (hb hby d1_28) rfl rfl ?_
                          show Steps p.tables e below (T211.setTop (mkF m 30 #[.val (.int p1), .val (.ref x102), .val (.int (14 : Int32)), .val (.int (10 : Int32)), .val (.ref w10)] [(.ref w10)])) _
                          exact k)
                        obtain ⟨fs, hr, hrun, hended, hW, hsame⟩ := X211.leave (v := some (.ref w10)) (fun h => by rw [Bd.returns] at h; cases h)
                        refine ⟨_, _, p216 _ (retOut X211 hx (w := (.ref w10)) (i := .areturn) Bd.returns rfl (Or.inr (Or.inr (Or.inr (Or.inr ⟨rfl, rfl, rfl⟩)))) (hb hby d1_30) hr), hrun, hended, _, _, rfl, ?_, ⟨_, rfl⟩, hW, hsame.mono (by decide) (by decide)⟩
                        show Q1 Z p1 w0 w1 w2 w3 w4 w5 w6 w7 w8 w9 w10 w11 w12 w13 wv kv h0 n0 _ T211.heap _
                        rw [e211]
                        exact ⟨by simp [own_fc, c114, c124, c134, c144, c154, c164, c174, c184, c194, c204, c214], N101, K103⟩
                      · have p217 : Go p.tables e below _ (T211.setTop (mkF m 31 #[.val (.int p1), .val (.ref x102), .val (.int (14 : Int32)), .val (.int (10 : Int32)), .val (.ref w10)] [])) := fun t k => p213 t (by
                          show Steps p.tables e below (T211.setTop (mkF m 25 #[.val (.int p1), .val (.ref x102), .val (.int (14 : Int32)), .val (.int (10 : Int32)), .val (.ref w10)] [(.int p1), (.int (72 : Int32))])) _
                          refine XS.icmpYes X211.here hx rfl (pc0 := 25) (pc' := 31) rfl (hb hby d1_25) rfl (feq c214).2 (by decide) (by decide) ?_
                          show Steps p.tables e below (T211.setTop (mkF m 31 #[.val (.int p1), .val (.ref x102), .val (.int (14 : Int32)), .val (.int (10 : Int32)), .val (.ref w10)] [])) _
                          exact k)
                        have p218 : Go p.tables e below _ (T211.setTop (mkF m 16 #[.val (.int p1), .val (.ref x102), .val (.int (14 : Int32)), .val (.int (11 : Int32)), .val (.ref w10)] [(.int (11 : Int32)), (.ref x102)])) := fun t k => p217 t (by
                          show Steps p.tables e below (T211.setTop (mkF m 31 #[.val (.int p1), .val (.ref x102), .val (.int (14 : Int32)), .val (.int (10 : Int32)), .val (.ref w10)] [])) _
                          refine XS.iinc X211.here hx rfl (hb hby d1_31) rfl (l' := #[.val (.int p1), .val (.ref x102), .val (.int (14 : Int32)), .val (.int (11 : Int32)), .val (.ref w10)]) rfl ?_
                          show Steps p.tables e below (T211.setTop (mkF m 34 #[.val (.int p1), .val (.ref x102), .val (.int (14 : Int32)), .val (.int (11 : Int32)), .val (.ref w10)] [])) _
                          refine XS.goto X211.here hx rfl (pc0 := 34) (pc' := 9) rfl (hb hby d1_34) (by decide) (by decide) ?_
                          show Steps p.tables e below (T211.setTop (mkF m 9 #[.val (.int p1), .val (.ref x102), .val (.int (14 : Int32)), .val (.int (11 : Int32)), .val (.ref w10)] [])) _
                          refine XS.iloadN X211.here hx rfl (hb hby d1_9) rfl ?_
                          show Steps p.tables e below (T211.setTop (mkF m 10 #[.val (.int p1), .val (.ref x102), .val (.int (14 : Int32)), .val (.int (11 : Int32)), .val (.ref w10)] [(.int (11 : Int32))])) _
                          refine XS.iloadN X211.here hx rfl (hb hby d1_10) rfl ?_
                          show Steps p.tables e below (T211.setTop (mkF m 11 #[.val (.int p1), .val (.ref x102), .val (.int (14 : Int32)), .val (.int (11 : Int32)), .val (.ref w10)] [(.int (14 : Int32)), (.int (11 : Int32))])) _
                          refine XS.icmpNo X211.here hx rfl (hb hby d1_11) rfl (tlt (by decide : ((11 : Int32) < (14 : Int32)))).2.1 ?_
                          show Steps p.tables e below (T211.setTop (mkF m 14 #[.val (.int p1), .val (.ref x102), .val (.int (14 : Int32)), .val (.int (11 : Int32)), .val (.ref w10)] [])) _
                          refine XS.aloadN X211.here hx rfl (hb hby d1_14) rfl rfl ?_
                          show Steps p.tables e below (T211.setTop (mkF m 15 #[.val (.int p1), .val (.ref x102), .val (.int (14 : Int32)), .val (.int (11 : Int32)), .val (.ref w10)] [(.ref x102)])) _
                          refine XS.iloadN X211.here hx rfl (hb hby d1_15) rfl ?_
                          show Steps p.tables e below (T211.setTop (mkF m 16 #[.val (.int p1), .val (.ref x102), .val (.int (14 : Int32)), .val (.int (11 : Int32)), .val (.ref w10)] [(.int (11 : Int32)), (.ref x102)])) _
                          exact k)
                        obtain ⟨cl219, Ar219, q219, S219, Ng219, H219, G219⟩ := id q101_V
                        have hin219 := inb_of S219 (j := (11 : Int32)) ⟨by decide, by decide⟩
                        have hat219 := H219.at (v := (.ref w11)) hin219 rfl
                        have p220 : Go p.tables e below _ (T211.setTop (mkF m 21 #[.val (.int p1), .val (.ref x102), .val (.int (14 : Int32)), .val (.int (11 : Int32)), .val (.ref w11)] [(.ref w11)])) := fun t k => p218 t (by
                          show Steps p.tables e below (T211.setTop (mkF m 16 #[.val (.int p1), .val (.ref x102), .val (.int (14 : Int32)), .val (.int (11 : Int32)), .val (.ref w10)] [(.int (11 : Int32)), (.ref x102)])) _
                          refine X211.aaload hx (j := (11 : Int32)) (v := (.ref w11)) (by rw [e211]; exact Ar219.1) (State.isArrayOf_alike hZ.alike Ar219.2.1) rfl Ar219.2.2 hin219 hat219 (g := (mkF m 16 #[.val (.int p1), .val (.ref x102), .val (.int (14 : Int32)), .val (.int (11 : Int32)), .val (.ref w10)] [(.int (11 : Int32)), (.ref x102)])) rfl rfl (hb hby d1_16) _ ?_
                          show Steps p.tables e below (T211.setTop (mkF m 17 #[.val (.int p1), .val (.ref x102), .val (.int (14 : Int32)), .val (.int (11 : Int32)), .val (.ref w10)] [(.ref w11)])) _
                          refine XS.astore X211.here hx rfl (hb hby d1_17) rfl rfl (l' := #[.val (.int p1), .val (.ref x102), .val (.int (14 : Int32)), .val (.int (11 : Int32)), .val (.ref w11)]) rfl ?_
                          show Steps p.tables e below (T211.setTop (mkF m 19 #[.val (.int p1), .val (.ref x102), .val (.int (14 : Int32)), .val (.int (11 : Int32)), .val (.ref w11)] [])) _
                          refine XS.aload X211.here hx rfl (hb hby d1_19) rfl rfl ?_
                          show Steps p.tables e below (T211.setTop (mkF m 21 #[.val (.int p1), .val (.ref x102), .val (.int (14 : Int32)), .val (.int (11 : Int32)), .val (.ref w11)] [(.ref w11)])) _
                          exact k)
                        obtain ⟨T221, X221, e221, st221⟩ := getF X211 hx hZ hown (host := "") (Or.inl (own_w hw 51 rfl)) Via.refl e211 (En11.2.2.ext f110.2) (g := (mkF m 21 #[.val (.int p1), .val (.ref x102), .val (.int (14 : Int32)), .val (.int (11 : Int32)), .val (.ref w11)] [(.ref w11)])) rfl rfl (hb hby d1_21)
                        have p222 : Go p.tables e below _ (T221.setTop (mkF m 24 #[.val (.int p1), .val (.ref x102), .val (.int (14 : Int32)), .val (.int (11 : Int32)), .val (.ref w11)] [(.int (75 : Int32))])) := fun t k => p220 t (st221 t k)
                        have p223 : Go p.tables e below _ (T221.setTop (mkF m 25 #[.val (.int p1), .val (.ref x102), .val (.int (14 : Int32)), .val (.int (11 : Int32)), .val (.ref w11)] [(.int p1), (.int (75 : Int32))])) := fun t k => p222 t (by
                          show Steps p.tables e below (T221.setTop (mkF m 24 #[.val (.int p1), .val (.ref x102), .val (.int (14 : Int32)), .val (.int (11 : Int32)), .val (.ref w11)] [(.int (75 : Int32))])) _
                          refine XS.iloadN X221.here hx rfl (hb hby d1_24) rfl ?_
                          show Steps p.tables e below (T221.setTop (mkF m 25 #[.val (.int p1), .val (.ref x102), .val (.int (14 : Int32)), .val (.int (11 : Int32)), .val (.ref w11)] [(.int p1), (.int (75 : Int32))])) _
                          exact k)
                        by_cases c224 : (75 : Int32) = p1
                        · have p225 : Go p.tables e below _ (T221.setTop (mkF m 28 #[.val (.int p1), .val (.ref x102), .val (.int (14 : Int32)), .val (.int (11 : Int32)), .val (.ref w11)] [])) := fun t k => p223 t (by
                            show Steps p.tables e below (T221.setTop (mkF m 25 #[.val (.int p1), .val (.ref x102), .val (.int (14 : Int32)), .val (.int (11 : Int32)), .val (.ref w11)] [(.int p1), (.int (75 : Int32))])) _
                            refine XS.icmpNo X221.here hx rfl (hb hby d1_25) rfl (teq c224).2 ?_
                            show Steps p.tables e below (T221.setTop (mkF m 28 #[.val (.int p1), .val (.ref x102), .val (.int (14 : Int32)), .val (.int (11 : Int32)), .val (.ref w11)] [])) _
                            exact k)
                          have p226 : Go p.tables e below _ (T221.setTop (mkF m 30 #[.val (.int p1), .val (.ref x102), .val (.int (14 : Int32)), .val (.int (11 : Int32)), .val (.ref w11)] [(.ref w11)])) := fun t k => p225 t (by
                            show Steps p.tables e below (T221.setTop (mkF m 28 #[.val (.int p1), .val (.ref x102), .val (.int (14 : Int32)), .val (.int (11 : Int32)), .val (.ref w11)] [])) _
                            refine XS.aload X221.here hx rfl (hb hby d1_28) rfl rfl ?_
                            show Steps p.tables e below (T221.setTop (mkF m 30 #[.val (.int p1), .val (.ref x102), .val (.int (14 : Int32)), .val (.int (11 : Int32)), .val (.ref w11)] [(.ref w11)])) _
                            exact k)
                          obtain ⟨fs, hr, hrun, hended, hW, hsame⟩ := X221.leave (v := some (.ref w11)) (fun h => by rw [Bd.returns] at h; cases h)
                          refine ⟨_, _, p226 _ (retOut X221 hx (w := (.ref w11)) (i := .areturn) Bd.returns rfl (Or.inr (Or.inr (Or.inr (Or.inr ⟨rfl, rfl, rfl⟩)))) (hb hby d1_30) hr), hrun, hended, _, _, rfl, ?_, ⟨_, rfl⟩, hW, hsame.mono (by decide) (by decide)⟩
                          show Q1 Z p1 w0 w1 w2 w3 w4 w5 w6 w7 w8 w9 w10 w11 w12 w13 wv kv h0 n0 _ T221.heap _
                          rw [e221]
                          exact ⟨by simp [own_fc, c114, c124, c134, c144, c154, c164, c174, c184, c194, c204, c214, c224], N101, K103⟩
                        · have p227 : Go p.tables e below _ (T221.setTop (mkF m 31 #[.val (.int p1), .val (.ref x102), .val (.int (14 : Int32)), .val (.int (11 : Int32)), .val (.ref w11)] [])) := fun t k => p223 t (by
                            show Steps p.tables e below (T221.setTop (mkF m 25 #[.val (.int p1), .val (.ref x102), .val (.int (14 : Int32)), .val (.int (11 : Int32)), .val (.ref w11)] [(.int p1), (.int (75 : Int32))])) _
                            refine XS.icmpYes X221.here hx rfl (pc0 := 25) (pc' := 31) rfl (hb hby d1_25) rfl (feq c224).2 (by decide) (by decide) ?_
                            show Steps p.tables e below (T221.setTop (mkF m 31 #[.val (.int p1), .val (.ref x102), .val (.int (14 : Int32)), .val (.int (11 : Int32)), .val (.ref w11)] [])) _
                            exact k)
                          have p228 : Go p.tables e below _ (T221.setTop (mkF m 16 #[.val (.int p1), .val (.ref x102), .val (.int (14 : Int32)), .val (.int (12 : Int32)), .val (.ref w11)] [(.int (12 : Int32)), (.ref x102)])) := fun t k => p227 t (by
                            show Steps p.tables e below (T221.setTop (mkF m 31 #[.val (.int p1), .val (.ref x102), .val (.int (14 : Int32)), .val (.int (11 : Int32)), .val (.ref w11)] [])) _
                            refine XS.iinc X221.here hx rfl (hb hby d1_31) rfl (l' := #[.val (.int p1), .val (.ref x102), .val (.int (14 : Int32)), .val (.int (12 : Int32)), .val (.ref w11)]) rfl ?_
                            show Steps p.tables e below (T221.setTop (mkF m 34 #[.val (.int p1), .val (.ref x102), .val (.int (14 : Int32)), .val (.int (12 : Int32)), .val (.ref w11)] [])) _
                            refine XS.goto X221.here hx rfl (pc0 := 34) (pc' := 9) rfl (hb hby d1_34) (by decide) (by decide) ?_
                            show Steps p.tables e below (T221.setTop (mkF m 9 #[.val (.int p1), .val (.ref x102), .val (.int (14 : Int32)), .val (.int (12 : Int32)), .val (.ref w11)] [])) _
                            refine XS.iloadN X221.here hx rfl (hb hby d1_9) rfl ?_
                            show Steps p.tables e below (T221.setTop (mkF m 10 #[.val (.int p1), .val (.ref x102), .val (.int (14 : Int32)), .val (.int (12 : Int32)), .val (.ref w11)] [(.int (12 : Int32))])) _
                            refine XS.iloadN X221.here hx rfl (hb hby d1_10) rfl ?_
                            show Steps p.tables e below (T221.setTop (mkF m 11 #[.val (.int p1), .val (.ref x102), .val (.int (14 : Int32)), .val (.int (12 : Int32)), .val (.ref w11)] [(.int (14 : Int32)), (.int (12 : Int32))])) _
                            refine XS.icmpNo X221.here hx rfl (hb hby d1_11) rfl (tlt (by decide : ((12 : Int32) < (14 : Int32)))).2.1 ?_
                            show Steps p.tables e below (T221.setTop (mkF m 14 #[.val (.int p1), .val (.ref x102), .val (.int (14 : Int32)), .val (.int (12 : Int32)), .val (.ref w11)] [])) _
                            refine XS.aloadN X221.here hx rfl (hb hby d1_14) rfl rfl ?_
                            show Steps p.tables e below (T221.setTop (mkF m 15 #[.val (.int p1), .val (.ref x102), .val (.int (14 : Int32)), .val (.int (12 : Int32)), .val (.ref w11)] [(.ref x102)])) _
                            refine XS.iloadN X221.here hx rfl (hb hby d1_15) rfl ?_
                            show Steps p.tables e below (T221.setTop (mkF m 16 #[.val (.int p1), .val (.ref x102), .val (.int (14 : Int32)), .val (.int (12 : Int32)), .val (.ref w11)] [(.int (12 : Int32)), (.ref x102)])) _
                            exact k)
                          obtain ⟨cl229, Ar229, q229, S229, Ng229, H229, G229⟩ := id q101_V
                          have hin229 := inb_of S229 (j := (12 : Int32)) ⟨by decide, by decide⟩
                          have hat229 := H229.at (v := (.ref w12)) hin229 rfl
                          have p230 : Go p.tables e below _ (T221.setTop (mkF m 21 #[.val (.int p1), .val (.ref x102), .val (.int (14 : Int32)), .val (.int (12 : Int32)), .val (.ref w12)] [(.ref w12)])) := fun t k => p228 t (by
                            show Steps p.tables e below (T221.setTop (mkF m 16 #[.val (.int p1), .val (.ref x102), .val (.int (14 : Int32)), .val (.int (12 : Int32)), .val (.ref w11)] [(.int (12 : Int32)), (.ref x102)])) _
                            refine X221.aaload hx (j := (12 : Int32)) (v := (.ref w12)) (by rw [e221]; exact Ar229.1) (State.isArrayOf_alike hZ.alike Ar229.2.1) rfl Ar229.2.2 hin229 hat229 (g := (mkF m 16 #[.val (.int p1), .val (.ref x102), .val (.int (14 : Int32)), .val (.int (12 : Int32)), .val (.ref w11)] [(.int (12 : Int32)), (.ref x102)])) rfl rfl (hb hby d1_16) _ ?_
                            show Steps p.tables e below (T221.setTop (mkF m 17 #[.val (.int p1), .val (.ref x102), .val (.int (14 : Int32)), .val (.int (12 : Int32)), .val (.ref w11)] [(.ref w12)])) _
                            refine XS.astore X221.here hx rfl (hb hby d1_17) rfl rfl (l' := #[.val (.int p1), .val (.ref x102), .val (.int (14 : Int32)), .val (.int (12 : Int32)), .val (.ref w12)]) rfl ?_
                            show Steps p.tables e below (T221.setTop (mkF m 19 #[.val (.int p1), .val (.ref x102), .val (.int (14 : Int32)), .val (.int (12 : Int32)), .val (.ref w12)] [])) _
                            refine XS.aload X221.here hx rfl (hb hby d1_19) rfl rfl ?_
                            show Steps p.tables e below (T221.setTop (mkF m 21 #[.val (.int p1), .val (.ref x102), .val (.int (14 : Int32)), .val (.int (12 : Int32)), .val (.ref w12)] [(.ref w12)])) _
                            exact k)
                          obtain ⟨T231, X231, e231, st231⟩ := getF X221 hx hZ hown (host := "") (Or.inl (own_w hw 51 rfl)) Via.refl e221 (En12.2.2.ext f110.2) (g := (mkF m 21 #[.val (.int p1), .val (.ref x102), .val (.int (14 : Int32)), .val (.int (12 : Int32)), .val (.ref w12)] [(.ref w12)])) rfl rfl (hb hby d1_21)
                          have p232 : Go p.tables e below _ (T231.setTop (mkF m 24 #[.val (.int p1), .val (.ref x102), .val (.int (14 : Int32)), .val (.int (12 : Int32)), .val (.ref w12)] [(.int (254 : Int32))])) := fun t k => p230 t (st231 t k)
                          have p233 : Go p.tables e below _ (T231.setTop (mkF m 25 #[.val (.int p1), .val (.ref x102), .val (.int (14 : Int32)), .val (.int (12 : Int32)), .val (.ref w12)] [(.int p1), (.int (254 : Int32))])) := fun t k => p232 t (by
                            show Steps p.tables e below (T231.setTop (mkF m 24 #[.val (.int p1), .val (.ref x102), .val (.int (14 : Int32)), .val (.int (12 : Int32)), .val (.ref w12)] [(.int (254 : Int32))])) _
                            refine XS.iloadN X231.here hx rfl (hb hby d1_24) rfl ?_
                            show Steps p.tables e below (T231.setTop (mkF m 25 #[.val (.int p1), .val (.ref x102), .val (.int (14 : Int32)), .val (.int (12 : Int32)), .val (.ref w12)] [(.int p1), (.int (254 : Int32))])) _
                            exact k)
                          by_cases c234 : (254 : Int32) = p1
                          · have p235 : Go p.tables e below _ (T231.setTop (mkF m 28 #[.val (.int p1), .val (.ref x102), .val (.int (14 : Int32)), .val (.int (12 : Int32)), .val (.ref w12)] [])) := fun t k => p233 t (by
                              show Steps p.tables e below (T231.setTop (mkF m 25 #[.val (.int p1), .val (.ref x102), .val (.int (14 : Int32)), .val (.int (12 : Int32)), .val (.ref w12)] [(.int p1), (.int (254 : Int32))])) _
                              refine XS.icmpNo X231.here hx rfl (hb hby d1_25) rfl (teq c234).2 ?_
                              show Steps p.tables e below (T231.setTop (mkF m 28 #[.val (.int p1), .val (.ref x102), .val (.int (14 : Int32)), .val (.int (12 : Int32)), .val (.ref w12)] [])) _
                              exact k)
                            have p236 : Go p.tables e below _ (T231.setTop (mkF m 30 #[.val (.int p1), .val (.ref x102), .val (.int (14 : Int32)), .val (.int (12 : Int32)), .val (.ref w12)] [(.ref w12)])) := fun t k => p235 t (by
                              show Steps p.tables e below (T231.setTop (mkF m 28 #[.val (.int p1), .val (.ref x102), .val (.int (14 : Int32)), .val (.int (12 : Int32)), .val (.ref w12)] [])) _
                              refine XS.aload X231.here hx rfl (hb hby d1_28) rfl rfl ?_
                              show Steps p.tables e below (T231.setTop (mkF m 30 #[.val (.int p1), .val (.ref x102), .val (.int (14 : Int32)), .val (.int (12 : Int32)), .val (.ref w12)] [(.ref w12)])) _
                              exact k)
                            obtain ⟨fs, hr, hrun, hended, hW, hsame⟩ := X231.leave (v := some (.ref w12)) (fun h => by rw [Bd.returns] at h; cases h)
                            refine ⟨_, _, p236 _ (retOut X231 hx (w := (.ref w12)) (i := .areturn) Bd.returns rfl (Or.inr (Or.inr (Or.inr (Or.inr ⟨rfl, rfl, rfl⟩)))) (hb hby d1_30) hr), hrun, hended, _, _, rfl, ?_, ⟨_, rfl⟩, hW, hsame.mono (by decide) (by decide)⟩
                            show Q1 Z p1 w0 w1 w2 w3 w4 w5 w6 w7 w8 w9 w10 w11 w12 w13 wv kv h0 n0 _ T231.heap _
                            rw [e231]
                            exact ⟨by simp [own_fc, c114, c124, c134, c144, c154, c164, c174, c184, c194, c204, c214, c224, c234], N101, K103⟩
                          · have p237 : Go p.tables e below _ (T231.setTop (mkF m 31 #[.val (.int p1), .val (.ref x102), .val (.int (14 : Int32)), .val (.int (12 : Int32)), .val (.ref w12)] [])) := fun t k => p233 t (by
                              show Steps p.tables e below (T231.setTop (mkF m 25 #[.val (.int p1), .val (.ref x102), .val (.int (14 : Int32)), .val (.int (12 : Int32)), .val (.ref w12)] [(.int p1), (.int (254 : Int32))])) _
                              refine XS.icmpYes X231.here hx rfl (pc0 := 25) (pc' := 31) rfl (hb hby d1_25) rfl (feq c234).2 (by decide) (by decide) ?_
                              show Steps p.tables e below (T231.setTop (mkF m 31 #[.val (.int p1), .val (.ref x102), .val (.int (14 : Int32)), .val (.int (12 : Int32)), .val (.ref w12)] [])) _
                              exact k)
                            have p238 : Go p.tables e below _ (T231.setTop (mkF m 16 #[.val (.int p1), .val (.ref x102), .val (.int (14 : Int32)), .val (.int (13 : Int32)), .val (.ref w12)] [(.int (13 : Int32)), (.ref x102)])) := fun t k => p237 t (by
                              show Steps p.tables e below (T231.setTop (mkF m 31 #[.val (.int p1), .val (.ref x102), .val (.int (14 : Int32)), .val (.int (12 : Int32)), .val (.ref w12)] [])) _
                              refine XS.iinc X231.here hx rfl (hb hby d1_31) rfl (l' := #[.val (.int p1), .val (.ref x102), .val (.int (14 : Int32)), .val (.int (13 : Int32)), .val (.ref w12)]) rfl ?_
                              show Steps p.tables e below (T231.setTop (mkF m 34 #[.val (.int p1), .val (.ref x102), .val (.int (14 : Int32)), .val (.int (13 : Int32)), .val (.ref w12)] [])) _
                              refine XS.goto X231.here hx rfl (pc0 := 34) (pc' := 9) rfl (hb hby d1_34) (by decide) (by decide) ?_
                              show Steps p.tables e below (T231.setTop (mkF m 9 #[.val (.int p1), .val (.ref x102), .val (.int (14 : Int32)), .val (.int (13 : Int32)), .val (.ref w12)] [])) _
                              refine XS.iloadN X231.here hx rfl (hb hby d1_9) rfl ?_
                              show Steps p.tables e below (T231.setTop (mkF m 10 #[.val (.int p1), .val (.ref x102), .val (.int (14 : Int32)), .val (.int (13 : Int32)), .val (.ref w12)] [(.int (13 : Int32))])) _
                              refine XS.iloadN X231.here hx rfl (hb hby d1_10) rfl ?_
                              show Steps p.tables e below (T231.setTop (mkF m 11 #[.val (.int p1), .val (.ref x102), .val (.int (14 : Int32)), .val (.int (13 : Int32)), .val (.ref w12)] [(.int (14 : Int32)), (.int (13 : Int32))])) _
                              refine XS.icmpNo X231.here hx rfl (hb hby d1_11) rfl (tlt (by decide : ((13 : Int32) < (14 : Int32)))).2.1 ?_
                              show Steps p.tables e below (T231.setTop (mkF m 14 #[.val (.int p1), .val (.ref x102), .val (.int (14 : Int32)), .val (.int (13 : Int32)), .val (.ref w12)] [])) _
                              refine XS.aloadN X231.here hx rfl (hb hby d1_14) rfl rfl ?_
                              show Steps p.tables e below (T231.setTop (mkF m 15 #[.val (.int p1), .val (.ref x102), .val (.int (14 : Int32)), .val (.int (13 : Int32)), .val (.ref w12)] [(.ref x102)])) _
                              refine XS.iloadN X231.here hx rfl (hb hby d1_15) rfl ?_
                              show Steps p.tables e below (T231.setTop (mkF m 16 #[.val (.int p1), .val (.ref x102), .val (.int (14 : Int32)), .val (.int (13 : Int32)), .val (.ref w12)] [(.int (13 : Int32)), (.ref x102)])) _
                              exact k)
                            obtain ⟨cl239, Ar239, q239, S239, Ng239, H239, G239⟩ := id q101_V
                            have hin239 := inb_of S239 (j := (13 : Int32)) ⟨by decide, by decide⟩
                            have hat239 := H239.at (v := (.ref w13)) hin239 rfl
                            have p240 : Go p.tables e below _ (T231.setTop (mkF m 21 #[.val (.int p1), .val (.ref x102), .val (.int (14 : Int32)), .val (.int (13 : Int32)), .val (.ref w13)] [(.ref w13)])) := fun t k => p238 t (by
                              show Steps p.tables e below (T231.setTop (mkF m 16 #[.val (.int p1), .val (.ref x102), .val (.int (14 : Int32)), .val (.int (13 : Int32)), .val (.ref w12)] [(.int (13 : Int32)), (.ref x102)])) _
                              refine X231.aaload hx (j := (13 : Int32)) (v := (.ref w13)) (by rw [e231]; exact Ar239.1) (State.isArrayOf_alike hZ.alike Ar239.2.1) rfl Ar239.2.2 hin239 hat239 (g := (mkF m 16 #[.val (.int p1), .val (.ref x102), .val (.int (14 : Int32)), .val (.int (13 : Int32)), .val (.ref w12)] [(.int (13 : Int32)), (.ref x102)])) rfl rfl (hb hby d1_16) _ ?_
                              show Steps p.tables e below (T231.setTop (mkF m 17 #[.val (.int p1), .val (.ref x102), .val (.int (14 : Int32)), .val (.int (13 : Int32)), .val (.ref w12)] [(.ref w13)])) _
                              refine XS.astore X231.here hx rfl (hb hby d1_17) rfl rfl (l' := #[.val (.int p1), .val (.ref x102), .val (.int (14 : Int32)), .val (.int (13 : Int32)), .val (.ref w13)]) rfl ?_
                              show Steps p.tables e below (T231.setTop (mkF m 19 #[.val (.int p1), .val (.ref x102), .val (.int (14 : Int32)), .val (.int (13 : Int32)), .val (.ref w13)] [])) _
                              refine XS.aload X231.here hx rfl (hb hby d1_19) rfl rfl ?_
                              show Steps p.tables e below (T231.setTop (mkF m 21 #[.val (.int p1), .val (.ref x102), .val (.int (14 : Int32)), .val (.int (13 : Int32)), .val (.ref w13)] [(.ref w13)])) _
                              exact k)
                            obtain ⟨T241, X241, e241, st241⟩ := getF X231 hx hZ hown (host := "") (Or.inl (own_w hw 51 rfl)) Via.refl e231 (En13.2.2.ext f110.2) (g := (mkF m 21 #[.val (.int p1), .val (.ref x102), .val (.int (14 : Int32)), .val (.int (13 : Int32)), .val (.ref w13)] [(.ref w13)])) rfl rfl (hb hby d1_21)
                            have p242 : Go p.tables e below _ (T241.setTop (mkF m 24 #[.val (.int p1), .val (.ref x102), .val (.int (14 : Int32)), .val (.int (13 : Int32)), .val (.ref w13)] [(.int (-1 : Int32))])) := fun t k => p240 t (st241 t k)
                            have p243 : Go p.tables e below _ (T241.setTop (mkF m 25 #[.val (.int p1), .val (.ref x102), .val (.int (14 : Int32)), .val (.int (13 : Int32)), .val (.ref w13)] [(.int p1), (.int (-1 : Int32))])) := fun t k => p242 t (by
                              show Steps p.tables e below (T241.setTop (mkF m 24 #[.val (.int p1), .val (.ref x102), .val (.int (14 : Int32)), .val (.int (13 : Int32)), .val (.ref w13)] [(.int (-1 : Int32))])) _
                              refine XS.iloadN X241.here hx rfl (hb hby d1_24) rfl ?_
                              show Steps p.tables e below (T241.setTop (mkF m 25 #[.val (.int p1), .val (.ref x102), .val (.int (14 : Int32)), .val (.int (13 : Int32)), .val (.ref w13)] [(.int p1), (.int (-1 : Int32))])) _
                              exact k)
                            by_cases c244 : (-1 : Int32) = p1
                            · have p245 : Go p.tables e below _ (T241.setTop (mkF m 28 #[.val (.int p1), .val (.ref x102), .val (.int (14 : Int32)), .val (.int (13 : Int32)), .val (.ref w13)] [])) := fun t k => p243 t (by
                                show Steps p.tables e below (T241.setTop (mkF m 25 #[.val (.int p1), .val (.ref x102), .val (.int (14 : Int32)), .val (.int (13 : Int32)), .val (.ref w13)] [(.int p1), (.int (-1 : Int32))])) _
                                refine XS.icmpNo X241.here hx rfl (hb hby d1_25) rfl (teq c244).2 ?_
                                show Steps p.tables e below (T241.setTop (mkF m 28 #[.val (.int p1), .val (.ref x102), .val (.int (14 : Int32)), .val (.int (13 : Int32)), .val (.ref w13)] [])) _
                                exact k)
                              have p246 : Go p.tables e below _ (T241.setTop (mkF m 30 #[.val (.int p1), .val (.ref x102), .val (.int (14 : Int32)), .val (.int (13 : Int32)), .val (.ref w13)] [(.ref w13)])) := fun t k => p245 t (by
                                show Steps p.tables e below (T241.setTop (mkF m 28 #[.val (.int p1), .val (.ref x102), .val (.int (14 : Int32)), .val (.int (13 : Int32)), .val (.ref w13)] [])) _
                                refine XS.aload X241.here hx rfl (hb hby d1_28) rfl rfl ?_
                                show Steps p.tables e below (T241.setTop (mkF m 30 #[.val (.int p1), .val (.ref x102), .val (.int (14 : Int32)), .val (.int (13 : Int32)), .val (.ref w13)] [(.ref w13)])) _
                                exact k)
                              obtain ⟨fs, hr, hrun, hended, hW, hsame⟩ := X241.leave (v := some (.ref w13)) (fun h => by rw [Bd.returns] at h; cases h)
                              refine ⟨_, _, p246 _ (retOut X241 hx (w := (.ref w13)) (i := .areturn) Bd.returns rfl (Or.inr (Or.inr (Or.inr (Or.inr ⟨rfl, rfl, rfl⟩)))) (hb hby d1_30) hr), hrun, hended, _, _, rfl, ?_, ⟨_, rfl⟩, hW, hsame.mono (by decide) (by decide)⟩
                              show Q1 Z p1 w0 w1 w2 w3 w4 w5 w6 w7 w8 w9 w10 w11 w12 w13 wv kv h0 n0 _ T241.heap _
                              rw [e241]
                              exact ⟨by simp [own_fc, c114, c124, c134, c144, c154, c164, c174, c184, c194, c204, c214, c224, c234, c244], N101, K103⟩
                            · have p247 : Go p.tables e below _ (T241.setTop (mkF m 31 #[.val (.int p1), .val (.ref x102), .val (.int (14 : Int32)), .val (.int (13 : Int32)), .val (.ref w13)] [])) := fun t k => p243 t (by
                                show Steps p.tables e below (T241.setTop (mkF m 25 #[.val (.int p1), .val (.ref x102), .val (.int (14 : Int32)), .val (.int (13 : Int32)), .val (.ref w13)] [(.int p1), (.int (-1 : Int32))])) _
                                refine XS.icmpYes X241.here hx rfl (pc0 := 25) (pc' := 31) rfl (hb hby d1_25) rfl (feq c244).2 (by decide) (by decide) ?_
                                show Steps p.tables e below (T241.setTop (mkF m 31 #[.val (.int p1), .val (.ref x102), .val (.int (14 : Int32)), .val (.int (13 : Int32)), .val (.ref w13)] [])) _
                                exact k)
                              have p248 : Go p.tables e below _ (T241.setTop (mkF m 37 #[.val (.int p1), .val (.ref x102), .val (.int (14 : Int32)), .val (.int (14 : Int32)), .val (.ref w13)] [])) := fun t k => p247 t (by
                                show Steps p.tables e below (T241.setTop (mkF m 31 #[.val (.int p1), .val (.ref x102), .val (.int (14 : Int32)), .val (.int (13 : Int32)), .val (.ref w13)] [])) _
                                refine XS.iinc X241.here hx rfl (hb hby d1_31) rfl (l' := #[.val (.int p1), .val (.ref x102), .val (.int (14 : Int32)), .val (.int (14 : Int32)), .val (.ref w13)]) rfl ?_
                                show Steps p.tables e below (T241.setTop (mkF m 34 #[.val (.int p1), .val (.ref x102), .val (.int (14 : Int32)), .val (.int (14 : Int32)), .val (.ref w13)] [])) _
                                refine XS.goto X241.here hx rfl (pc0 := 34) (pc' := 9) rfl (hb hby d1_34) (by decide) (by decide) ?_
                                show Steps p.tables e below (T241.setTop (mkF m 9 #[.val (.int p1), .val (.ref x102), .val (.int (14 : Int32)), .val (.int (14 : Int32)), .val (.ref w13)] [])) _
                                refine XS.iloadN X241.here hx rfl (hb hby d1_9) rfl ?_
                                show Steps p.tables e below (T241.setTop (mkF m 10 #[.val (.int p1), .val (.ref x102), .val (.int (14 : Int32)), .val (.int (14 : Int32)), .val (.ref w13)] [(.int (14 : Int32))])) _
                                refine XS.iloadN X241.here hx rfl (hb hby d1_10) rfl ?_
                                show Steps p.tables e below (T241.setTop (mkF m 11 #[.val (.int p1), .val (.ref x102), .val (.int (14 : Int32)), .val (.int (14 : Int32)), .val (.ref w13)] [(.int (14 : Int32)), (.int (14 : Int32))])) _
                                refine XS.icmpYes X241.here hx rfl (pc0 := 11) (pc' := 37) rfl (hb hby d1_11) rfl (flt (by decide : ¬ ((14 : Int32) < (14 : Int32)))).2.1 (by decide) (by decide) ?_
                                show Steps p.tables e below (T241.setTop (mkF m 37 #[.val (.int p1), .val (.ref x102), .val (.int (14 : Int32)), .val (.int (14 : Int32)), .val (.ref w13)] [])) _
                                exact k)
                              obtain ⟨T249, X249, e249, st249⟩ := getS2 X241 hx hZ hown (host := "") (Or.inl (own_w hw 53 rfl)) Via.refl e241 (En13.1.ext f110.2) (g := (mkF m 37 #[.val (.int p1), .val (.ref x102), .val (.int (14 : Int32)), .val (.int (14 : Int32)), .val (.ref w13)] [])) rfl (hb hby d1_37)
                              have p250 : Go p.tables e below _ (T249.setTop (mkF m 40 #[.val (.int p1), .val (.ref x102), .val (.int (14 : Int32)), .val (.int (14 : Int32)), .val (.ref w13)] [(.ref w13)])) := fun t k => p248 t (st249 t k)
                              obtain ⟨fs, hr, hrun, hended, hW, hsame⟩ := X249.leave (v := some (.ref w13)) (fun h => by rw [Bd.returns] at h; cases h)
                              refine ⟨_, _, p250 _ (retOut X249 hx (w := (.ref w13)) (i := .areturn) Bd.returns rfl (Or.inr (Or.inr (Or.inr (Or.inr ⟨rfl, rfl, rfl⟩)))) (hb hby d1_40) hr), hrun, hended, _, _, rfl, ?_, ⟨_, rfl⟩, hW, hsame.mono (by decide) (by decide)⟩
                              show Q1 Z p1 w0 w1 w2 w3 w4 w5 w6 w7 w8 w9 w10 w11 w12 w13 wv kv h0 n0 _ T249.heap _
                              rw [e249]
                              exact ⟨by simp [own_fc, c114, c124, c134, c144, c154, c164, c174, c184, c194, c204, c214, c224, c234, c244], N101, K103⟩
theorem d3_0 : decode prog_37_method_4_code 0 = .ok (.aload_n 0, 1) := by decide +kernel
theorem d3_1 : decode prog_37_method_4_code 1 = .ok (.getfield 65, 3) := by decide +kernel
theorem d3_4 : decode prog_37_method_4_code 4 = .ok (.ireturn, 1) := by decide +kernel
theorem pn3 : plainFor (⟨"com/example/boot_sealer/bootsealer/rp2350/ItemType", "code", "()I"⟩ : MethodName) = true := plainFor_of_name (by first | (simp [plainName, overriddenIn]; done) | decide +kernel)
theorem ef_rm3 (m : MethodId) (a1 : Addr) (c1 : Int32) : entryFrame m #[(.ref a1)] 1 = mkF m 0 #[.val (.ref a1)] [] := by first | (simp [entryFrame, mkF, argsToLocals, Value.category]; done) | rfl
def Q3 (Z : State) (a1 : Addr) (c1 : Int32) (h0 : Heap) (n0 : Nat) (v : Option Value) (h : Heap) (L : List Loc) : Prop := v = some (.int c1) ∧ Fr n0 L ∧ (h = h0)
set_option maxRecDepth 65536 in
set_option maxHeartbeats 40000000 in
theorem rm3 (l : Launch) (Z : State) (a0 : Array Value) (hw : ∀ d ∈ tables_1, d.before a0 Z = true) (ws : List Jvm.Cond) (a1 : Addr) (c1 : Int32) (h0 : Heap) (n0 : Nat) (Z0 : n0 ≤ h0.size) (F1 : Fld Z h0 a1 "com/example/boot_sealer/bootsealer/rp2350/ItemType" "code" "I" (.int c1)) :
    MetFree l (⟨"com/example/boot_sealer/bootsealer/rp2350/ItemType", "code", "()I"⟩ : MethodName) (head1 (Jvm.Cond.code (⟨"com/example/boot_sealer/bootsealer/rp2350/ItemType", "code", "()I"⟩ : MethodName) prog_37_method_4_code 1 (some .int) :: ws) ({ frames := 0, cells := 0, slots := 0, locals := 0 } : Room)) (fun a U => a = #[(.ref a1)] ∧ Z.Warmed39 U.vm ∧ U.heap = h0) (fun _ _ _ _ _ => True) (fun _ U o U' => ∃ v L, o = .returned v ∧ Q3 Z a1 c1 h0 n0 v U'.heap L ∧ FrameEnd U o U' L ({ frames := 0, cells := 0, slots := 0, locals := 0 } : Room).cells ({ frames := 0, cells := 0, slots := 0, locals := 0 } : Room).slots) := by
  refine MetFree.of_bodySF pn3 hisR ?_
  intro p e s m args below meth c s₁ Bd hml0 hP hK
  obtain ⟨rfl, hZ, hh⟩ := hP
  have hx := Bd.exec
  have hby := Bd.bytes
  have hml : c.maxLocals = 1 := hml0
  have hown : s.vm.findClass "com/example/boot_sealer/bootsealer/rp2350/ItemType" = some m.cls := findClass_of_methodNamed Bd.named
  have hnm := (name_of_methodNamed Bd.named Bd.method).1
  have X0 : Stand p l e ({ frames := 0, cells := 0, slots := 0, locals := 0 } : Room) s m #[(.ref a1)] below meth c s₁ [] 0 0 := Stand.of_body Bd
  have e0 : s₁.heap = h0 := by rw [← hh, Bd.state]; rfl
  have N0 := Fr.nil n0
  have p0 : Go p.tables e below (s₁.setTop (entryFrame m #[(.ref a1)] 1)) (s₁.setTop (mkF m 0 #[.val (.ref a1)] [])) := fun t k => castTop (ef_rm3 m a1 c1) k
  have p101 : Go p.tables e below _ (s₁.setTop (mkF m 1 #[.val (.ref a1)] [(.ref a1)])) := fun t k => p0 t (by
    show Steps p.tables e below (s₁.setTop (mkF m 0 #[.val (.ref a1)] [])) _
    refine XS.aloadN X0.here hx rfl (hb hby d3_0) rfl rfl ?_
    show Steps p.tables e below (s₁.setTop (mkF m 1 #[.val (.ref a1)] [(.ref a1)])) _
    exact k)
  obtain ⟨T102, X102, e102, st102⟩ := getF X0 hx hZ hown (host := "") (Or.inl (own_w hw 51 rfl)) Via.refl e0 F1 (g := (mkF m 1 #[.val (.ref a1)] [(.ref a1)])) rfl rfl (hb hby d3_1)
  have p103 : Go p.tables e below _ (T102.setTop (mkF m 4 #[.val (.ref a1)] [(.int c1)])) := fun t k => p101 t (st102 t k)
  obtain ⟨fs, hr, hrun, hended, hW, hsame⟩ := X102.leave (v := some (.int c1)) (fun h => by rw [Bd.returns] at h; cases h)
  refine ⟨_, _, p103 _ (retI X102 hx Bd.returns (hb hby d3_4) hr), hrun, hended, _, _, rfl, ?_, ⟨_, rfl⟩, hW, hsame.mono (by decide) (by decide)⟩
  show Q3 Z a1 c1 h0 n0 _ T102.heap _
  rw [e102]
  exact ⟨rfl, N0, rfl⟩
theorem d4_0 : decode method_2_code 0 = .ok (.iload_n 0, 1) := by decide +kernel
theorem d4_1 : decode method_2_code 1 = .ok (.iconst 3, 1) := by decide +kernel
theorem d4_2 : decode method_2_code 2 = .ok (.if_icmp .ne 7, 3) := by decide +kernel
theorem d4_5 : decode method_2_code 5 = .ok (.getstatic 7, 3) := by decide +kernel
theorem d4_8 : decode method_2_code 8 = .ok (.areturn, 1) := by decide +kernel
theorem d4_9 : decode method_2_code 9 = .ok (.iload_n 0, 1) := by decide +kernel
theorem d4_10 : decode method_2_code 10 = .ok (.iconst 5, 1) := by decide +kernel
theorem d4_11 : decode method_2_code 11 = .ok (.if_icmp .ne 7, 3) := by decide +kernel
theorem d4_14 : decode method_2_code 14 = .ok (.getstatic 13, 3) := by decide +kernel
theorem d4_17 : decode method_2_code 17 = .ok (.areturn, 1) := by decide +kernel
theorem d4_18 : decode method_2_code 18 = .ok (.iload_n 0, 1) := by decide +kernel
theorem d4_19 : decode method_2_code 19 = .ok (.bipush 6, 2) := by decide +kernel
theorem d4_21 : decode method_2_code 21 = .ok (.if_icmp .ne 7, 3) := by decide +kernel
theorem d4_24 : decode method_2_code 24 = .ok (.getstatic 16, 3) := by decide +kernel
theorem d4_27 : decode method_2_code 27 = .ok (.areturn, 1) := by decide +kernel
theorem d4_28 : decode method_2_code 28 = .ok (.iload_n 0, 1) := by decide +kernel
theorem d4_29 : decode method_2_code 29 = .ok (.bipush 9, 2) := by decide +kernel
theorem d4_31 : decode method_2_code 31 = .ok (.if_icmp .ne 7, 3) := by decide +kernel
theorem d4_34 : decode method_2_code 34 = .ok (.getstatic 19, 3) := by decide +kernel
theorem d4_37 : decode method_2_code 37 = .ok (.areturn, 1) := by decide +kernel
theorem d4_38 : decode method_2_code 38 = .ok (.iload_n 0, 1) := by decide +kernel
theorem d4_39 : decode method_2_code 39 = .ok (.bipush 10, 2) := by decide +kernel
theorem d4_41 : decode method_2_code 41 = .ok (.if_icmp .ne 7, 3) := by decide +kernel
theorem d4_44 : decode method_2_code 44 = .ok (.getstatic 22, 3) := by decide +kernel
theorem d4_47 : decode method_2_code 47 = .ok (.areturn, 1) := by decide +kernel
theorem d4_48 : decode method_2_code 48 = .ok (.iload_n 0, 1) := by decide +kernel
theorem d4_49 : decode method_2_code 49 = .ok (.bipush 12, 2) := by decide +kernel
theorem d4_51 : decode method_2_code 51 = .ok (.if_icmp .ne 7, 3) := by decide +kernel
theorem d4_54 : decode method_2_code 54 = .ok (.getstatic 25, 3) := by decide +kernel
theorem d4_57 : decode method_2_code 57 = .ok (.areturn, 1) := by decide +kernel
theorem d4_58 : decode method_2_code 58 = .ok (.iload_n 0, 1) := by decide +kernel
theorem d4_59 : decode method_2_code 59 = .ok (.bipush 65, 2) := by decide +kernel
theorem d4_61 : decode method_2_code 61 = .ok (.if_icmp .ne 7, 3) := by decide +kernel
theorem d4_64 : decode method_2_code 64 = .ok (.getstatic 28, 3) := by decide +kernel
theorem d4_67 : decode method_2_code 67 = .ok (.areturn, 1) := by decide +kernel
theorem d4_68 : decode method_2_code 68 = .ok (.iload_n 0, 1) := by decide +kernel
theorem d4_69 : decode method_2_code 69 = .ok (.bipush 66, 2) := by decide +kernel
theorem d4_71 : decode method_2_code 71 = .ok (.if_icmp .ne 7, 3) := by decide +kernel
theorem d4_74 : decode method_2_code 74 = .ok (.getstatic 31, 3) := by decide +kernel
theorem d4_77 : decode method_2_code 77 = .ok (.areturn, 1) := by decide +kernel
theorem d4_78 : decode method_2_code 78 = .ok (.iload_n 0, 1) := by decide +kernel
theorem d4_79 : decode method_2_code 79 = .ok (.bipush 68, 2) := by decide +kernel
theorem d4_81 : decode method_2_code 81 = .ok (.if_icmp .ne 7, 3) := by decide +kernel
theorem d4_84 : decode method_2_code 84 = .ok (.getstatic 34, 3) := by decide +kernel
theorem d4_87 : decode method_2_code 87 = .ok (.areturn, 1) := by decide +kernel
theorem d4_88 : decode method_2_code 88 = .ok (.iload_n 0, 1) := by decide +kernel
theorem d4_89 : decode method_2_code 89 = .ok (.bipush 71, 2) := by decide +kernel
theorem d4_91 : decode method_2_code 91 = .ok (.if_icmp .ne 7, 3) := by decide +kernel
theorem d4_94 : decode method_2_code 94 = .ok (.getstatic 37, 3) := by decide +kernel
theorem d4_97 : decode method_2_code 97 = .ok (.areturn, 1) := by decide +kernel
theorem d4_98 : decode method_2_code 98 = .ok (.iload_n 0, 1) := by decide +kernel
theorem d4_99 : decode method_2_code 99 = .ok (.bipush 72, 2) := by decide +kernel
theorem d4_101 : decode method_2_code 101 = .ok (.if_icmp .ne 7, 3) := by decide +kernel
theorem d4_104 : decode method_2_code 104 = .ok (.getstatic 40, 3) := by decide +kernel
theorem d4_107 : decode method_2_code 107 = .ok (.areturn, 1) := by decide +kernel
theorem d4_108 : decode method_2_code 108 = .ok (.iload_n 0, 1) := by decide +kernel
theorem d4_109 : decode method_2_code 109 = .ok (.bipush 75, 2) := by decide +kernel
theorem d4_111 : decode method_2_code 111 = .ok (.if_icmp .ne 7, 3) := by decide +kernel
theorem d4_114 : decode method_2_code 114 = .ok (.getstatic 43, 3) := by decide +kernel
theorem d4_117 : decode method_2_code 117 = .ok (.areturn, 1) := by decide +kernel
theorem d4_118 : decode method_2_code 118 = .ok (.iload_n 0, 1) := by decide +kernel
theorem d4_119 : decode method_2_code 119 = .ok (.sipush 254, 3) := by decide +kernel
theorem d4_122 : decode method_2_code 122 = .ok (.if_icmp .ne 7, 3) := by decide +kernel
theorem d4_125 : decode method_2_code 125 = .ok (.getstatic 46, 3) := by decide +kernel
theorem d4_128 : decode method_2_code 128 = .ok (.areturn, 1) := by decide +kernel
theorem d4_129 : decode method_2_code 129 = .ok (.getstatic 49, 3) := by decide +kernel
theorem d4_132 : decode method_2_code 132 = .ok (.areturn, 1) := by decide +kernel
theorem pn4 : plainFor (⟨"com/example/boot_sealer/bootsealer/rp2350/ItemTypeForCodePinLaw", "expected", "(I)Lcom/example/boot_sealer/bootsealer/rp2350/ItemType;"⟩ : MethodName) = true := plainFor_of_name (by first | (simp [plainName, overriddenIn]; done) | decide +kernel)
theorem ef_rm4 (m : MethodId) (p1 : Int32) (w0 : Addr) (w1 : Addr) (w2 : Addr) (w3 : Addr) (w4 : Addr) (w5 : Addr) (w6 : Addr) (w7 : Addr) (w8 : Addr) (w9 : Addr) (w10 : Addr) (w11 : Addr) (w12 : Addr) (w13 : Addr) : entryFrame m #[(.int p1)] 1 = mkF m 0 #[.val (.int p1)] [] := by first | (simp [entryFrame, mkF, argsToLocals, Value.category]; done) | rfl
def Q4 (Z : State) (p1 : Int32) (w0 : Addr) (w1 : Addr) (w2 : Addr) (w3 : Addr) (w4 : Addr) (w5 : Addr) (w6 : Addr) (w7 : Addr) (w8 : Addr) (w9 : Addr) (w10 : Addr) (w11 : Addr) (w12 : Addr) (w13 : Addr) (h0 : Heap) (n0 : Nat) (v : Option Value) (h : Heap) (L : List Loc) : Prop := v = some (.ref (own_fc p1 w0 w1 w2 w3 w4 w5 w6 w7 w8 w9 w10 w11 w12 w13)) ∧ Fr n0 L ∧ (h = h0)
set_option maxRecDepth 65536 in
set_option maxHeartbeats 40000000 in
theorem rm4 (l : Launch) (Z : State) (a0 : Array Value) (hw : ∀ d ∈ tables_1, d.before a0 Z = true) (ws : List Jvm.Cond) (p1 : Int32) (w0 : Addr) (w1 : Addr) (w2 : Addr) (w3 : Addr) (w4 : Addr) (w5 : Addr) (w6 : Addr) (w7 : Addr) (w8 : Addr) (w9 : Addr) (w10 : Addr) (w11 : Addr) (w12 : Addr) (w13 : Addr) (h0 : Heap) (n0 : Nat) (Z0 : n0 ≤ h0.size) (O1 : Old Z n0 h0) (En0 : own_En Z "VECTOR_TABLE" w0 3) (En1 : own_En Z "ROLLING_WINDOW_DELTA" w1 5) (En2 : own_En Z "LOAD_MAP" w2 6) (En3 : own_En Z "SIGNATURE" w3 9) (En4 : own_En Z "PARTITION_TABLE" w4 10) (En5 : own_En Z "SALT" w5 12) (En6 : own_En Z "NEXT_BLOCK_OFFSET" w6 65) (En7 : own_En Z "IMAGE_TYPE" w7 66) (En8 : own_En Z "ENTRY_POINT" w8 68) (En9 : own_En Z "HASH_DEF" w9 71) (En10 : own_En Z "VERSION" w10 72) (En11 : own_En Z "HASH_VALUE" w11 75) (En12 : own_En Z "IGNORED" w12 254) (En13 : own_En Z "UNKNOWN" w13 (-1)) :
    MetFree l (⟨"com/example/boot_sealer/bootsealer/rp2350/ItemTypeForCodePinLaw", "expected", "(I)Lcom/example/boot_sealer/bootsealer/rp2350/ItemType;"⟩ : MethodName) (head1 (Jvm.Cond.code (⟨"com/example/boot_sealer/bootsealer/rp2350/ItemTypeForCodePinLaw", "expected", "(I)Lcom/example/boot_sealer/bootsealer/rp2350/ItemType;"⟩ : MethodName) method_2_code 1 (some (.object "com/example/boot_sealer/bootsealer/rp2350/ItemType")) :: ws) ({ frames := 0, cells := 0, slots := 0, locals := 0 } : Room)) (fun a U => a = #[(.int p1)] ∧ Z.Warmed39 U.vm ∧ U.heap = h0) (fun _ _ _ _ _ => True) (fun _ U o U' => ∃ v L, o = .returned v ∧ Q4 Z p1 w0 w1 w2 w3 w4 w5 w6 w7 w8 w9 w10 w11 w12 w13 h0 n0 v U'.heap L ∧ FrameEnd U o U' L ({ frames := 0, cells := 0, slots := 0, locals := 0 } : Room).cells ({ frames := 0, cells := 0, slots := 0, locals := 0 } : Room).slots) := by
  refine MetFree.of_bodySF pn4 hisR ?_
  intro p e s m args below meth c s₁ Bd hml0 hP hK
  obtain ⟨rfl, hZ, hh⟩ := hP
  have hx := Bd.exec
  have hby := Bd.bytes
  have hml : c.maxLocals = 1 := hml0
  have hown : s.vm.findClass "com/example/boot_sealer/bootsealer/rp2350/ItemTypeForCodePinLaw" = some m.cls := findClass_of_methodNamed Bd.named
  have hnm := (name_of_methodNamed Bd.named Bd.method).1
  have X0 : Stand p l e ({ frames := 0, cells := 0, slots := 0, locals := 0 } : Room) s m #[(.int p1)] below meth c s₁ [] 0 0 := Stand.of_body Bd
  have e0 : s₁.heap = h0 := by rw [← hh, Bd.state]; rfl
  have N0 := Fr.nil n0
  have p0 : Go p.tables e below (s₁.setTop (entryFrame m #[(.int p1)] 1)) (s₁.setTop (mkF m 0 #[.val (.int p1)] [])) := fun t k => castTop (ef_rm4 m p1 w0 w1 w2 w3 w4 w5 w6 w7 w8 w9 w10 w11 w12 w13) k
  have p101 : Go p.tables e below _ (s₁.setTop (mkF m 2 #[.val (.int p1)] [(.int (3 : Int32)), (.int p1)])) := fun t k => p0 t (by
    show Steps p.tables e below (s₁.setTop (mkF m 0 #[.val (.int p1)] [])) _
    refine XS.iloadN X0.here hx rfl (hb hby d4_0) rfl ?_
    show Steps p.tables e below (s₁.setTop (mkF m 1 #[.val (.int p1)] [(.int p1)])) _
    refine XS.iconst X0.here hx rfl (hb hby d4_1) ?_
    show Steps p.tables e below (s₁.setTop (mkF m 2 #[.val (.int p1)] [(.int (3 : Int32)), (.int p1)])) _
    exact k)
  by_cases c102 : p1 = (3 : Int32)
  · have p103 : Go p.tables e below _ (s₁.setTop (mkF m 5 #[.val (.int p1)] [])) := fun t k => p101 t (by
      show Steps p.tables e below (s₁.setTop (mkF m 2 #[.val (.int p1)] [(.int (3 : Int32)), (.int p1)])) _
      refine XS.icmpNo X0.here hx rfl (hb hby d4_2) rfl (teq c102).2 ?_
      show Steps p.tables e below (s₁.setTop (mkF m 5 #[.val (.int p1)] [])) _
      exact k)
    obtain ⟨T104, X104, e104, st104⟩ := getS2 X0 hx hZ hown (host := "") (Or.inl (own_w hw 2 rfl)) Via.refl e0 (En0.1.ext O1.2) (g := (mkF m 5 #[.val (.int p1)] [])) rfl (hb hby d4_5)
    have p105 : Go p.tables e below _ (T104.setTop (mkF m 8 #[.val (.int p1)] [(.ref w0)])) := fun t k => p103 t (st104 t k)
    obtain ⟨fs, hr, hrun, hended, hW, hsame⟩ := X104.leave (v := some (.ref w0)) (fun h => by rw [Bd.returns] at h; cases h)
    refine ⟨_, _, p105 _ (retOut X104 hx (w := (.ref w0)) (i := .areturn) Bd.returns rfl (Or.inr (Or.inr (Or.inr (Or.inr ⟨rfl, rfl, rfl⟩)))) (hb hby d4_8) hr), hrun, hended, _, _, rfl, ?_, ⟨_, rfl⟩, hW, hsame.mono (by decide) (by decide)⟩
    show Q4 Z p1 w0 w1 w2 w3 w4 w5 w6 w7 w8 w9 w10 w11 w12 w13 h0 n0 _ T104.heap _
    rw [e104]
    exact ⟨by simp [own_fc, eq_comm, c102], N0, rfl⟩
  · have p106 : Go p.tables e below _ (s₁.setTop (mkF m 9 #[.val (.int p1)] [])) := fun t k => p101 t (by
      show Steps p.tables e below (s₁.setTop (mkF m 2 #[.val (.int p1)] [(.int (3 : Int32)), (.int p1)])) _
      refine XS.icmpYes X0.here hx rfl (pc0 := 2) (pc' := 9) rfl (hb hby d4_2) rfl (feq c102).2 (by decide) (by decide) ?_
      show Steps p.tables e below (s₁.setTop (mkF m 9 #[.val (.int p1)] [])) _
      exact k)
    have p107 : Go p.tables e below _ (s₁.setTop (mkF m 11 #[.val (.int p1)] [(.int (5 : Int32)), (.int p1)])) := fun t k => p106 t (by
      show Steps p.tables e below (s₁.setTop (mkF m 9 #[.val (.int p1)] [])) _
      refine XS.iloadN X0.here hx rfl (hb hby d4_9) rfl ?_
      show Steps p.tables e below (s₁.setTop (mkF m 10 #[.val (.int p1)] [(.int p1)])) _
      refine XS.iconst X0.here hx rfl (hb hby d4_10) ?_
      show Steps p.tables e below (s₁.setTop (mkF m 11 #[.val (.int p1)] [(.int (5 : Int32)), (.int p1)])) _
      exact k)
    by_cases c108 : p1 = (5 : Int32)
    · have p109 : Go p.tables e below _ (s₁.setTop (mkF m 14 #[.val (.int p1)] [])) := fun t k => p107 t (by
        show Steps p.tables e below (s₁.setTop (mkF m 11 #[.val (.int p1)] [(.int (5 : Int32)), (.int p1)])) _
        refine XS.icmpNo X0.here hx rfl (hb hby d4_11) rfl (teq c108).2 ?_
        show Steps p.tables e below (s₁.setTop (mkF m 14 #[.val (.int p1)] [])) _
        exact k)
      obtain ⟨T110, X110, e110, st110⟩ := getS2 X0 hx hZ hown (host := "") (Or.inl (own_w hw 6 rfl)) Via.refl e0 (En1.1.ext O1.2) (g := (mkF m 14 #[.val (.int p1)] [])) rfl (hb hby d4_14)
      have p111 : Go p.tables e below _ (T110.setTop (mkF m 17 #[.val (.int p1)] [(.ref w1)])) := fun t k => p109 t (st110 t k)
      obtain ⟨fs, hr, hrun, hended, hW, hsame⟩ := X110.leave (v := some (.ref w1)) (fun h => by rw [Bd.returns] at h; cases h)
      refine ⟨_, _, p111 _ (retOut X110 hx (w := (.ref w1)) (i := .areturn) Bd.returns rfl (Or.inr (Or.inr (Or.inr (Or.inr ⟨rfl, rfl, rfl⟩)))) (hb hby d4_17) hr), hrun, hended, _, _, rfl, ?_, ⟨_, rfl⟩, hW, hsame.mono (by decide) (by decide)⟩
      show Q4 Z p1 w0 w1 w2 w3 w4 w5 w6 w7 w8 w9 w10 w11 w12 w13 h0 n0 _ T110.heap _
      rw [e110]
      exact ⟨by simp [own_fc, eq_comm, c102, c108], N0, rfl⟩
    · have p112 : Go p.tables e below _ (s₁.setTop (mkF m 18 #[.val (.int p1)] [])) := fun t k => p107 t (by
        show Steps p.tables e below (s₁.setTop (mkF m 11 #[.val (.int p1)] [(.int (5 : Int32)), (.int p1)])) _
        refine XS.icmpYes X0.here hx rfl (pc0 := 11) (pc' := 18) rfl (hb hby d4_11) rfl (feq c108).2 (by decide) (by decide) ?_
        show Steps p.tables e below (s₁.setTop (mkF m 18 #[.val (.int p1)] [])) _
        exact k)
      have p113 : Go p.tables e below _ (s₁.setTop (mkF m 21 #[.val (.int p1)] [(.int (6 : Int32)), (.int p1)])) := fun t k => p112 t (by
        show Steps p.tables e below (s₁.setTop (mkF m 18 #[.val (.int p1)] [])) _
        refine XS.iloadN X0.here hx rfl (hb hby d4_18) rfl ?_
        show Steps p.tables e below (s₁.setTop (mkF m 19 #[.val (.int p1)] [(.int p1)])) _
        refine XS.bipush X0.here hx rfl (hb hby d4_19) ?_
        show Steps p.tables e below (s₁.setTop (mkF m 21 #[.val (.int p1)] [(.int (6 : Int32)), (.int p1)])) _
        exact k)
      by_cases c114 : p1 = (6 : Int32)
      · have p115 : Go p.tables e below _ (s₁.setTop (mkF m 24 #[.val (.int p1)] [])) := fun t k => p113 t (by
          show Steps p.tables e below (s₁.setTop (mkF m 21 #[.val (.int p1)] [(.int (6 : Int32)), (.int p1)])) _
          refine XS.icmpNo X0.here hx rfl (hb hby d4_21) rfl (teq c114).2 ?_
          show Steps p.tables e below (s₁.setTop (mkF m 24 #[.val (.int p1)] [])) _
          exact k)
        obtain ⟨T116, X116, e116, st116⟩ := getS2 X0 hx hZ hown (host := "") (Or.inl (own_w hw 8 rfl)) Via.refl e0 (En2.1.ext O1.2) (g := (mkF m 24 #[.val (.int p1)] [])) rfl (hb hby d4_24)
        have p117 : Go p.tables e below _ (T116.setTop (mkF m 27 #[.val (.int p1)] [(.ref w2)])) := fun t k => p115 t (st116 t k)
        obtain ⟨fs, hr, hrun, hended, hW, hsame⟩ := X116.leave (v := some (.ref w2)) (fun h => by rw [Bd.returns] at h; cases h)
        refine ⟨_, _, p117 _ (retOut X116 hx (w := (.ref w2)) (i := .areturn) Bd.returns rfl (Or.inr (Or.inr (Or.inr (Or.inr ⟨rfl, rfl, rfl⟩)))) (hb hby d4_27) hr), hrun, hended, _, _, rfl, ?_, ⟨_, rfl⟩, hW, hsame.mono (by decide) (by decide)⟩
        show Q4 Z p1 w0 w1 w2 w3 w4 w5 w6 w7 w8 w9 w10 w11 w12 w13 h0 n0 _ T116.heap _
        rw [e116]
        exact ⟨by simp [own_fc, eq_comm, c102, c108, c114], N0, rfl⟩
      · have p118 : Go p.tables e below _ (s₁.setTop (mkF m 28 #[.val (.int p1)] [])) := fun t k => p113 t (by
          show Steps p.tables e below (s₁.setTop (mkF m 21 #[.val (.int p1)] [(.int (6 : Int32)), (.int p1)])) _
          refine XS.icmpYes X0.here hx rfl (pc0 := 21) (pc' := 28) rfl (hb hby d4_21) rfl (feq c114).2 (by decide) (by decide) ?_
          show Steps p.tables e below (s₁.setTop (mkF m 28 #[.val (.int p1)] [])) _
          exact k)
        have p119 : Go p.tables e below _ (s₁.setTop (mkF m 31 #[.val (.int p1)] [(.int (9 : Int32)), (.int p1)])) := fun t k => p118 t (by
          show Steps p.tables e below (s₁.setTop (mkF m 28 #[.val (.int p1)] [])) _
          refine XS.iloadN X0.here hx rfl (hb hby d4_28) rfl ?_
          show Steps p.tables e below (s₁.setTop (mkF m 29 #[.val (.int p1)] [(.int p1)])) _
          refine XS.bipush X0.here hx rfl (hb hby d4_29) ?_
          show Steps p.tables e below (s₁.setTop (mkF m 31 #[.val (.int p1)] [(.int (9 : Int32)), (.int p1)])) _
          exact k)
        by_cases c120 : p1 = (9 : Int32)
        · have p121 : Go p.tables e below _ (s₁.setTop (mkF m 34 #[.val (.int p1)] [])) := fun t k => p119 t (by
            show Steps p.tables e below (s₁.setTop (mkF m 31 #[.val (.int p1)] [(.int (9 : Int32)), (.int p1)])) _
            refine XS.icmpNo X0.here hx rfl (hb hby d4_31) rfl (teq c120).2 ?_
            show Steps p.tables e below (s₁.setTop (mkF m 34 #[.val (.int p1)] [])) _
            exact k)
          obtain ⟨T122, X122, e122, st122⟩ := getS2 X0 hx hZ hown (host := "") (Or.inl (own_w hw 10 rfl)) Via.refl e0 (En3.1.ext O1.2) (g := (mkF m 34 #[.val (.int p1)] [])) rfl (hb hby d4_34)
          have p123 : Go p.tables e below _ (T122.setTop (mkF m 37 #[.val (.int p1)] [(.ref w3)])) := fun t k => p121 t (st122 t k)
          obtain ⟨fs, hr, hrun, hended, hW, hsame⟩ := X122.leave (v := some (.ref w3)) (fun h => by rw [Bd.returns] at h; cases h)
          refine ⟨_, _, p123 _ (retOut X122 hx (w := (.ref w3)) (i := .areturn) Bd.returns rfl (Or.inr (Or.inr (Or.inr (Or.inr ⟨rfl, rfl, rfl⟩)))) (hb hby d4_37) hr), hrun, hended, _, _, rfl, ?_, ⟨_, rfl⟩, hW, hsame.mono (by decide) (by decide)⟩
          show Q4 Z p1 w0 w1 w2 w3 w4 w5 w6 w7 w8 w9 w10 w11 w12 w13 h0 n0 _ T122.heap _
          rw [e122]
          exact ⟨by simp [own_fc, eq_comm, c102, c108, c114, c120], N0, rfl⟩
        · have p124 : Go p.tables e below _ (s₁.setTop (mkF m 38 #[.val (.int p1)] [])) := fun t k => p119 t (by
            show Steps p.tables e below (s₁.setTop (mkF m 31 #[.val (.int p1)] [(.int (9 : Int32)), (.int p1)])) _
            refine XS.icmpYes X0.here hx rfl (pc0 := 31) (pc' := 38) rfl (hb hby d4_31) rfl (feq c120).2 (by decide) (by decide) ?_
            show Steps p.tables e below (s₁.setTop (mkF m 38 #[.val (.int p1)] [])) _
            exact k)
          have p125 : Go p.tables e below _ (s₁.setTop (mkF m 41 #[.val (.int p1)] [(.int (10 : Int32)), (.int p1)])) := fun t k => p124 t (by
            show Steps p.tables e below (s₁.setTop (mkF m 38 #[.val (.int p1)] [])) _
            refine XS.iloadN X0.here hx rfl (hb hby d4_38) rfl ?_
            show Steps p.tables e below (s₁.setTop (mkF m 39 #[.val (.int p1)] [(.int p1)])) _
            refine XS.bipush X0.here hx rfl (hb hby d4_39) ?_
            show Steps p.tables e below (s₁.setTop (mkF m 41 #[.val (.int p1)] [(.int (10 : Int32)), (.int p1)])) _
            exact k)
          by_cases c126 : p1 = (10 : Int32)
          · have p127 : Go p.tables e below _ (s₁.setTop (mkF m 44 #[.val (.int p1)] [])) := fun t k => p125 t (by
              show Steps p.tables e below (s₁.setTop (mkF m 41 #[.val (.int p1)] [(.int (10 : Int32)), (.int p1)])) _
              refine XS.icmpNo X0.here hx rfl (hb hby d4_41) rfl (teq c126).2 ?_
              show Steps p.tables e below (s₁.setTop (mkF m 44 #[.val (.int p1)] [])) _
              exact k)
            obtain ⟨T128, X128, e128, st128⟩ := getS2 X0 hx hZ hown (host := "") (Or.inl (own_w hw 12 rfl)) Via.refl e0 (En4.1.ext O1.2) (g := (mkF m 44 #[.val (.int p1)] [])) rfl (hb hby d4_44)
            have p129 : Go p.tables e below _ (T128.setTop (mkF m 47 #[.val (.int p1)] [(.ref w4)])) := fun t k => p127 t (st128 t k)
            obtain ⟨fs, hr, hrun, hended, hW, hsame⟩ := X128.leave (v := some (.ref w4)) (fun h => by rw [Bd.returns] at h; cases h)
            refine ⟨_, _, p129 _ (retOut X128 hx (w := (.ref w4)) (i := .areturn) Bd.returns rfl (Or.inr (Or.inr (Or.inr (Or.inr ⟨rfl, rfl, rfl⟩)))) (hb hby d4_47) hr), hrun, hended, _, _, rfl, ?_, ⟨_, rfl⟩, hW, hsame.mono (by decide) (by decide)⟩
            show Q4 Z p1 w0 w1 w2 w3 w4 w5 w6 w7 w8 w9 w10 w11 w12 w13 h0 n0 _ T128.heap _
            rw [e128]
            exact ⟨by simp [own_fc, eq_comm, c102, c108, c114, c120, c126], N0, rfl⟩
          · have p130 : Go p.tables e below _ (s₁.setTop (mkF m 48 #[.val (.int p1)] [])) := fun t k => p125 t (by
              show Steps p.tables e below (s₁.setTop (mkF m 41 #[.val (.int p1)] [(.int (10 : Int32)), (.int p1)])) _
              refine XS.icmpYes X0.here hx rfl (pc0 := 41) (pc' := 48) rfl (hb hby d4_41) rfl (feq c126).2 (by decide) (by decide) ?_
              show Steps p.tables e below (s₁.setTop (mkF m 48 #[.val (.int p1)] [])) _
              exact k)
            have p131 : Go p.tables e below _ (s₁.setTop (mkF m 51 #[.val (.int p1)] [(.int (12 : Int32)), (.int p1)])) := fun t k => p130 t (by
              show Steps p.tables e below (s₁.setTop (mkF m 48 #[.val (.int p1)] [])) _
              refine XS.iloadN X0.here hx rfl (hb hby d4_48) rfl ?_
              show Steps p.tables e below (s₁.setTop (mkF m 49 #[.val (.int p1)] [(.int p1)])) _
              refine XS.bipush X0.here hx rfl (hb hby d4_49) ?_
              show Steps p.tables e below (s₁.setTop (mkF m 51 #[.val (.int p1)] [(.int (12 : Int32)), (.int p1)])) _
              exact k)
            by_cases c132 : p1 = (12 : Int32)
            · have p133 : Go p.tables e below _ (s₁.setTop (mkF m 54 #[.val (.int p1)] [])) := fun t k => p131 t (by
                show Steps p.tables e below (s₁.setTop (mkF m 51 #[.val (.int p1)] [(.int (12 : Int32)), (.int p1)])) _
                refine XS.icmpNo X0.here hx rfl (hb hby d4_51) rfl (teq c132).2 ?_
                show Steps p.tables e below (s₁.setTop (mkF m 54 #[.val (.int p1)] [])) _
                exact k)
              obtain ⟨T134, X134, e134, st134⟩ := getS2 X0 hx hZ hown (host := "") (Or.inl (own_w hw 14 rfl)) Via.refl e0 (En5.1.ext O1.2) (g := (mkF m 54 #[.val (.int p1)] [])) rfl (hb hby d4_54)
              have p135 : Go p.tables e below _ (T134.setTop (mkF m 57 #[.val (.int p1)] [(.ref w5)])) := fun t k => p133 t (st134 t k)
              obtain ⟨fs, hr, hrun, hended, hW, hsame⟩ := X134.leave (v := some (.ref w5)) (fun h => by rw [Bd.returns] at h; cases h)
              refine ⟨_, _, p135 _ (retOut X134 hx (w := (.ref w5)) (i := .areturn) Bd.returns rfl (Or.inr (Or.inr (Or.inr (Or.inr ⟨rfl, rfl, rfl⟩)))) (hb hby d4_57) hr), hrun, hended, _, _, rfl, ?_, ⟨_, rfl⟩, hW, hsame.mono (by decide) (by decide)⟩
              show Q4 Z p1 w0 w1 w2 w3 w4 w5 w6 w7 w8 w9 w10 w11 w12 w13 h0 n0 _ T134.heap _
              rw [e134]
              exact ⟨by simp [own_fc, eq_comm, c102, c108, c114, c120, c126, c132], N0, rfl⟩
            · have p136 : Go p.tables e below _ (s₁.setTop (mkF m 58 #[.val (.int p1)] [])) := fun t k => p131 t (by
                show Steps p.tables e below (s₁.setTop (mkF m 51 #[.val (.int p1)] [(.int (12 : Int32)), (.int p1)])) _
                refine XS.icmpYes X0.here hx rfl (pc0 := 51) (pc' := 58) rfl (hb hby d4_51) rfl (feq c132).2 (by decide) (by decide) ?_
                show Steps p.tables e below (s₁.setTop (mkF m 58 #[.val (.int p1)] [])) _
                exact k)
              have p137 : Go p.tables e below _ (s₁.setTop (mkF m 61 #[.val (.int p1)] [(.int (65 : Int32)), (.int p1)])) := fun t k => p136 t (by
                show Steps p.tables e below (s₁.setTop (mkF m 58 #[.val (.int p1)] [])) _
                refine XS.iloadN X0.here hx rfl (hb hby d4_58) rfl ?_
                show Steps p.tables e below (s₁.setTop (mkF m 59 #[.val (.int p1)] [(.int p1)])) _
                refine XS.bipush X0.here hx rfl (hb hby d4_59) ?_
                show Steps p.tables e below (s₁.setTop (mkF m 61 #[.val (.int p1)] [(.int (65 : Int32)), (.int p1)])) _
                exact k)
              by_cases c138 : p1 = (65 : Int32)
              · have p139 : Go p.tables e below _ (s₁.setTop (mkF m 64 #[.val (.int p1)] [])) := fun t k => p137 t (by
                  show Steps p.tables e below (s₁.setTop (mkF m 61 #[.val (.int p1)] [(.int (65 : Int32)), (.int p1)])) _
                  refine XS.icmpNo X0.here hx rfl (hb hby d4_61) rfl (teq c138).2 ?_
                  show Steps p.tables e below (s₁.setTop (mkF m 64 #[.val (.int p1)] [])) _
                  exact k)
                obtain ⟨T140, X140, e140, st140⟩ := getS2 X0 hx hZ hown (host := "") (Or.inl (own_w hw 16 rfl)) Via.refl e0 (En6.1.ext O1.2) (g := (mkF m 64 #[.val (.int p1)] [])) rfl (hb hby d4_64)
                have p141 : Go p.tables e below _ (T140.setTop (mkF m 67 #[.val (.int p1)] [(.ref w6)])) := fun t k => p139 t (st140 t k)
                obtain ⟨fs, hr, hrun, hended, hW, hsame⟩ := X140.leave (v := some (.ref w6)) (fun h => by rw [Bd.returns] at h; cases h)
                refine ⟨_, _, p141 _ (retOut X140 hx (w := (.ref w6)) (i := .areturn) Bd.returns rfl (Or.inr (Or.inr (Or.inr (Or.inr ⟨rfl, rfl, rfl⟩)))) (hb hby d4_67) hr), hrun, hended, _, _, rfl, ?_, ⟨_, rfl⟩, hW, hsame.mono (by decide) (by decide)⟩
                show Q4 Z p1 w0 w1 w2 w3 w4 w5 w6 w7 w8 w9 w10 w11 w12 w13 h0 n0 _ T140.heap _
                rw [e140]
                exact ⟨by simp [own_fc, eq_comm, c102, c108, c114, c120, c126, c132, c138], N0, rfl⟩
              · have p142 : Go p.tables e below _ (s₁.setTop (mkF m 68 #[.val (.int p1)] [])) := fun t k => p137 t (by
                  show Steps p.tables e below (s₁.setTop (mkF m 61 #[.val (.int p1)] [(.int (65 : Int32)), (.int p1)])) _
                  refine XS.icmpYes X0.here hx rfl (pc0 := 61) (pc' := 68) rfl (hb hby d4_61) rfl (feq c138).2 (by decide) (by decide) ?_
                  show Steps p.tables e below (s₁.setTop (mkF m 68 #[.val (.int p1)] [])) _
                  exact k)
                have p143 : Go p.tables e below _ (s₁.setTop (mkF m 71 #[.val (.int p1)] [(.int (66 : Int32)), (.int p1)])) := fun t k => p142 t (by
                  show Steps p.tables e below (s₁.setTop (mkF m 68 #[.val (.int p1)] [])) _
                  refine XS.iloadN X0.here hx rfl (hb hby d4_68) rfl ?_
                  show Steps p.tables e below (s₁.setTop (mkF m 69 #[.val (.int p1)] [(.int p1)])) _
                  refine XS.bipush X0.here hx rfl (hb hby d4_69) ?_
                  show Steps p.tables e below (s₁.setTop (mkF m 71 #[.val (.int p1)] [(.int (66 : Int32)), (.int p1)])) _
                  exact k)
                by_cases c144 : p1 = (66 : Int32)
                · have p145 : Go p.tables e below _ (s₁.setTop (mkF m 74 #[.val (.int p1)] [])) := fun t k => p143 t (by
                    show Steps p.tables e below (s₁.setTop (mkF m 71 #[.val (.int p1)] [(.int (66 : Int32)), (.int p1)])) _
                    refine XS.icmpNo X0.here hx rfl (hb hby d4_71) rfl (teq c144).2 ?_
                    show Steps p.tables e below (s₁.setTop (mkF m 74 #[.val (.int p1)] [])) _
                    exact k)
                  obtain ⟨T146, X146, e146, st146⟩ := getS2 X0 hx hZ hown (host := "") (Or.inl (own_w hw 18 rfl)) Via.refl e0 (En7.1.ext O1.2) (g := (mkF m 74 #[.val (.int p1)] [])) rfl (hb hby d4_74)
                  have p147 : Go p.tables e below _ (T146.setTop (mkF m 77 #[.val (.int p1)] [(.ref w7)])) := fun t k => p145 t (st146 t k)
                  obtain ⟨fs, hr, hrun, hended, hW, hsame⟩ := X146.leave (v := some (.ref w7)) (fun h => by rw [Bd.returns] at h; cases h)
                  refine ⟨_, _, p147 _ (retOut X146 hx (w := (.ref w7)) (i := .areturn) Bd.returns rfl (Or.inr (Or.inr (Or.inr (Or.inr ⟨rfl, rfl, rfl⟩)))) (hb hby d4_77) hr), hrun, hended, _, _, rfl, ?_, ⟨_, rfl⟩, hW, hsame.mono (by decide) (by decide)⟩
                  show Q4 Z p1 w0 w1 w2 w3 w4 w5 w6 w7 w8 w9 w10 w11 w12 w13 h0 n0 _ T146.heap _
                  rw [e146]
                  exact ⟨by simp [own_fc, eq_comm, c102, c108, c114, c120, c126, c132, c138, c144], N0, rfl⟩
                · have p148 : Go p.tables e below _ (s₁.setTop (mkF m 78 #[.val (.int p1)] [])) := fun t k => p143 t (by
                    show Steps p.tables e below (s₁.setTop (mkF m 71 #[.val (.int p1)] [(.int (66 : Int32)), (.int p1)])) _
                    refine XS.icmpYes X0.here hx rfl (pc0 := 71) (pc' := 78) rfl (hb hby d4_71) rfl (feq c144).2 (by decide) (by decide) ?_
                    show Steps p.tables e below (s₁.setTop (mkF m 78 #[.val (.int p1)] [])) _
                    exact k)
                  have p149 : Go p.tables e below _ (s₁.setTop (mkF m 81 #[.val (.int p1)] [(.int (68 : Int32)), (.int p1)])) := fun t k => p148 t (by
                    show Steps p.tables e below (s₁.setTop (mkF m 78 #[.val (.int p1)] [])) _
                    refine XS.iloadN X0.here hx rfl (hb hby d4_78) rfl ?_
                    show Steps p.tables e below (s₁.setTop (mkF m 79 #[.val (.int p1)] [(.int p1)])) _
                    refine XS.bipush X0.here hx rfl (hb hby d4_79) ?_
                    show Steps p.tables e below (s₁.setTop (mkF m 81 #[.val (.int p1)] [(.int (68 : Int32)), (.int p1)])) _
                    exact k)
                  by_cases c150 : p1 = (68 : Int32)
                  · have p151 : Go p.tables e below _ (s₁.setTop (mkF m 84 #[.val (.int p1)] [])) := fun t k => p149 t (by
                      show Steps p.tables e below (s₁.setTop (mkF m 81 #[.val (.int p1)] [(.int (68 : Int32)), (.int p1)])) _
                      refine XS.icmpNo X0.here hx rfl (hb hby d4_81) rfl (teq c150).2 ?_
                      show Steps p.tables e below (s₁.setTop (mkF m 84 #[.val (.int p1)] [])) _
                      exact k)
                    obtain ⟨T152, X152, e152, st152⟩ := getS2 X0 hx hZ hown (host := "") (Or.inl (own_w hw 20 rfl)) Via.refl e0 (En8.1.ext O1.2) (g := (mkF m 84 #[.val (.int p1)] [])) rfl (hb hby d4_84)
                    have p153 : Go p.tables e below _ (T152.setTop (mkF m 87 #[.val (.int p1)] [(.ref w8)])) := fun t k => p151 t (st152 t k)
                    obtain ⟨fs, hr, hrun, hended, hW, hsame⟩ := X152.leave (v := some (.ref w8)) (fun h => by rw [Bd.returns] at h; cases h)
                    refine ⟨_, _, p153 _ (retOut X152 hx (w := (.ref w8)) (i := .areturn) Bd.returns rfl (Or.inr (Or.inr (Or.inr (Or.inr ⟨rfl, rfl, rfl⟩)))) (hb hby d4_87) hr), hrun, hended, _, _, rfl, ?_, ⟨_, rfl⟩, hW, hsame.mono (by decide) (by decide)⟩
                    show Q4 Z p1 w0 w1 w2 w3 w4 w5 w6 w7 w8 w9 w10 w11 w12 w13 h0 n0 _ T152.heap _
                    rw [e152]
                    exact ⟨by simp [own_fc, eq_comm, c102, c108, c114, c120, c126, c132, c138, c144, c150], N0, rfl⟩
                  · have p154 : Go p.tables e below _ (s₁.setTop (mkF m 88 #[.val (.int p1)] [])) := fun t k => p149 t (by
                      show Steps p.tables e below (s₁.setTop (mkF m 81 #[.val (.int p1)] [(.int (68 : Int32)), (.int p1)])) _
                      refine XS.icmpYes X0.here hx rfl (pc0 := 81) (pc' := 88) rfl (hb hby d4_81) rfl (feq c150).2 (by decide) (by decide) ?_
                      show Steps p.tables e below (s₁.setTop (mkF m 88 #[.val (.int p1)] [])) _
                      exact k)
                    have p155 : Go p.tables e below _ (s₁.setTop (mkF m 91 #[.val (.int p1)] [(.int (71 : Int32)), (.int p1)])) := fun t k => p154 t (by
                      show Steps p.tables e below (s₁.setTop (mkF m 88 #[.val (.int p1)] [])) _
                      refine XS.iloadN X0.here hx rfl (hb hby d4_88) rfl ?_
                      show Steps p.tables e below (s₁.setTop (mkF m 89 #[.val (.int p1)] [(.int p1)])) _
                      refine XS.bipush X0.here hx rfl (hb hby d4_89) ?_
                      show Steps p.tables e below (s₁.setTop (mkF m 91 #[.val (.int p1)] [(.int (71 : Int32)), (.int p1)])) _
                      exact k)
                    by_cases c156 : p1 = (71 : Int32)
                    · have p157 : Go p.tables e below _ (s₁.setTop (mkF m 94 #[.val (.int p1)] [])) := fun t k => p155 t (by
                        show Steps p.tables e below (s₁.setTop (mkF m 91 #[.val (.int p1)] [(.int (71 : Int32)), (.int p1)])) _
                        refine XS.icmpNo X0.here hx rfl (hb hby d4_91) rfl (teq c156).2 ?_
                        show Steps p.tables e below (s₁.setTop (mkF m 94 #[.val (.int p1)] [])) _
                        exact k)
                      obtain ⟨T158, X158, e158, st158⟩ := getS2 X0 hx hZ hown (host := "") (Or.inl (own_w hw 22 rfl)) Via.refl e0 (En9.1.ext O1.2) (g := (mkF m 94 #[.val (.int p1)] [])) rfl (hb hby d4_94)
                      have p159 : Go p.tables e below _ (T158.setTop (mkF m 97 #[.val (.int p1)] [(.ref w9)])) := fun t k => p157 t (st158 t k)
                      obtain ⟨fs, hr, hrun, hended, hW, hsame⟩ := X158.leave (v := some (.ref w9)) (fun h => by rw [Bd.returns] at h; cases h)
                      refine ⟨_, _, p159 _ (retOut X158 hx (w := (.ref w9)) (i := .areturn) Bd.returns rfl (Or.inr (Or.inr (Or.inr (Or.inr ⟨rfl, rfl, rfl⟩)))) (hb hby d4_97) hr), hrun, hended, _, _, rfl, ?_, ⟨_, rfl⟩, hW, hsame.mono (by decide) (by decide)⟩
                      show Q4 Z p1 w0 w1 w2 w3 w4 w5 w6 w7 w8 w9 w10 w11 w12 w13 h0 n0 _ T158.heap _
                      rw [e158]
                      exact ⟨by simp [own_fc, eq_comm, c102, c108, c114, c120, c126, c132, c138, c144, c150, c156], N0, rfl⟩
                    · have p160 : Go p.tables e below _ (s₁.setTop (mkF m 98 #[.val (.int p1)] [])) := fun t k => p155 t (by
                        show Steps p.tables e below (s₁.setTop (mkF m 91 #[.val (.int p1)] [(.int (71 : Int32)), (.int p1)])) _
                        refine XS.icmpYes X0.here hx rfl (pc0 := 91) (pc' := 98) rfl (hb hby d4_91) rfl (feq c156).2 (by decide) (by decide) ?_
                        show Steps p.tables e below (s₁.setTop (mkF m 98 #[.val (.int p1)] [])) _
                        exact k)
                      have p161 : Go p.tables e below _ (s₁.setTop (mkF m 101 #[.val (.int p1)] [(.int (72 : Int32)), (.int p1)])) := fun t k => p160 t (by
                        show Steps p.tables e below (s₁.setTop (mkF m 98 #[.val (.int p1)] [])) _
                        refine XS.iloadN X0.here hx rfl (hb hby d4_98) rfl ?_
                        show Steps p.tables e below (s₁.setTop (mkF m 99 #[.val (.int p1)] [(.int p1)])) _
                        refine XS.bipush X0.here hx rfl (hb hby d4_99) ?_
                        show Steps p.tables e below (s₁.setTop (mkF m 101 #[.val (.int p1)] [(.int (72 : Int32)), (.int p1)])) _
                        exact k)
                      by_cases c162 : p1 = (72 : Int32)
                      · have p163 : Go p.tables e below _ (s₁.setTop (mkF m 104 #[.val (.int p1)] [])) := fun t k => p161 t (by
                          show Steps p.tables e below (s₁.setTop (mkF m 101 #[.val (.int p1)] [(.int (72 : Int32)), (.int p1)])) _
                          refine XS.icmpNo X0.here hx rfl (hb hby d4_101) rfl (teq c162).2 ?_
                          show Steps p.tables e below (s₁.setTop (mkF m 104 #[.val (.int p1)] [])) _
                          exact k)
                        obtain ⟨T164, X164, e164, st164⟩ := getS2 X0 hx hZ hown (host := "") (Or.inl (own_w hw 24 rfl)) Via.refl e0 (En10.1.ext O1.2) (g := (mkF m 104 #[.val (.int p1)] [])) rfl (hb hby d4_104)
                        have p165 : Go p.tables e below _ (T164.setTop (mkF m 107 #[.val (.int p1)] [(.ref w10)])) := fun t k => p163 t (st164 t k)
                        obtain ⟨fs, hr, hrun, hended, hW, hsame⟩ := X164.leave (v := some (.ref w10)) (fun h => by rw [Bd.returns] at h; cases h)
                        refine ⟨_, _, p165 _ (retOut X164 hx (w := (.ref w10)) (i := .areturn) Bd.returns rfl (Or.inr (Or.inr (Or.inr (Or.inr ⟨rfl, rfl, rfl⟩)))) (hb hby d4_107) hr), hrun, hended, _, _, rfl, ?_, ⟨_, rfl⟩, hW, hsame.mono (by decide) (by decide)⟩
                        show Q4 Z p1 w0 w1 w2 w3 w4 w5 w6 w7 w8 w9 w10 w11 w12 w13 h0 n0 _ T164.heap _
                        rw [e164]
                        exact ⟨by simp [own_fc, eq_comm, c102, c108, c114, c120, c126, c132, c138, c144, c150, c156, c162], N0, rfl⟩
                      · have p166 : Go p.tables e below _ (s₁.setTop (mkF m 108 #[.val (.int p1)] [])) := fun t k => p161 t (by
                          show Steps p.tables e below (s₁.setTop (mkF m 101 #[.val (.int p1)] [(.int (72 : Int32)), (.int p1)])) _
                          refine XS.icmpYes X0.here hx rfl (pc0 := 101) (pc' := 108) rfl (hb hby d4_101) rfl (feq c162).2 (by decide) (by decide) ?_
                          show Steps p.tables e below (s₁.setTop (mkF m 108 #[.val (.int p1)] [])) _
                          exact k)
                        have p167 : Go p.tables e below _ (s₁.setTop (mkF m 111 #[.val (.int p1)] [(.int (75 : Int32)), (.int p1)])) := fun t k => p166 t (by
                          show Steps p.tables e below (s₁.setTop (mkF m 108 #[.val (.int p1)] [])) _
                          refine XS.iloadN X0.here hx rfl (hb hby d4_108) rfl ?_
                          show Steps p.tables e below (s₁.setTop (mkF m 109 #[.val (.int p1)] [(.int p1)])) _
                          refine XS.bipush X0.here hx rfl (hb hby d4_109) ?_
                          show Steps p.tables e below (s₁.setTop (mkF m 111 #[.val (.int p1)] [(.int (75 : Int32)), (.int p1)])) _
                          exact k)
                        by_cases c168 : p1 = (75 : Int32)
                        · have p169 : Go p.tables e below _ (s₁.setTop (mkF m 114 #[.val (.int p1)] [])) := fun t k => p167 t (by
                            show Steps p.tables e below (s₁.setTop (mkF m 111 #[.val (.int p1)] [(.int (75 : Int32)), (.int p1)])) _
                            refine XS.icmpNo X0.here hx rfl (hb hby d4_111) rfl (teq c168).2 ?_
                            show Steps p.tables e below (s₁.setTop (mkF m 114 #[.val (.int p1)] [])) _
                            exact k)
                          obtain ⟨T170, X170, e170, st170⟩ := getS2 X0 hx hZ hown (host := "") (Or.inl (own_w hw 26 rfl)) Via.refl e0 (En11.1.ext O1.2) (g := (mkF m 114 #[.val (.int p1)] [])) rfl (hb hby d4_114)
                          have p171 : Go p.tables e below _ (T170.setTop (mkF m 117 #[.val (.int p1)] [(.ref w11)])) := fun t k => p169 t (st170 t k)
                          obtain ⟨fs, hr, hrun, hended, hW, hsame⟩ := X170.leave (v := some (.ref w11)) (fun h => by rw [Bd.returns] at h; cases h)
                          refine ⟨_, _, p171 _ (retOut X170 hx (w := (.ref w11)) (i := .areturn) Bd.returns rfl (Or.inr (Or.inr (Or.inr (Or.inr ⟨rfl, rfl, rfl⟩)))) (hb hby d4_117) hr), hrun, hended, _, _, rfl, ?_, ⟨_, rfl⟩, hW, hsame.mono (by decide) (by decide)⟩
                          show Q4 Z p1 w0 w1 w2 w3 w4 w5 w6 w7 w8 w9 w10 w11 w12 w13 h0 n0 _ T170.heap _
                          rw [e170]
                          exact ⟨by simp [own_fc, eq_comm, c102, c108, c114, c120, c126, c132, c138, c144, c150, c156, c162, c168], N0, rfl⟩
                        · have p172 : Go p.tables e below _ (s₁.setTop (mkF m 118 #[.val (.int p1)] [])) := fun t k => p167 t (by
                            show Steps p.tables e below (s₁.setTop (mkF m 111 #[.val (.int p1)] [(.int (75 : Int32)), (.int p1)])) _
                            refine XS.icmpYes X0.here hx rfl (pc0 := 111) (pc' := 118) rfl (hb hby d4_111) rfl (feq c168).2 (by decide) (by decide) ?_
                            show Steps p.tables e below (s₁.setTop (mkF m 118 #[.val (.int p1)] [])) _
                            exact k)
                          have p173 : Go p.tables e below _ (s₁.setTop (mkF m 122 #[.val (.int p1)] [(.int (254 : Int32)), (.int p1)])) := fun t k => p172 t (by
                            show Steps p.tables e below (s₁.setTop (mkF m 118 #[.val (.int p1)] [])) _
                            refine XS.iloadN X0.here hx rfl (hb hby d4_118) rfl ?_
                            show Steps p.tables e below (s₁.setTop (mkF m 119 #[.val (.int p1)] [(.int p1)])) _
                            refine XS.sipush X0.here hx rfl (hb hby d4_119) ?_
                            show Steps p.tables e below (s₁.setTop (mkF m 122 #[.val (.int p1)] [(.int (254 : Int32)), (.int p1)])) _
                            exact k)
                          by_cases c174 : p1 = (254 : Int32)
                          · have p175 : Go p.tables e below _ (s₁.setTop (mkF m 125 #[.val (.int p1)] [])) := fun t k => p173 t (by
                              show Steps p.tables e below (s₁.setTop (mkF m 122 #[.val (.int p1)] [(.int (254 : Int32)), (.int p1)])) _
                              refine XS.icmpNo X0.here hx rfl (hb hby d4_122) rfl (teq c174).2 ?_
                              show Steps p.tables e below (s₁.setTop (mkF m 125 #[.val (.int p1)] [])) _
                              exact k)
                            obtain ⟨T176, X176, e176, st176⟩ := getS2 X0 hx hZ hown (host := "") (Or.inl (own_w hw 28 rfl)) Via.refl e0 (En12.1.ext O1.2) (g := (mkF m 125 #[.val (.int p1)] [])) rfl (hb hby d4_125)
                            have p177 : Go p.tables e below _ (T176.setTop (mkF m 128 #[.val (.int p1)] [(.ref w12)])) := fun t k => p175 t (st176 t k)
                            obtain ⟨fs, hr, hrun, hended, hW, hsame⟩ := X176.leave (v := some (.ref w12)) (fun h => by rw [Bd.returns] at h; cases h)
                            refine ⟨_, _, p177 _ (retOut X176 hx (w := (.ref w12)) (i := .areturn) Bd.returns rfl (Or.inr (Or.inr (Or.inr (Or.inr ⟨rfl, rfl, rfl⟩)))) (hb hby d4_128) hr), hrun, hended, _, _, rfl, ?_, ⟨_, rfl⟩, hW, hsame.mono (by decide) (by decide)⟩
                            show Q4 Z p1 w0 w1 w2 w3 w4 w5 w6 w7 w8 w9 w10 w11 w12 w13 h0 n0 _ T176.heap _
                            rw [e176]
                            exact ⟨by simp [own_fc, eq_comm, c102, c108, c114, c120, c126, c132, c138, c144, c150, c156, c162, c168, c174], N0, rfl⟩
                          · have p178 : Go p.tables e below _ (s₁.setTop (mkF m 129 #[.val (.int p1)] [])) := fun t k => p173 t (by
                              show Steps p.tables e below (s₁.setTop (mkF m 122 #[.val (.int p1)] [(.int (254 : Int32)), (.int p1)])) _
                              refine XS.icmpYes X0.here hx rfl (pc0 := 122) (pc' := 129) rfl (hb hby d4_122) rfl (feq c174).2 (by decide) (by decide) ?_
                              show Steps p.tables e below (s₁.setTop (mkF m 129 #[.val (.int p1)] [])) _
                              exact k)
                            obtain ⟨T179, X179, e179, st179⟩ := getS2 X0 hx hZ hown (host := "") (Or.inl (own_w hw 30 rfl)) Via.refl e0 (En13.1.ext O1.2) (g := (mkF m 129 #[.val (.int p1)] [])) rfl (hb hby d4_129)
                            have p180 : Go p.tables e below _ (T179.setTop (mkF m 132 #[.val (.int p1)] [(.ref w13)])) := fun t k => p178 t (st179 t k)
                            obtain ⟨fs, hr, hrun, hended, hW, hsame⟩ := X179.leave (v := some (.ref w13)) (fun h => by rw [Bd.returns] at h; cases h)
                            refine ⟨_, _, p180 _ (retOut X179 hx (w := (.ref w13)) (i := .areturn) Bd.returns rfl (Or.inr (Or.inr (Or.inr (Or.inr ⟨rfl, rfl, rfl⟩)))) (hb hby d4_132) hr), hrun, hended, _, _, rfl, ?_, ⟨_, rfl⟩, hW, hsame.mono (by decide) (by decide)⟩
                            show Q4 Z p1 w0 w1 w2 w3 w4 w5 w6 w7 w8 w9 w10 w11 w12 w13 h0 n0 _ T179.heap _
                            rw [e179]
                            exact ⟨by simp [own_fc, eq_comm, c102, c108, c114, c120, c126, c132, c138, c144, c150, c156, c162, c168, c174], N0, rfl⟩
theorem pd1 : parseMethodDescriptor "(I)Lcom/example/boot_sealer/bootsealer/rp2350/ItemType;" = some ⟨[.int], some (.object "com/example/boot_sealer/bootsealer/rp2350/ItemType")⟩ := by decide +kernel
theorem pd2 : parseMethodDescriptor "()I" = some ⟨[], some .int⟩ := by decide +kernel
theorem pn0 : plainFor (⟨"com/example/boot_sealer/bootsealer/rp2350/ItemTypeForCodePinLaw", "law", "(II)Z"⟩ : MethodName) = true := plainFor_of_name (by first | (simp [plainName, overriddenIn]; done) | decide +kernel)
theorem ef_rm0 (m : MethodId) (p1 : Int32) (p2 : Int32) (w0 : Addr) (w1 : Addr) (w2 : Addr) (w3 : Addr) (w4 : Addr) (w5 : Addr) (w6 : Addr) (w7 : Addr) (w8 : Addr) (w9 : Addr) (w10 : Addr) (w11 : Addr) (w12 : Addr) (w13 : Addr) (wv : Addr) (kv : ClassId) : entryFrame m #[(.int p1), (.int p2)] maxLocals = mkF m 0 #[.val (.int p1), .val (.int p2), .unset, .unset, .unset, .unset, .unset, .unset, .unset, .unset, .unset] [] := by first | (simp [entryFrame, mkF, argsToLocals, Value.category, maxLocals]; done) | rfl
def Q0 (Z : State) (p1 : Int32) (p2 : Int32) (w0 : Addr) (w1 : Addr) (w2 : Addr) (w3 : Addr) (w4 : Addr) (w5 : Addr) (w6 : Addr) (w7 : Addr) (w8 : Addr) (w9 : Addr) (w10 : Addr) (w11 : Addr) (w12 : Addr) (w13 : Addr) (wv : Addr) (kv : ClassId) (h0 : Heap) (n0 : Nat) (v : Option Value) (h : Heap) (L : List Loc) : Prop := v = some (.int (1 : Int32)) ∧ Fr n0 L
set_option maxRecDepth 65536 in
set_option maxHeartbeats 40000000 in
theorem rm0 (l : Launch) (Z : State) (a0 : Array Value) (hw : ∀ d ∈ tables_1, d.before a0 Z = true) (ws : List Jvm.Cond) (p1 : Int32) (p2 : Int32) (w0 : Addr) (w1 : Addr) (w2 : Addr) (w3 : Addr) (w4 : Addr) (w5 : Addr) (w6 : Addr) (w7 : Addr) (w8 : Addr) (w9 : Addr) (w10 : Addr) (w11 : Addr) (w12 : Addr) (w13 : Addr) (wv : Addr) (kv : ClassId) (h0 : Heap) (n0 : Nat) (Z0 : n0 ≤ h0.size) (O1 : Old Z n0 h0) (En0 : own_En Z "VECTOR_TABLE" w0 3) (En1 : own_En Z "ROLLING_WINDOW_DELTA" w1 5) (En2 : own_En Z "LOAD_MAP" w2 6) (En3 : own_En Z "SIGNATURE" w3 9) (En4 : own_En Z "PARTITION_TABLE" w4 10) (En5 : own_En Z "SALT" w5 12) (En6 : own_En Z "NEXT_BLOCK_OFFSET" w6 65) (En7 : own_En Z "IMAGE_TYPE" w7 66) (En8 : own_En Z "ENTRY_POINT" w8 68) (En9 : own_En Z "HASH_DEF" w9 71) (En10 : own_En Z "VERSION" w10 72) (En11 : own_En Z "HASH_VALUE" w11 75) (En12 : own_En Z "IGNORED" w12 254) (En13 : own_En Z "UNKNOWN" w13 (-1)) (SV : Sta Z Z.heap "com/example/boot_sealer/bootsealer/rp2350/ItemType" "$VALUES" "[Lcom/example/boot_sealer/bootsealer/rp2350/ItemType;" (.ref wv)) (EV : Exa Z Z.heap wv "[Lcom/example/boot_sealer/bootsealer/rp2350/ItemType;") (VV : Arv Z Z.heap wv kv (.object "com/example/boot_sealer/bootsealer/rp2350/ItemType") (14 : Int32) [(.ref w0), (.ref w1), (.ref w2), (.ref w3), (.ref w4), (.ref w5), (.ref w6), (.ref w7), (.ref w8), (.ref w9), (.ref w10), (.ref w11), (.ref w12), (.ref w13)] .null) :
    MetFree l x (head1 (Jvm.Cond.code x code maxLocals ret :: ws) room_1) (fun a U => a = #[(.int p1), (.int p2)] ∧ Z.Warmed39 U.vm ∧ U.heap = h0) (fun _ _ _ _ _ => True) (fun _ U o U' => ∃ v L, o = .returned v ∧ Q0 Z p1 p2 w0 w1 w2 w3 w4 w5 w6 w7 w8 w9 w10 w11 w12 w13 wv kv h0 n0 v U'.heap L ∧ FrameEnd U o U' L room_1.cells room_1.slots) := by
  refine MetFree.of_bodySF pn0 hisR ?_
  intro p e s m args below meth c s₁ Bd hml0 hP hK
  obtain ⟨rfl, hZ, hh⟩ := hP
  have hx := Bd.exec
  have hby := Bd.bytes
  have hml : c.maxLocals = 11 := hml0
  have hown : s.vm.findClass "com/example/boot_sealer/bootsealer/rp2350/ItemTypeForCodePinLaw" = some m.cls := findClass_of_methodNamed Bd.named
  have hnm := (name_of_methodNamed Bd.named Bd.method).1
  have X0 : Stand p l e room_1 s m #[(.int p1), (.int p2)] below meth c s₁ [] 0 0 := Stand.of_body Bd
  have e0 : s₁.heap = h0 := by rw [← hh, Bd.state]; rfl
  have N0 := Fr.nil n0
  have p0 : Go p.tables e below (s₁.setTop (entryFrame m #[(.int p1), (.int p2)] maxLocals)) (s₁.setTop (mkF m 0 #[.val (.int p1), .val (.int p2), .unset, .unset, .unset, .unset, .unset, .unset, .unset, .unset, .unset] [])) := fun t k => castTop (ef_rm0 m p1 p2 w0 w1 w2 w3 w4 w5 w6 w7 w8 w9 w10 w11 w12 w13 wv kv) k
  have p101 : Go p.tables e below _ (s₁.setTop (mkF m 2 #[.val (.int p1), .val (.int p2), .unset, .unset, .unset, .unset, .unset, .unset, .unset, .unset, .unset] [(.int (14 : Int32))])) := fun t k => p0 t (by
    show Steps p.tables e below (s₁.setTop (mkF m 0 #[.val (.int p1), .val (.int p2), .unset, .unset, .unset, .unset, .unset, .unset, .unset, .unset, .unset] [])) _
    refine XS.bipush X0.here hx rfl (hb hby at_0) ?_
    show Steps p.tables e below (s₁.setTop (mkF m 2 #[.val (.int p1), .val (.int p2), .unset, .unset, .unset, .unset, .unset, .unset, .unset, .unset, .unset] [(.int (14 : Int32))])) _
    exact k)
  obtain ⟨T102, h102, k102, X102, e102, E102, A102, O102, st102⟩ := newR X0 hx hZ hown (own_w hw 0 rfl) (own_w hw 1 rfl) e0 (g := (mkF m 2 #[.val (.int p1), .val (.int p2), .unset, .unset, .unset, .unset, .unset, .unset, .unset, .unset, .unset] [(.int (14 : Int32))])) rfl (hb hby at_2) rfl (by decide) (cap := 14) (by decide) (by decide) (by decide) (by decide)
  obtain ⟨b102, g102⟩ : ∃ z, z = h0.size := ⟨_, rfl⟩
  rw [← g102] at A102 st102
  have ge_b102 : n0 ≤ b102 := Nat.le_trans (Nat.le_trans Z0 (Keep.refl h0 []).1) (Nat.le_of_eq g102.symm)
  have sz_b102 : h0.size ≤ b102 := Nat.le_trans (Keep.refl h0 []).1 (Nat.le_of_eq g102.symm)
  have K103 : Keep h0 h102 [] := (Keep.refl h0 []).ext E102
  have p104 : Go p.tables e below _ (T102.setTop (mkF m 5 #[.val (.int p1), .val (.int p2), .unset, .unset, .unset, .unset, .unset, .unset, .unset, .unset, .unset] [(.ref b102)])) := fun t k => p101 t (st102 t k)
  have V102 : Arv Z h102 b102 k102 (.object "com/example/boot_sealer/bootsealer/rp2350/ItemType") (14 : Int32) [.null, .null, .null, .null, .null, .null, .null, .null, .null, .null, .null, .null, .null, .null] .null := (Arv.new A102 (by decide)).pad (pad_rep [] .null 14)
  have f105 := (O1.ext E102)
  have p106 : Go p.tables e below _ (T102.setTop (mkF m 7 #[.val (.int p1), .val (.int p2), .unset, .unset, .unset, .unset, .unset, .unset, .unset, .unset, .unset] [(.int (0 : Int32)), (.ref b102), (.ref b102)])) := fun t k => p104 t (by
    show Steps p.tables e below (T102.setTop (mkF m 5 #[.val (.int p1), .val (.int p2), .unset, .unset, .unset, .unset, .unset, .unset, .unset, .unset, .unset] [(.ref b102)])) _
    refine XS.dup X102.here hx rfl (hb hby at_5) rfl rfl ?_
    show Steps p.tables e below (T102.setTop (mkF m 6 #[.val (.int p1), .val (.int p2), .unset, .unset, .unset, .unset, .unset, .unset, .unset, .unset, .unset] [(.ref b102), (.ref b102)])) _
    refine XS.iconst X102.here hx rfl (hb hby at_6) ?_
    show Steps p.tables e below (T102.setTop (mkF m 7 #[.val (.int p1), .val (.int p2), .unset, .unset, .unset, .unset, .unset, .unset, .unset, .unset, .unset] [(.int (0 : Int32)), (.ref b102), (.ref b102)])) _
    exact k)
  obtain ⟨T107, X107, e107, st107⟩ := getS2 X102 hx hZ hown (host := "") (Or.inl (own_w hw 2 rfl)) Via.refl e102 (En0.1.ext f105.2) (g := (mkF m 7 #[.val (.int p1), .val (.int p2), .unset, .unset, .unset, .unset, .unset, .unset, .unset, .unset, .unset] [(.int (0 : Int32)), (.ref b102), (.ref b102)])) rfl (hb hby at_7)
  have p108 : Go p.tables e below _ (T107.setTop (mkF m 10 #[.val (.int p1), .val (.int p2), .unset, .unset, .unset, .unset, .unset, .unset, .unset, .unset, .unset] [(.ref w0), (.int (0 : Int32)), (.ref b102), (.ref b102)])) := fun t k => p106 t (st107 t k)
  obtain ⟨cl109, Ar109, q109, S109, Ng109, H109, G109⟩ := id V102
  have hin109 := inb_of S109 (j := (0 : Int32)) ⟨by decide, by decide⟩
  obtain ⟨T109, h109, X109, e109, W109, st109⟩ := stR X107 hx hZ e107 Ar109 (j := (0 : Int32)) hin109 rfl (Sto.ofV Ar109 q109 O102 (Ins.self (En0.2.1.ext f105.2))) (g := (mkF m 10 #[.val (.int p1), .val (.int p2), .unset, .unset, .unset, .unset, .unset, .unset, .unset, .unset, .unset] [(.ref w0), (.int (0 : Int32)), (.ref b102), (.ref b102)])) rfl rfl (hb hby at_10)
  have K110 : Keep h0 h109 [] := K103.wr W109 (Or.inr sz_b102)
  have N109 := Fr.snoc X109 N0 ge_b102
  have p111 : Go p.tables e below _ (T109.setTop (mkF m 11 #[.val (.int p1), .val (.int p2), .unset, .unset, .unset, .unset, .unset, .unset, .unset, .unset, .unset] [(.ref b102)])) := fun t k => p108 t (st109 t k)
  have V109 : Arv Z h109 b102 k102 (.object "com/example/boot_sealer/bootsealer/rp2350/ItemType") (14 : Int32) [(.ref w0), .null, .null, .null, .null, .null, .null, .null, .null, .null, .null, .null, .null, .null] .null := Arv.set Ar109 q109 S109 Ng109 H109 G109 rfl W109 0 rfl (Nat.le_of_ble_eq_true rfl)
  have f112 := (f105.wr W109 ge_b102)
  have p113 : Go p.tables e below _ (T109.setTop (mkF m 13 #[.val (.int p1), .val (.int p2), .unset, .unset, .unset, .unset, .unset, .unset, .unset, .unset, .unset] [(.int (1 : Int32)), (.ref b102), (.ref b102)])) := fun t k => p111 t (by
    show Steps p.tables e below (T109.setTop (mkF m 11 #[.val (.int p1), .val (.int p2), .unset, .unset, .unset, .unset, .unset, .unset, .unset, .unset, .unset] [(.ref b102)])) _
    refine XS.dup X109.here hx rfl (hb hby at_11) rfl rfl ?_
    show Steps p.tables e below (T109.setTop (mkF m 12 #[.val (.int p1), .val (.int p2), .unset, .unset, .unset, .unset, .unset, .unset, .unset, .unset, .unset] [(.ref b102), (.ref b102)])) _
    refine XS.iconst X109.here hx rfl (hb hby at_12) ?_
    show Steps p.tables e below (T109.setTop (mkF m 13 #[.val (.int p1), .val (.int p2), .unset, .unset, .unset, .unset, .unset, .unset, .unset, .unset, .unset] [(.int (1 : Int32)), (.ref b102), (.ref b102)])) _
    exact k)
  obtain ⟨T114, X114, e114, st114⟩ := getS2 X109 hx hZ hown (host := "") (Or.inl (own_w hw 6 rfl)) Via.refl e109 (En1.1.ext f112.2) (g := (mkF m 13 #[.val (.int p1), .val (.int p2), .unset, .unset, .unset, .unset, .unset, .unset, .unset, .unset, .unset] [(.int (1 : Int32)), (.ref b102), (.ref b102)])) rfl (hb hby at_13)
  have p115 : Go p.tables e below _ (T114.setTop (mkF m 16 #[.val (.int p1), .val (.int p2), .unset, .unset, .unset, .unset, .unset, .unset, .unset, .unset, .unset] [(.ref w1), (.int (1 : Int32)), (.ref b102), (.ref b102)])) := fun t k => p113 t (st114 t k)
  obtain ⟨cl116, Ar116, q116, S116, Ng116, H116, G116⟩ := id V109
  have hin116 := inb_of S116 (j := (1 : Int32)) ⟨by decide, by decide⟩
  obtain ⟨T116, h116, X116, e116, W116, st116⟩ := stR X114 hx hZ e114 Ar116 (j := (1 : Int32)) hin116 rfl (Sto.ofV Ar116 q116 O102 (Ins.self (En1.2.1.ext f112.2))) (g := (mkF m 16 #[.val (.int p1), .val (.int p2), .unset, .unset, .unset, .unset, .unset, .unset, .unset, .unset, .unset] [(.ref w1), (.int (1 : Int32)), (.ref b102), (.ref b102)])) rfl rfl (hb hby at_16)
  have K117 : Keep h0 h116 [] := K110.wr W116 (Or.inr sz_b102)
  have N116 := Fr.snoc X116 N109 ge_b102
  have p118 : Go p.tables e below _ (T116.setTop (mkF m 17 #[.val (.int p1), .val (.int p2), .unset, .unset, .unset, .unset, .unset, .unset, .unset, .unset, .unset] [(.ref b102)])) := fun t k => p115 t (st116 t k)
  have V116 : Arv Z h116 b102 k102 (.object "com/example/boot_sealer/bootsealer/rp2350/ItemType") (14 : Int32) [(.ref w0), (.ref w1), .null, .null, .null, .null, .null, .null, .null, .null, .null, .null, .null, .null] .null := Arv.set Ar116 q116 S116 Ng116 H116 G116 rfl W116 1 rfl (Nat.le_of_ble_eq_true rfl)
  have f119 := (f112.wr W116 ge_b102)
  have p120 : Go p.tables e below _ (T116.setTop (mkF m 19 #[.val (.int p1), .val (.int p2), .unset, .unset, .unset, .unset, .unset, .unset, .unset, .unset, .unset] [(.int (2 : Int32)), (.ref b102), (.ref b102)])) := fun t k => p118 t (by
    show Steps p.tables e below (T116.setTop (mkF m 17 #[.val (.int p1), .val (.int p2), .unset, .unset, .unset, .unset, .unset, .unset, .unset, .unset, .unset] [(.ref b102)])) _
    refine XS.dup X116.here hx rfl (hb hby at_17) rfl rfl ?_
    show Steps p.tables e below (T116.setTop (mkF m 18 #[.val (.int p1), .val (.int p2), .unset, .unset, .unset, .unset, .unset, .unset, .unset, .unset, .unset] [(.ref b102), (.ref b102)])) _
    refine XS.iconst X116.here hx rfl (hb hby at_18) ?_
    show Steps p.tables e below (T116.setTop (mkF m 19 #[.val (.int p1), .val (.int p2), .unset, .unset, .unset, .unset, .unset, .unset, .unset, .unset, .unset] [(.int (2 : Int32)), (.ref b102), (.ref b102)])) _
    exact k)
  obtain ⟨T121, X121, e121, st121⟩ := getS2 X116 hx hZ hown (host := "") (Or.inl (own_w hw 8 rfl)) Via.refl e116 (En2.1.ext f119.2) (g := (mkF m 19 #[.val (.int p1), .val (.int p2), .unset, .unset, .unset, .unset, .unset, .unset, .unset, .unset, .unset] [(.int (2 : Int32)), (.ref b102), (.ref b102)])) rfl (hb hby at_19)
  have p122 : Go p.tables e below _ (T121.setTop (mkF m 22 #[.val (.int p1), .val (.int p2), .unset, .unset, .unset, .unset, .unset, .unset, .unset, .unset, .unset] [(.ref w2), (.int (2 : Int32)), (.ref b102), (.ref b102)])) := fun t k => p120 t (st121 t k)
  obtain ⟨cl123, Ar123, q123, S123, Ng123, H123, G123⟩ := id V116
  have hin123 := inb_of S123 (j := (2 : Int32)) ⟨by decide, by decide⟩
  obtain ⟨T123, h123, X123, e123, W123, st123⟩ := stR X121 hx hZ e121 Ar123 (j := (2 : Int32)) hin123 rfl (Sto.ofV Ar123 q123 O102 (Ins.self (En2.2.1.ext f119.2))) (g := (mkF m 22 #[.val (.int p1), .val (.int p2), .unset, .unset, .unset, .unset, .unset, .unset, .unset, .unset, .unset] [(.ref w2), (.int (2 : Int32)), (.ref b102), (.ref b102)])) rfl rfl (hb hby at_22)
  have K124 : Keep h0 h123 [] := K117.wr W123 (Or.inr sz_b102)
  have N123 := Fr.snoc X123 N116 ge_b102
  have p125 : Go p.tables e below _ (T123.setTop (mkF m 23 #[.val (.int p1), .val (.int p2), .unset, .unset, .unset, .unset, .unset, .unset, .unset, .unset, .unset] [(.ref b102)])) := fun t k => p122 t (st123 t k)
  have V123 : Arv Z h123 b102 k102 (.object "com/example/boot_sealer/bootsealer/rp2350/ItemType") (14 : Int32) [(.ref w0), (.ref w1), (.ref w2), .null, .null, .null, .null, .null, .null, .null, .null, .null, .null, .null] .null := Arv.set Ar123 q123 S123 Ng123 H123 G123 rfl W123 2 rfl (Nat.le_of_ble_eq_true rfl)
  have f126 := (f119.wr W123 ge_b102)
  have p127 : Go p.tables e below _ (T123.setTop (mkF m 25 #[.val (.int p1), .val (.int p2), .unset, .unset, .unset, .unset, .unset, .unset, .unset, .unset, .unset] [(.int (3 : Int32)), (.ref b102), (.ref b102)])) := fun t k => p125 t (by
    show Steps p.tables e below (T123.setTop (mkF m 23 #[.val (.int p1), .val (.int p2), .unset, .unset, .unset, .unset, .unset, .unset, .unset, .unset, .unset] [(.ref b102)])) _
    refine XS.dup X123.here hx rfl (hb hby at_23) rfl rfl ?_
    show Steps p.tables e below (T123.setTop (mkF m 24 #[.val (.int p1), .val (.int p2), .unset, .unset, .unset, .unset, .unset, .unset, .unset, .unset, .unset] [(.ref b102), (.ref b102)])) _
    refine XS.iconst X123.here hx rfl (hb hby at_24) ?_
    show Steps p.tables e below (T123.setTop (mkF m 25 #[.val (.int p1), .val (.int p2), .unset, .unset, .unset, .unset, .unset, .unset, .unset, .unset, .unset] [(.int (3 : Int32)), (.ref b102), (.ref b102)])) _
    exact k)
  obtain ⟨T128, X128, e128, st128⟩ := getS2 X123 hx hZ hown (host := "") (Or.inl (own_w hw 10 rfl)) Via.refl e123 (En3.1.ext f126.2) (g := (mkF m 25 #[.val (.int p1), .val (.int p2), .unset, .unset, .unset, .unset, .unset, .unset, .unset, .unset, .unset] [(.int (3 : Int32)), (.ref b102), (.ref b102)])) rfl (hb hby at_25)
  have p129 : Go p.tables e below _ (T128.setTop (mkF m 28 #[.val (.int p1), .val (.int p2), .unset, .unset, .unset, .unset, .unset, .unset, .unset, .unset, .unset] [(.ref w3), (.int (3 : Int32)), (.ref b102), (.ref b102)])) := fun t k => p127 t (st128 t k)
  obtain ⟨cl130, Ar130, q130, S130, Ng130, H130, G130⟩ := id V123
  have hin130 := inb_of S130 (j := (3 : Int32)) ⟨by decide, by decide⟩
  obtain ⟨T130, h130, X130, e130, W130, st130⟩ := stR X128 hx hZ e128 Ar130 (j := (3 : Int32)) hin130 rfl (Sto.ofV Ar130 q130 O102 (Ins.self (En3.2.1.ext f126.2))) (g := (mkF m 28 #[.val (.int p1), .val (.int p2), .unset, .unset, .unset, .unset, .unset, .unset, .unset, .unset, .unset] [(.ref w3), (.int (3 : Int32)), (.ref b102), (.ref b102)])) rfl rfl (hb hby at_28)
  have K131 : Keep h0 h130 [] := K124.wr W130 (Or.inr sz_b102)
  have N130 := Fr.snoc X130 N123 ge_b102
  have p132 : Go p.tables e below _ (T130.setTop (mkF m 29 #[.val (.int p1), .val (.int p2), .unset, .unset, .unset, .unset, .unset, .unset, .unset, .unset, .unset] [(.ref b102)])) := fun t k => p129 t (st130 t k)
  have V130 : Arv Z h130 b102 k102 (.object "com/example/boot_sealer/bootsealer/rp2350/ItemType") (14 : Int32) [(.ref w0), (.ref w1), (.ref w2), (.ref w3), .null, .null, .null, .null, .null, .null, .null, .null, .null, .null] .null := Arv.set Ar130 q130 S130 Ng130 H130 G130 rfl W130 3 rfl (Nat.le_of_ble_eq_true rfl)
  have f133 := (f126.wr W130 ge_b102)
  have p134 : Go p.tables e below _ (T130.setTop (mkF m 31 #[.val (.int p1), .val (.int p2), .unset, .unset, .unset, .unset, .unset, .unset, .unset, .unset, .unset] [(.int (4 : Int32)), (.ref b102), (.ref b102)])) := fun t k => p132 t (by
    show Steps p.tables e below (T130.setTop (mkF m 29 #[.val (.int p1), .val (.int p2), .unset, .unset, .unset, .unset, .unset, .unset, .unset, .unset, .unset] [(.ref b102)])) _
    refine XS.dup X130.here hx rfl (hb hby at_29) rfl rfl ?_
    show Steps p.tables e below (T130.setTop (mkF m 30 #[.val (.int p1), .val (.int p2), .unset, .unset, .unset, .unset, .unset, .unset, .unset, .unset, .unset] [(.ref b102), (.ref b102)])) _
    refine XS.iconst X130.here hx rfl (hb hby at_30) ?_
    show Steps p.tables e below (T130.setTop (mkF m 31 #[.val (.int p1), .val (.int p2), .unset, .unset, .unset, .unset, .unset, .unset, .unset, .unset, .unset] [(.int (4 : Int32)), (.ref b102), (.ref b102)])) _
    exact k)
  obtain ⟨T135, X135, e135, st135⟩ := getS2 X130 hx hZ hown (host := "") (Or.inl (own_w hw 12 rfl)) Via.refl e130 (En4.1.ext f133.2) (g := (mkF m 31 #[.val (.int p1), .val (.int p2), .unset, .unset, .unset, .unset, .unset, .unset, .unset, .unset, .unset] [(.int (4 : Int32)), (.ref b102), (.ref b102)])) rfl (hb hby at_31)
  have p136 : Go p.tables e below _ (T135.setTop (mkF m 34 #[.val (.int p1), .val (.int p2), .unset, .unset, .unset, .unset, .unset, .unset, .unset, .unset, .unset] [(.ref w4), (.int (4 : Int32)), (.ref b102), (.ref b102)])) := fun t k => p134 t (st135 t k)
  obtain ⟨cl137, Ar137, q137, S137, Ng137, H137, G137⟩ := id V130
  have hin137 := inb_of S137 (j := (4 : Int32)) ⟨by decide, by decide⟩
  obtain ⟨T137, h137, X137, e137, W137, st137⟩ := stR X135 hx hZ e135 Ar137 (j := (4 : Int32)) hin137 rfl (Sto.ofV Ar137 q137 O102 (Ins.self (En4.2.1.ext f133.2))) (g := (mkF m 34 #[.val (.int p1), .val (.int p2), .unset, .unset, .unset, .unset, .unset, .unset, .unset, .unset, .unset] [(.ref w4), (.int (4 : Int32)), (.ref b102), (.ref b102)])) rfl rfl (hb hby at_34)
  have K138 : Keep h0 h137 [] := K131.wr W137 (Or.inr sz_b102)
  have N137 := Fr.snoc X137 N130 ge_b102
  have p139 : Go p.tables e below _ (T137.setTop (mkF m 35 #[.val (.int p1), .val (.int p2), .unset, .unset, .unset, .unset, .unset, .unset, .unset, .unset, .unset] [(.ref b102)])) := fun t k => p136 t (st137 t k)
  have V137 : Arv Z h137 b102 k102 (.object "com/example/boot_sealer/bootsealer/rp2350/ItemType") (14 : Int32) [(.ref w0), (.ref w1), (.ref w2), (.ref w3), (.ref w4), .null, .null, .null, .null, .null, .null, .null, .null, .null] .null := Arv.set Ar137 q137 S137 Ng137 H137 G137 rfl W137 4 rfl (Nat.le_of_ble_eq_true rfl)
  have f140 := (f133.wr W137 ge_b102)
  have p141 : Go p.tables e below _ (T137.setTop (mkF m 37 #[.val (.int p1), .val (.int p2), .unset, .unset, .unset, .unset, .unset, .unset, .unset, .unset, .unset] [(.int (5 : Int32)), (.ref b102), (.ref b102)])) := fun t k => p139 t (by
    show Steps p.tables e below (T137.setTop (mkF m 35 #[.val (.int p1), .val (.int p2), .unset, .unset, .unset, .unset, .unset, .unset, .unset, .unset, .unset] [(.ref b102)])) _
    refine XS.dup X137.here hx rfl (hb hby at_35) rfl rfl ?_
    show Steps p.tables e below (T137.setTop (mkF m 36 #[.val (.int p1), .val (.int p2), .unset, .unset, .unset, .unset, .unset, .unset, .unset, .unset, .unset] [(.ref b102), (.ref b102)])) _
    refine XS.iconst X137.here hx rfl (hb hby at_36) ?_
    show Steps p.tables e below (T137.setTop (mkF m 37 #[.val (.int p1), .val (.int p2), .unset, .unset, .unset, .unset, .unset, .unset, .unset, .unset, .unset] [(.int (5 : Int32)), (.ref b102), (.ref b102)])) _
    exact k)
  obtain ⟨T142, X142, e142, st142⟩ := getS2 X137 hx hZ hown (host := "") (Or.inl (own_w hw 14 rfl)) Via.refl e137 (En5.1.ext f140.2) (g := (mkF m 37 #[.val (.int p1), .val (.int p2), .unset, .unset, .unset, .unset, .unset, .unset, .unset, .unset, .unset] [(.int (5 : Int32)), (.ref b102), (.ref b102)])) rfl (hb hby at_37)
  have p143 : Go p.tables e below _ (T142.setTop (mkF m 40 #[.val (.int p1), .val (.int p2), .unset, .unset, .unset, .unset, .unset, .unset, .unset, .unset, .unset] [(.ref w5), (.int (5 : Int32)), (.ref b102), (.ref b102)])) := fun t k => p141 t (st142 t k)
  obtain ⟨cl144, Ar144, q144, S144, Ng144, H144, G144⟩ := id V137
  have hin144 := inb_of S144 (j := (5 : Int32)) ⟨by decide, by decide⟩
  obtain ⟨T144, h144, X144, e144, W144, st144⟩ := stR X142 hx hZ e142 Ar144 (j := (5 : Int32)) hin144 rfl (Sto.ofV Ar144 q144 O102 (Ins.self (En5.2.1.ext f140.2))) (g := (mkF m 40 #[.val (.int p1), .val (.int p2), .unset, .unset, .unset, .unset, .unset, .unset, .unset, .unset, .unset] [(.ref w5), (.int (5 : Int32)), (.ref b102), (.ref b102)])) rfl rfl (hb hby at_40)
  have K145 : Keep h0 h144 [] := K138.wr W144 (Or.inr sz_b102)
  have N144 := Fr.snoc X144 N137 ge_b102
  have p146 : Go p.tables e below _ (T144.setTop (mkF m 41 #[.val (.int p1), .val (.int p2), .unset, .unset, .unset, .unset, .unset, .unset, .unset, .unset, .unset] [(.ref b102)])) := fun t k => p143 t (st144 t k)
  have V144 : Arv Z h144 b102 k102 (.object "com/example/boot_sealer/bootsealer/rp2350/ItemType") (14 : Int32) [(.ref w0), (.ref w1), (.ref w2), (.ref w3), (.ref w4), (.ref w5), .null, .null, .null, .null, .null, .null, .null, .null] .null := Arv.set Ar144 q144 S144 Ng144 H144 G144 rfl W144 5 rfl (Nat.le_of_ble_eq_true rfl)
  have f147 := (f140.wr W144 ge_b102)
  have p148 : Go p.tables e below _ (T144.setTop (mkF m 44 #[.val (.int p1), .val (.int p2), .unset, .unset, .unset, .unset, .unset, .unset, .unset, .unset, .unset] [(.int (6 : Int32)), (.ref b102), (.ref b102)])) := fun t k => p146 t (by
    show Steps p.tables e below (T144.setTop (mkF m 41 #[.val (.int p1), .val (.int p2), .unset, .unset, .unset, .unset, .unset, .unset, .unset, .unset, .unset] [(.ref b102)])) _
    refine XS.dup X144.here hx rfl (hb hby at_41) rfl rfl ?_
    show Steps p.tables e below (T144.setTop (mkF m 42 #[.val (.int p1), .val (.int p2), .unset, .unset, .unset, .unset, .unset, .unset, .unset, .unset, .unset] [(.ref b102), (.ref b102)])) _
    refine XS.bipush X144.here hx rfl (hb hby at_42) ?_
    show Steps p.tables e below (T144.setTop (mkF m 44 #[.val (.int p1), .val (.int p2), .unset, .unset, .unset, .unset, .unset, .unset, .unset, .unset, .unset] [(.int (6 : Int32)), (.ref b102), (.ref b102)])) _
    exact k)
  obtain ⟨T149, X149, e149, st149⟩ := getS2 X144 hx hZ hown (host := "") (Or.inl (own_w hw 16 rfl)) Via.refl e144 (En6.1.ext f147.2) (g := (mkF m 44 #[.val (.int p1), .val (.int p2), .unset, .unset, .unset, .unset, .unset, .unset, .unset, .unset, .unset] [(.int (6 : Int32)), (.ref b102), (.ref b102)])) rfl (hb hby at_44)
  have p150 : Go p.tables e below _ (T149.setTop (mkF m 47 #[.val (.int p1), .val (.int p2), .unset, .unset, .unset, .unset, .unset, .unset, .unset, .unset, .unset] [(.ref w6), (.int (6 : Int32)), (.ref b102), (.ref b102)])) := fun t k => p148 t (st149 t k)
  obtain ⟨cl151, Ar151, q151, S151, Ng151, H151, G151⟩ := id V144
  have hin151 := inb_of S151 (j := (6 : Int32)) ⟨by decide, by decide⟩
  obtain ⟨T151, h151, X151, e151, W151, st151⟩ := stR X149 hx hZ e149 Ar151 (j := (6 : Int32)) hin151 rfl (Sto.ofV Ar151 q151 O102 (Ins.self (En6.2.1.ext f147.2))) (g := (mkF m 47 #[.val (.int p1), .val (.int p2), .unset, .unset, .unset, .unset, .unset, .unset, .unset, .unset, .unset] [(.ref w6), (.int (6 : Int32)), (.ref b102), (.ref b102)])) rfl rfl (hb hby at_47)
  have K152 : Keep h0 h151 [] := K145.wr W151 (Or.inr sz_b102)
  have N151 := Fr.snoc X151 N144 ge_b102
  have p153 : Go p.tables e below _ (T151.setTop (mkF m 48 #[.val (.int p1), .val (.int p2), .unset, .unset, .unset, .unset, .unset, .unset, .unset, .unset, .unset] [(.ref b102)])) := fun t k => p150 t (st151 t k)
  have V151 : Arv Z h151 b102 k102 (.object "com/example/boot_sealer/bootsealer/rp2350/ItemType") (14 : Int32) [(.ref w0), (.ref w1), (.ref w2), (.ref w3), (.ref w4), (.ref w5), (.ref w6), .null, .null, .null, .null, .null, .null, .null] .null := Arv.set Ar151 q151 S151 Ng151 H151 G151 rfl W151 6 rfl (Nat.le_of_ble_eq_true rfl)
  have f154 := (f147.wr W151 ge_b102)
  have p155 : Go p.tables e below _ (T151.setTop (mkF m 51 #[.val (.int p1), .val (.int p2), .unset, .unset, .unset, .unset, .unset, .unset, .unset, .unset, .unset] [(.int (7 : Int32)), (.ref b102), (.ref b102)])) := fun t k => p153 t (by
    show Steps p.tables e below (T151.setTop (mkF m 48 #[.val (.int p1), .val (.int p2), .unset, .unset, .unset, .unset, .unset, .unset, .unset, .unset, .unset] [(.ref b102)])) _
    refine XS.dup X151.here hx rfl (hb hby at_48) rfl rfl ?_
    show Steps p.tables e below (T151.setTop (mkF m 49 #[.val (.int p1), .val (.int p2), .unset, .unset, .unset, .unset, .unset, .unset, .unset, .unset, .unset] [(.ref b102), (.ref b102)])) _
    refine XS.bipush X151.here hx rfl (hb hby at_49) ?_
    show Steps p.tables e below (T151.setTop (mkF m 51 #[.val (.int p1), .val (.int p2), .unset, .unset, .unset, .unset, .unset, .unset, .unset, .unset, .unset] [(.int (7 : Int32)), (.ref b102), (.ref b102)])) _
    exact k)
  obtain ⟨T156, X156, e156, st156⟩ := getS2 X151 hx hZ hown (host := "") (Or.inl (own_w hw 18 rfl)) Via.refl e151 (En7.1.ext f154.2) (g := (mkF m 51 #[.val (.int p1), .val (.int p2), .unset, .unset, .unset, .unset, .unset, .unset, .unset, .unset, .unset] [(.int (7 : Int32)), (.ref b102), (.ref b102)])) rfl (hb hby at_51)
  have p157 : Go p.tables e below _ (T156.setTop (mkF m 54 #[.val (.int p1), .val (.int p2), .unset, .unset, .unset, .unset, .unset, .unset, .unset, .unset, .unset] [(.ref w7), (.int (7 : Int32)), (.ref b102), (.ref b102)])) := fun t k => p155 t (st156 t k)
  obtain ⟨cl158, Ar158, q158, S158, Ng158, H158, G158⟩ := id V151
  have hin158 := inb_of S158 (j := (7 : Int32)) ⟨by decide, by decide⟩
  obtain ⟨T158, h158, X158, e158, W158, st158⟩ := stR X156 hx hZ e156 Ar158 (j := (7 : Int32)) hin158 rfl (Sto.ofV Ar158 q158 O102 (Ins.self (En7.2.1.ext f154.2))) (g := (mkF m 54 #[.val (.int p1), .val (.int p2), .unset, .unset, .unset, .unset, .unset, .unset, .unset, .unset, .unset] [(.ref w7), (.int (7 : Int32)), (.ref b102), (.ref b102)])) rfl rfl (hb hby at_54)
  have K159 : Keep h0 h158 [] := K152.wr W158 (Or.inr sz_b102)
  have N158 := Fr.snoc X158 N151 ge_b102
  have p160 : Go p.tables e below _ (T158.setTop (mkF m 55 #[.val (.int p1), .val (.int p2), .unset, .unset, .unset, .unset, .unset, .unset, .unset, .unset, .unset] [(.ref b102)])) := fun t k => p157 t (st158 t k)
  have V158 : Arv Z h158 b102 k102 (.object "com/example/boot_sealer/bootsealer/rp2350/ItemType") (14 : Int32) [(.ref w0), (.ref w1), (.ref w2), (.ref w3), (.ref w4), (.ref w5), (.ref w6), (.ref w7), .null, .null, .null, .null, .null, .null] .null := Arv.set Ar158 q158 S158 Ng158 H158 G158 rfl W158 7 rfl (Nat.le_of_ble_eq_true rfl)
  have f161 := (f154.wr W158 ge_b102)
  have p162 : Go p.tables e below _ (T158.setTop (mkF m 58 #[.val (.int p1), .val (.int p2), .unset, .unset, .unset, .unset, .unset, .unset, .unset, .unset, .unset] [(.int (8 : Int32)), (.ref b102), (.ref b102)])) := fun t k => p160 t (by
    show Steps p.tables e below (T158.setTop (mkF m 55 #[.val (.int p1), .val (.int p2), .unset, .unset, .unset, .unset, .unset, .unset, .unset, .unset, .unset] [(.ref b102)])) _
    refine XS.dup X158.here hx rfl (hb hby at_55) rfl rfl ?_
    show Steps p.tables e below (T158.setTop (mkF m 56 #[.val (.int p1), .val (.int p2), .unset, .unset, .unset, .unset, .unset, .unset, .unset, .unset, .unset] [(.ref b102), (.ref b102)])) _
    refine XS.bipush X158.here hx rfl (hb hby at_56) ?_
    show Steps p.tables e below (T158.setTop (mkF m 58 #[.val (.int p1), .val (.int p2), .unset, .unset, .unset, .unset, .unset, .unset, .unset, .unset, .unset] [(.int (8 : Int32)), (.ref b102), (.ref b102)])) _
    exact k)
  obtain ⟨T163, X163, e163, st163⟩ := getS2 X158 hx hZ hown (host := "") (Or.inl (own_w hw 20 rfl)) Via.refl e158 (En8.1.ext f161.2) (g := (mkF m 58 #[.val (.int p1), .val (.int p2), .unset, .unset, .unset, .unset, .unset, .unset, .unset, .unset, .unset] [(.int (8 : Int32)), (.ref b102), (.ref b102)])) rfl (hb hby at_58)
  have p164 : Go p.tables e below _ (T163.setTop (mkF m 61 #[.val (.int p1), .val (.int p2), .unset, .unset, .unset, .unset, .unset, .unset, .unset, .unset, .unset] [(.ref w8), (.int (8 : Int32)), (.ref b102), (.ref b102)])) := fun t k => p162 t (st163 t k)
  obtain ⟨cl165, Ar165, q165, S165, Ng165, H165, G165⟩ := id V158
  have hin165 := inb_of S165 (j := (8 : Int32)) ⟨by decide, by decide⟩
  obtain ⟨T165, h165, X165, e165, W165, st165⟩ := stR X163 hx hZ e163 Ar165 (j := (8 : Int32)) hin165 rfl (Sto.ofV Ar165 q165 O102 (Ins.self (En8.2.1.ext f161.2))) (g := (mkF m 61 #[.val (.int p1), .val (.int p2), .unset, .unset, .unset, .unset, .unset, .unset, .unset, .unset, .unset] [(.ref w8), (.int (8 : Int32)), (.ref b102), (.ref b102)])) rfl rfl (hb hby at_61)
  have K166 : Keep h0 h165 [] := K159.wr W165 (Or.inr sz_b102)
  have N165 := Fr.snoc X165 N158 ge_b102
  have p167 : Go p.tables e below _ (T165.setTop (mkF m 62 #[.val (.int p1), .val (.int p2), .unset, .unset, .unset, .unset, .unset, .unset, .unset, .unset, .unset] [(.ref b102)])) := fun t k => p164 t (st165 t k)
  have V165 : Arv Z h165 b102 k102 (.object "com/example/boot_sealer/bootsealer/rp2350/ItemType") (14 : Int32) [(.ref w0), (.ref w1), (.ref w2), (.ref w3), (.ref w4), (.ref w5), (.ref w6), (.ref w7), (.ref w8), .null, .null, .null, .null, .null] .null := Arv.set Ar165 q165 S165 Ng165 H165 G165 rfl W165 8 rfl (Nat.le_of_ble_eq_true rfl)
  have f168 := (f161.wr W165 ge_b102)
  have p169 : Go p.tables e below _ (T165.setTop (mkF m 65 #[.val (.int p1), .val (.int p2), .unset, .unset, .unset, .unset, .unset, .unset, .unset, .unset, .unset] [(.int (9 : Int32)), (.ref b102), (.ref b102)])) := fun t k => p167 t (by
    show Steps p.tables e below (T165.setTop (mkF m 62 #[.val (.int p1), .val (.int p2), .unset, .unset, .unset, .unset, .unset, .unset, .unset, .unset, .unset] [(.ref b102)])) _
    refine XS.dup X165.here hx rfl (hb hby at_62) rfl rfl ?_
    show Steps p.tables e below (T165.setTop (mkF m 63 #[.val (.int p1), .val (.int p2), .unset, .unset, .unset, .unset, .unset, .unset, .unset, .unset, .unset] [(.ref b102), (.ref b102)])) _
    refine XS.bipush X165.here hx rfl (hb hby at_63) ?_
    show Steps p.tables e below (T165.setTop (mkF m 65 #[.val (.int p1), .val (.int p2), .unset, .unset, .unset, .unset, .unset, .unset, .unset, .unset, .unset] [(.int (9 : Int32)), (.ref b102), (.ref b102)])) _
    exact k)
  obtain ⟨T170, X170, e170, st170⟩ := getS2 X165 hx hZ hown (host := "") (Or.inl (own_w hw 22 rfl)) Via.refl e165 (En9.1.ext f168.2) (g := (mkF m 65 #[.val (.int p1), .val (.int p2), .unset, .unset, .unset, .unset, .unset, .unset, .unset, .unset, .unset] [(.int (9 : Int32)), (.ref b102), (.ref b102)])) rfl (hb hby at_65)
  have p171 : Go p.tables e below _ (T170.setTop (mkF m 68 #[.val (.int p1), .val (.int p2), .unset, .unset, .unset, .unset, .unset, .unset, .unset, .unset, .unset] [(.ref w9), (.int (9 : Int32)), (.ref b102), (.ref b102)])) := fun t k => p169 t (st170 t k)
  obtain ⟨cl172, Ar172, q172, S172, Ng172, H172, G172⟩ := id V165
  have hin172 := inb_of S172 (j := (9 : Int32)) ⟨by decide, by decide⟩
  obtain ⟨T172, h172, X172, e172, W172, st172⟩ := stR X170 hx hZ e170 Ar172 (j := (9 : Int32)) hin172 rfl (Sto.ofV Ar172 q172 O102 (Ins.self (En9.2.1.ext f168.2))) (g := (mkF m 68 #[.val (.int p1), .val (.int p2), .unset, .unset, .unset, .unset, .unset, .unset, .unset, .unset, .unset] [(.ref w9), (.int (9 : Int32)), (.ref b102), (.ref b102)])) rfl rfl (hb hby at_68)
  have K173 : Keep h0 h172 [] := K166.wr W172 (Or.inr sz_b102)
  have N172 := Fr.snoc X172 N165 ge_b102
  have p174 : Go p.tables e below _ (T172.setTop (mkF m 69 #[.val (.int p1), .val (.int p2), .unset, .unset, .unset, .unset, .unset, .unset, .unset, .unset, .unset] [(.ref b102)])) := fun t k => p171 t (st172 t k)
  have V172 : Arv Z h172 b102 k102 (.object "com/example/boot_sealer/bootsealer/rp2350/ItemType") (14 : Int32) [(.ref w0), (.ref w1), (.ref w2), (.ref w3), (.ref w4), (.ref w5), (.ref w6), (.ref w7), (.ref w8), (.ref w9), .null, .null, .null, .null] .null := Arv.set Ar172 q172 S172 Ng172 H172 G172 rfl W172 9 rfl (Nat.le_of_ble_eq_true rfl)
  have f175 := (f168.wr W172 ge_b102)
  have p176 : Go p.tables e below _ (T172.setTop (mkF m 72 #[.val (.int p1), .val (.int p2), .unset, .unset, .unset, .unset, .unset, .unset, .unset, .unset, .unset] [(.int (10 : Int32)), (.ref b102), (.ref b102)])) := fun t k => p174 t (by
    show Steps p.tables e below (T172.setTop (mkF m 69 #[.val (.int p1), .val (.int p2), .unset, .unset, .unset, .unset, .unset, .unset, .unset, .unset, .unset] [(.ref b102)])) _
    refine XS.dup X172.here hx rfl (hb hby at_69) rfl rfl ?_
    show Steps p.tables e below (T172.setTop (mkF m 70 #[.val (.int p1), .val (.int p2), .unset, .unset, .unset, .unset, .unset, .unset, .unset, .unset, .unset] [(.ref b102), (.ref b102)])) _
    refine XS.bipush X172.here hx rfl (hb hby at_70) ?_
    show Steps p.tables e below (T172.setTop (mkF m 72 #[.val (.int p1), .val (.int p2), .unset, .unset, .unset, .unset, .unset, .unset, .unset, .unset, .unset] [(.int (10 : Int32)), (.ref b102), (.ref b102)])) _
    exact k)
  obtain ⟨T177, X177, e177, st177⟩ := getS2 X172 hx hZ hown (host := "") (Or.inl (own_w hw 24 rfl)) Via.refl e172 (En10.1.ext f175.2) (g := (mkF m 72 #[.val (.int p1), .val (.int p2), .unset, .unset, .unset, .unset, .unset, .unset, .unset, .unset, .unset] [(.int (10 : Int32)), (.ref b102), (.ref b102)])) rfl (hb hby at_72)
  have p178 : Go p.tables e below _ (T177.setTop (mkF m 75 #[.val (.int p1), .val (.int p2), .unset, .unset, .unset, .unset, .unset, .unset, .unset, .unset, .unset] [(.ref w10), (.int (10 : Int32)), (.ref b102), (.ref b102)])) := fun t k => p176 t (st177 t k)
  obtain ⟨cl179, Ar179, q179, S179, Ng179, H179, G179⟩ := id V172
  have hin179 := inb_of S179 (j := (10 : Int32)) ⟨by decide, by decide⟩
  obtain ⟨T179, h179, X179, e179, W179, st179⟩ := stR X177 hx hZ e177 Ar179 (j := (10 : Int32)) hin179 rfl (Sto.ofV Ar179 q179 O102 (Ins.self (En10.2.1.ext f175.2))) (g := (mkF m 75 #[.val (.int p1), .val (.int p2), .unset, .unset, .unset, .unset, .unset, .unset, .unset, .unset, .unset] [(.ref w10), (.int (10 : Int32)), (.ref b102), (.ref b102)])) rfl rfl (hb hby at_75)
  have K180 : Keep h0 h179 [] := K173.wr W179 (Or.inr sz_b102)
  have N179 := Fr.snoc X179 N172 ge_b102
  have p181 : Go p.tables e below _ (T179.setTop (mkF m 76 #[.val (.int p1), .val (.int p2), .unset, .unset, .unset, .unset, .unset, .unset, .unset, .unset, .unset] [(.ref b102)])) := fun t k => p178 t (st179 t k)
  have V179 : Arv Z h179 b102 k102 (.object "com/example/boot_sealer/bootsealer/rp2350/ItemType") (14 : Int32) [(.ref w0), (.ref w1), (.ref w2), (.ref w3), (.ref w4), (.ref w5), (.ref w6), (.ref w7), (.ref w8), (.ref w9), (.ref w10), .null, .null, .null] .null := Arv.set Ar179 q179 S179 Ng179 H179 G179 rfl W179 10 rfl (Nat.le_of_ble_eq_true rfl)
  have f182 := (f175.wr W179 ge_b102)
  have p183 : Go p.tables e below _ (T179.setTop (mkF m 79 #[.val (.int p1), .val (.int p2), .unset, .unset, .unset, .unset, .unset, .unset, .unset, .unset, .unset] [(.int (11 : Int32)), (.ref b102), (.ref b102)])) := fun t k => p181 t (by
    show Steps p.tables e below (T179.setTop (mkF m 76 #[.val (.int p1), .val (.int p2), .unset, .unset, .unset, .unset, .unset, .unset, .unset, .unset, .unset] [(.ref b102)])) _
    refine XS.dup X179.here hx rfl (hb hby at_76) rfl rfl ?_
    show Steps p.tables e below (T179.setTop (mkF m 77 #[.val (.int p1), .val (.int p2), .unset, .unset, .unset, .unset, .unset, .unset, .unset, .unset, .unset] [(.ref b102), (.ref b102)])) _
    refine XS.bipush X179.here hx rfl (hb hby at_77) ?_
    show Steps p.tables e below (T179.setTop (mkF m 79 #[.val (.int p1), .val (.int p2), .unset, .unset, .unset, .unset, .unset, .unset, .unset, .unset, .unset] [(.int (11 : Int32)), (.ref b102), (.ref b102)])) _
    exact k)
  obtain ⟨T184, X184, e184, st184⟩ := getS2 X179 hx hZ hown (host := "") (Or.inl (own_w hw 26 rfl)) Via.refl e179 (En11.1.ext f182.2) (g := (mkF m 79 #[.val (.int p1), .val (.int p2), .unset, .unset, .unset, .unset, .unset, .unset, .unset, .unset, .unset] [(.int (11 : Int32)), (.ref b102), (.ref b102)])) rfl (hb hby at_79)
  have p185 : Go p.tables e below _ (T184.setTop (mkF m 82 #[.val (.int p1), .val (.int p2), .unset, .unset, .unset, .unset, .unset, .unset, .unset, .unset, .unset] [(.ref w11), (.int (11 : Int32)), (.ref b102), (.ref b102)])) := fun t k => p183 t (st184 t k)
  obtain ⟨cl186, Ar186, q186, S186, Ng186, H186, G186⟩ := id V179
  have hin186 := inb_of S186 (j := (11 : Int32)) ⟨by decide, by decide⟩
  obtain ⟨T186, h186, X186, e186, W186, st186⟩ := stR X184 hx hZ e184 Ar186 (j := (11 : Int32)) hin186 rfl (Sto.ofV Ar186 q186 O102 (Ins.self (En11.2.1.ext f182.2))) (g := (mkF m 82 #[.val (.int p1), .val (.int p2), .unset, .unset, .unset, .unset, .unset, .unset, .unset, .unset, .unset] [(.ref w11), (.int (11 : Int32)), (.ref b102), (.ref b102)])) rfl rfl (hb hby at_82)
  have K187 : Keep h0 h186 [] := K180.wr W186 (Or.inr sz_b102)
  have N186 := Fr.snoc X186 N179 ge_b102
  have p188 : Go p.tables e below _ (T186.setTop (mkF m 83 #[.val (.int p1), .val (.int p2), .unset, .unset, .unset, .unset, .unset, .unset, .unset, .unset, .unset] [(.ref b102)])) := fun t k => p185 t (st186 t k)
  have V186 : Arv Z h186 b102 k102 (.object "com/example/boot_sealer/bootsealer/rp2350/ItemType") (14 : Int32) [(.ref w0), (.ref w1), (.ref w2), (.ref w3), (.ref w4), (.ref w5), (.ref w6), (.ref w7), (.ref w8), (.ref w9), (.ref w10), (.ref w11), .null, .null] .null := Arv.set Ar186 q186 S186 Ng186 H186 G186 rfl W186 11 rfl (Nat.le_of_ble_eq_true rfl)
  have f189 := (f182.wr W186 ge_b102)
  have p190 : Go p.tables e below _ (T186.setTop (mkF m 86 #[.val (.int p1), .val (.int p2), .unset, .unset, .unset, .unset, .unset, .unset, .unset, .unset, .unset] [(.int (12 : Int32)), (.ref b102), (.ref b102)])) := fun t k => p188 t (by
    show Steps p.tables e below (T186.setTop (mkF m 83 #[.val (.int p1), .val (.int p2), .unset, .unset, .unset, .unset, .unset, .unset, .unset, .unset, .unset] [(.ref b102)])) _
    refine XS.dup X186.here hx rfl (hb hby at_83) rfl rfl ?_
    show Steps p.tables e below (T186.setTop (mkF m 84 #[.val (.int p1), .val (.int p2), .unset, .unset, .unset, .unset, .unset, .unset, .unset, .unset, .unset] [(.ref b102), (.ref b102)])) _
    refine XS.bipush X186.here hx rfl (hb hby at_84) ?_
    show Steps p.tables e below (T186.setTop (mkF m 86 #[.val (.int p1), .val (.int p2), .unset, .unset, .unset, .unset, .unset, .unset, .unset, .unset, .unset] [(.int (12 : Int32)), (.ref b102), (.ref b102)])) _
    exact k)
  obtain ⟨T191, X191, e191, st191⟩ := getS2 X186 hx hZ hown (host := "") (Or.inl (own_w hw 28 rfl)) Via.refl e186 (En12.1.ext f189.2) (g := (mkF m 86 #[.val (.int p1), .val (.int p2), .unset, .unset, .unset, .unset, .unset, .unset, .unset, .unset, .unset] [(.int (12 : Int32)), (.ref b102), (.ref b102)])) rfl (hb hby at_86)
  have p192 : Go p.tables e below _ (T191.setTop (mkF m 89 #[.val (.int p1), .val (.int p2), .unset, .unset, .unset, .unset, .unset, .unset, .unset, .unset, .unset] [(.ref w12), (.int (12 : Int32)), (.ref b102), (.ref b102)])) := fun t k => p190 t (st191 t k)
  obtain ⟨cl193, Ar193, q193, S193, Ng193, H193, G193⟩ := id V186
  have hin193 := inb_of S193 (j := (12 : Int32)) ⟨by decide, by decide⟩
  obtain ⟨T193, h193, X193, e193, W193, st193⟩ := stR X191 hx hZ e191 Ar193 (j := (12 : Int32)) hin193 rfl (Sto.ofV Ar193 q193 O102 (Ins.self (En12.2.1.ext f189.2))) (g := (mkF m 89 #[.val (.int p1), .val (.int p2), .unset, .unset, .unset, .unset, .unset, .unset, .unset, .unset, .unset] [(.ref w12), (.int (12 : Int32)), (.ref b102), (.ref b102)])) rfl rfl (hb hby at_89)
  have K194 : Keep h0 h193 [] := K187.wr W193 (Or.inr sz_b102)
  have N193 := Fr.snoc X193 N186 ge_b102
  have p195 : Go p.tables e below _ (T193.setTop (mkF m 90 #[.val (.int p1), .val (.int p2), .unset, .unset, .unset, .unset, .unset, .unset, .unset, .unset, .unset] [(.ref b102)])) := fun t k => p192 t (st193 t k)
  have V193 : Arv Z h193 b102 k102 (.object "com/example/boot_sealer/bootsealer/rp2350/ItemType") (14 : Int32) [(.ref w0), (.ref w1), (.ref w2), (.ref w3), (.ref w4), (.ref w5), (.ref w6), (.ref w7), (.ref w8), (.ref w9), (.ref w10), (.ref w11), (.ref w12), .null] .null := Arv.set Ar193 q193 S193 Ng193 H193 G193 rfl W193 12 rfl (Nat.le_of_ble_eq_true rfl)
  have f196 := (f189.wr W193 ge_b102)
  have p197 : Go p.tables e below _ (T193.setTop (mkF m 93 #[.val (.int p1), .val (.int p2), .unset, .unset, .unset, .unset, .unset, .unset, .unset, .unset, .unset] [(.int (13 : Int32)), (.ref b102), (.ref b102)])) := fun t k => p195 t (by
    show Steps p.tables e below (T193.setTop (mkF m 90 #[.val (.int p1), .val (.int p2), .unset, .unset, .unset, .unset, .unset, .unset, .unset, .unset, .unset] [(.ref b102)])) _
    refine XS.dup X193.here hx rfl (hb hby at_90) rfl rfl ?_
    show Steps p.tables e below (T193.setTop (mkF m 91 #[.val (.int p1), .val (.int p2), .unset, .unset, .unset, .unset, .unset, .unset, .unset, .unset, .unset] [(.ref b102), (.ref b102)])) _
    refine XS.bipush X193.here hx rfl (hb hby at_91) ?_
    show Steps p.tables e below (T193.setTop (mkF m 93 #[.val (.int p1), .val (.int p2), .unset, .unset, .unset, .unset, .unset, .unset, .unset, .unset, .unset] [(.int (13 : Int32)), (.ref b102), (.ref b102)])) _
    exact k)
  obtain ⟨T198, X198, e198, st198⟩ := getS2 X193 hx hZ hown (host := "") (Or.inl (own_w hw 30 rfl)) Via.refl e193 (En13.1.ext f196.2) (g := (mkF m 93 #[.val (.int p1), .val (.int p2), .unset, .unset, .unset, .unset, .unset, .unset, .unset, .unset, .unset] [(.int (13 : Int32)), (.ref b102), (.ref b102)])) rfl (hb hby at_93)
  have p199 : Go p.tables e below _ (T198.setTop (mkF m 96 #[.val (.int p1), .val (.int p2), .unset, .unset, .unset, .unset, .unset, .unset, .unset, .unset, .unset] [(.ref w13), (.int (13 : Int32)), (.ref b102), (.ref b102)])) := fun t k => p197 t (st198 t k)
  obtain ⟨cl200, Ar200, q200, S200, Ng200, H200, G200⟩ := id V193
  have hin200 := inb_of S200 (j := (13 : Int32)) ⟨by decide, by decide⟩
  obtain ⟨T200, h200, X200, e200, W200, st200⟩ := stR X198 hx hZ e198 Ar200 (j := (13 : Int32)) hin200 rfl (Sto.ofV Ar200 q200 O102 (Ins.self (En13.2.1.ext f196.2))) (g := (mkF m 96 #[.val (.int p1), .val (.int p2), .unset, .unset, .unset, .unset, .unset, .unset, .unset, .unset, .unset] [(.ref w13), (.int (13 : Int32)), (.ref b102), (.ref b102)])) rfl rfl (hb hby at_96)
  have K201 : Keep h0 h200 [] := K194.wr W200 (Or.inr sz_b102)
  have N200 := Fr.snoc X200 N193 ge_b102
  have p202 : Go p.tables e below _ (T200.setTop (mkF m 97 #[.val (.int p1), .val (.int p2), .unset, .unset, .unset, .unset, .unset, .unset, .unset, .unset, .unset] [(.ref b102)])) := fun t k => p199 t (st200 t k)
  have V200 : Arv Z h200 b102 k102 (.object "com/example/boot_sealer/bootsealer/rp2350/ItemType") (14 : Int32) [(.ref w0), (.ref w1), (.ref w2), (.ref w3), (.ref w4), (.ref w5), (.ref w6), (.ref w7), (.ref w8), (.ref w9), (.ref w10), (.ref w11), (.ref w12), (.ref w13)] .null := Arv.set Ar200 q200 S200 Ng200 H200 G200 rfl W200 13 rfl (Nat.le_of_ble_eq_true rfl)
  have p203 : Go p.tables e below _ (T200.setTop (mkF m 106 #[.val (.int p1), .val (.int p2), .val (.ref b102), .unset, .unset, .unset, .unset, .unset, .unset, .unset, .unset] [(.int ((p2 &&& (2147483647 : Int32)) % (14 : Int32))), (.ref b102)])) := fun t k => p202 t (by
    show Steps p.tables e below (T200.setTop (mkF m 97 #[.val (.int p1), .val (.int p2), .unset, .unset, .unset, .unset, .unset, .unset, .unset, .unset, .unset] [(.ref b102)])) _
    refine XS.astoreN X200.here hx rfl (hb hby at_97) rfl rfl (l' := #[.val (.int p1), .val (.int p2), .val (.ref b102), .unset, .unset, .unset, .unset, .unset, .unset, .unset, .unset]) rfl ?_
    show Steps p.tables e below (T200.setTop (mkF m 98 #[.val (.int p1), .val (.int p2), .val (.ref b102), .unset, .unset, .unset, .unset, .unset, .unset, .unset, .unset] [])) _
    refine XS.aloadN X200.here hx rfl (hb hby at_98) rfl rfl ?_
    show Steps p.tables e below (T200.setTop (mkF m 99 #[.val (.int p1), .val (.int p2), .val (.ref b102), .unset, .unset, .unset, .unset, .unset, .unset, .unset, .unset] [(.ref b102)])) _
    refine XS.iloadN X200.here hx rfl (hb hby at_99) rfl ?_
    show Steps p.tables e below (T200.setTop (mkF m 100 #[.val (.int p1), .val (.int p2), .val (.ref b102), .unset, .unset, .unset, .unset, .unset, .unset, .unset, .unset] [(.int p2), (.ref b102)])) _
    refine X200.ldcInt hx hown (mvT hZ (own_w hw 32 rfl)) (g := (mkF m 100 #[.val (.int p1), .val (.int p2), .val (.ref b102), .unset, .unset, .unset, .unset, .unset, .unset, .unset, .unset] [(.int p2), (.ref b102)])) rfl (hb hby at_100) _ ?_
    show Steps p.tables e below (T200.setTop (mkF m 102 #[.val (.int p1), .val (.int p2), .val (.ref b102), .unset, .unset, .unset, .unset, .unset, .unset, .unset, .unset] [(.int (2147483647 : Int32)), (.int p2), (.ref b102)])) _
    refine XS.iand X200.here hx rfl (hb hby at_102) rfl ?_
    show Steps p.tables e below (T200.setTop (mkF m 103 #[.val (.int p1), .val (.int p2), .val (.ref b102), .unset, .unset, .unset, .unset, .unset, .unset, .unset, .unset] [(.int (p2 &&& (2147483647 : Int32))), (.ref b102)])) _
    refine XS.bipush X200.here hx rfl (hb hby at_103) ?_
    show Steps p.tables e below (T200.setTop (mkF m 105 #[.val (.int p1), .val (.int p2), .val (.ref b102), .unset, .unset, .unset, .unset, .unset, .unset, .unset, .unset] [(.int (14 : Int32)), (.int (p2 &&& (2147483647 : Int32))), (.ref b102)])) _
    refine Jvm.RoadKit.iremM X200 hx rfl (hb hby at_105) rfl (by decide) ?_
    show Steps p.tables e below (T200.setTop (mkF m 106 #[.val (.int p1), .val (.int p2), .val (.ref b102), .unset, .unset, .unset, .unset, .unset, .unset, .unset, .unset] [(.int ((p2 &&& (2147483647 : Int32)) % (14 : Int32))), (.ref b102)])) _
    exact k)
  obtain ⟨o, ho⟩ : ∃ z, z = ((p2 &&& (2147483647 : Int32)) % (14 : Int32)) := ⟨_, rfl⟩
  have p204 : Go p.tables e below (s₁.setTop (entryFrame m #[(.int p1), (.int p2)] maxLocals)) (T200.setTop (mkF m 106 #[.val (.int p1), .val (.int p2), .val (.ref b102), .unset, .unset, .unset, .unset, .unset, .unset, .unset, .unset] [(.int o), (.ref b102)])) := by rw [ho]; exact p203
  obtain ⟨tt, cc, ht, Et, Ct, hfc, hio⟩ : ∃ (t : Addr) (c : Int32), ([(.ref w0), (.ref w1), (.ref w2), (.ref w3), (.ref w4), (.ref w5), (.ref w6), (.ref w7), (.ref w8), (.ref w9), (.ref w10), (.ref w11), (.ref w12), (.ref w13)] : List Value).getD o.toNatClampNeg .null = .ref t ∧ Exa Z Z.heap t "com/example/boot_sealer/bootsealer/rp2350/ItemType" ∧ Fld Z Z.heap t "com/example/boot_sealer/bootsealer/rp2350/ItemType" "code" "I" (.int c) ∧ own_fc c w0 w1 w2 w3 w4 w5 w6 w7 w8 w9 w10 w11 w12 w13 = t ∧ (¬ o < 0 ∧ o < (14 : Int32)) := by
    rcases (ho ▸ own_rem14 p2 : o = 0 ∨ o = 1 ∨ o = 2 ∨ o = 3 ∨ o = 4 ∨ o = 5 ∨ o = 6 ∨ o = 7 ∨ o = 8 ∨ o = 9 ∨ o = 10 ∨ o = 11 ∨ o = 12 ∨ o = 13) with ro | ro | ro | ro | ro | ro | ro | ro | ro | ro | ro | ro | ro | ro
    · rw [ro]; exact ⟨w0, 3, rfl, En0.2.1, En0.2.2, by simp [own_fc], by decide, by decide⟩
    · rw [ro]; exact ⟨w1, 5, rfl, En1.2.1, En1.2.2, by simp [own_fc], by decide, by decide⟩
    · rw [ro]; exact ⟨w2, 6, rfl, En2.2.1, En2.2.2, by simp [own_fc], by decide, by decide⟩
    · rw [ro]; exact ⟨w3, 9, rfl, En3.2.1, En3.2.2, by simp [own_fc], by decide, by decide⟩
    · rw [ro]; exact ⟨w4, 10, rfl, En4.2.1, En4.2.2, by simp [own_fc], by decide, by decide⟩
    · rw [ro]; exact ⟨w5, 12, rfl, En5.2.1, En5.2.2, by simp [own_fc], by decide, by decide⟩
    · rw [ro]; exact ⟨w6, 65, rfl, En6.2.1, En6.2.2, by simp [own_fc], by decide, by decide⟩
    · rw [ro]; exact ⟨w7, 66, rfl, En7.2.1, En7.2.2, by simp [own_fc], by decide, by decide⟩
    · rw [ro]; exact ⟨w8, 68, rfl, En8.2.1, En8.2.2, by simp [own_fc], by decide, by decide⟩
    · rw [ro]; exact ⟨w9, 71, rfl, En9.2.1, En9.2.2, by simp [own_fc], by decide, by decide⟩
    · rw [ro]; exact ⟨w10, 72, rfl, En10.2.1, En10.2.2, by simp [own_fc], by decide, by decide⟩
    · rw [ro]; exact ⟨w11, 75, rfl, En11.2.1, En11.2.2, by simp [own_fc], by decide, by decide⟩
    · rw [ro]; exact ⟨w12, 254, rfl, En12.2.1, En12.2.2, by simp [own_fc], by decide, by decide⟩
    · rw [ro]; exact ⟨w13, (-1), rfl, En13.2.1, En13.2.2, by simp [own_fc], by decide, by decide⟩
  obtain ⟨cl205, Ar205, q205, S205, Ng205, H205, G205⟩ := id V200
  have hin205 := inb_of S205 (j := o) hio
  have hat205 := H205.at (v := (.ref tt)) hin205 ht
  have p206 : Go p.tables e below _ (T200.setTop (mkF m 116 #[.val (.int p1), .val (.int p2), .val (.ref b102), .val (.ref tt), .val (.int (p1 &&& (511 : Int32))), .unset, .unset, .unset, .unset, .unset, .unset] [(.int p1)])) := fun t k => p204 t (by
    show Steps p.tables e below (T200.setTop (mkF m 106 #[.val (.int p1), .val (.int p2), .val (.ref b102), .unset, .unset, .unset, .unset, .unset, .unset, .unset, .unset] [(.int o), (.ref b102)])) _
    refine X200.aaload hx (j := o) (v := (.ref tt)) (by rw [e200]; exact Ar205.1) (State.isArrayOf_alike hZ.alike Ar205.2.1) rfl Ar205.2.2 hin205 hat205 (g := (mkF m 106 #[.val (.int p1), .val (.int p2), .val (.ref b102), .unset, .unset, .unset, .unset, .unset, .unset, .unset, .unset] [(.int o), (.ref b102)])) rfl rfl (hb hby at_106) _ ?_
    show Steps p.tables e below (T200.setTop (mkF m 107 #[.val (.int p1), .val (.int p2), .val (.ref b102), .unset, .unset, .unset, .unset, .unset, .unset, .unset, .unset] [(.ref tt)])) _
    refine XS.astoreN X200.here hx rfl (hb hby at_107) rfl rfl (l' := #[.val (.int p1), .val (.int p2), .val (.ref b102), .val (.ref tt), .unset, .unset, .unset, .unset, .unset, .unset, .unset]) rfl ?_
    show Steps p.tables e below (T200.setTop (mkF m 108 #[.val (.int p1), .val (.int p2), .val (.ref b102), .val (.ref tt), .unset, .unset, .unset, .unset, .unset, .unset, .unset] [])) _
    refine XS.iloadN X200.here hx rfl (hb hby at_108) rfl ?_
    show Steps p.tables e below (T200.setTop (mkF m 109 #[.val (.int p1), .val (.int p2), .val (.ref b102), .val (.ref tt), .unset, .unset, .unset, .unset, .unset, .unset, .unset] [(.int p1)])) _
    refine XS.sipush X200.here hx rfl (hb hby at_109) ?_
    show Steps p.tables e below (T200.setTop (mkF m 112 #[.val (.int p1), .val (.int p2), .val (.ref b102), .val (.ref tt), .unset, .unset, .unset, .unset, .unset, .unset, .unset] [(.int (511 : Int32)), (.int p1)])) _
    refine XS.iand X200.here hx rfl (hb hby at_112) rfl ?_
    show Steps p.tables e below (T200.setTop (mkF m 113 #[.val (.int p1), .val (.int p2), .val (.ref b102), .val (.ref tt), .unset, .unset, .unset, .unset, .unset, .unset, .unset] [(.int (p1 &&& (511 : Int32)))])) _
    refine XS.istore X200.here hx rfl (hb hby at_113) rfl (l' := #[.val (.int p1), .val (.int p2), .val (.ref b102), .val (.ref tt), .val (.int (p1 &&& (511 : Int32))), .unset, .unset, .unset, .unset, .unset, .unset]) rfl ?_
    show Steps p.tables e below (T200.setTop (mkF m 115 #[.val (.int p1), .val (.int p2), .val (.ref b102), .val (.ref tt), .val (.int (p1 &&& (511 : Int32))), .unset, .unset, .unset, .unset, .unset, .unset] [])) _
    refine XS.iloadN X200.here hx rfl (hb hby at_115) rfl ?_
    show Steps p.tables e below (T200.setTop (mkF m 116 #[.val (.int p1), .val (.int p2), .val (.ref b102), .val (.ref tt), .val (.int (p1 &&& (511 : Int32))), .unset, .unset, .unset, .unset, .unset, .unset] [(.int p1)])) _
    exact k)
  have f207 := (f196.wr W200 ge_b102)
  obtain ⟨_, _, ⟨T208, L208, k208, n208⟩, -, X208, ⟨Lc208, hQ208, l208, y208, z208⟩, st208⟩ := Jvm.LawKit.callS X200 hx (y := (⟨"com/example/boot_sealer/bootsealer/rp2350/ItemType", "forCode", "(I)Lcom/example/boot_sealer/bootsealer/rp2350/ItemType;"⟩ : MethodName)) hown (mvT hZ (own_w hw 33 rfl)) (mvT hZ (own_w hw 34 rfl)) (mvT hZ (own_w hw 3 rfl)) (mvT hZ (own_w hw 35 rfl)) (by decide) (backOf (W := 0) (rm1 l Z a0 hw [] p1 w0 w1 w2 w3 w4 w5 w6 w7 w8 w9 w10 w11 w12 w13 wv kv h200 n0 (Nat.le_trans Z0 K201.1) f207 En0 En1 En2 En3 En4 En5 En6 En7 En8 En9 En10 En11 En12 En13 SV EV VV) hZ (own_w hw 35 rfl) (own_w hw 3 rfl) (by decide) (by decide)) (g := (mkF m 116 #[.val (.int p1), .val (.int p2), .val (.ref b102), .val (.ref tt), .val (.int (p1 &&& (511 : Int32))), .unset, .unset, .unset, .unset, .unset, .unset] [(.int p1)])) rfl (by rw [hml]; rfl) (argsL := [(.int p1)]) (rest := []) (lenOf pd1 rfl) rfl (by show 2 * 0 + _ ≤ _; exact Nat.le_of_eq rfl) (hb hby at_116) (fun _ _ => ⟨rfl, e200, (by decide : 1 + 1 ≤ _), (by decide : 14 + 14 ≤ _)⟩)
  dsimp only [Pt.U, Pt.locs, Pt.cells, Pt.slots] at X208 l208 y208 z208 st208 hQ208
  subst l208 y208 z208
  obtain ⟨rfl, N208q, q208_K⟩ := hQ208
  have N208 := Fr.app N200 N208q
  have K209 : Keep h0 T208.heap [] := K201.trans q208_K all0
  have p210 : Go p.tables e below _ (T208.setTop (mkF m 119 #[.val (.int p1), .val (.int p2), .val (.ref b102), .val (.ref tt), .val (.int (p1 &&& (511 : Int32))), .unset, .unset, .unset, .unset, .unset, .unset] [(.ref (own_fc p1 w0 w1 w2 w3 w4 w5 w6 w7 w8 w9 w10 w11 w12 w13))])) := fun t k => p206 t (st208 _ k)
  have p211 : Go p.tables e below _ (T208.setTop (mkF m 123 #[.val (.int p1), .val (.int p2), .val (.ref b102), .val (.ref tt), .val (.int (p1 &&& (511 : Int32))), .val (.ref (own_fc p1 w0 w1 w2 w3 w4 w5 w6 w7 w8 w9 w10 w11 w12 w13)), .unset, .unset, .unset, .unset, .unset] [(.int (p1 &&& (511 : Int32)))])) := fun t k => p210 t (by
    show Steps p.tables e below (T208.setTop (mkF m 119 #[.val (.int p1), .val (.int p2), .val (.ref b102), .val (.ref tt), .val (.int (p1 &&& (511 : Int32))), .unset, .unset, .unset, .unset, .unset, .unset] [(.ref (own_fc p1 w0 w1 w2 w3 w4 w5 w6 w7 w8 w9 w10 w11 w12 w13))])) _
    refine XS.astore X208.here hx rfl (hb hby at_119) rfl rfl (l' := #[.val (.int p1), .val (.int p2), .val (.ref b102), .val (.ref tt), .val (.int (p1 &&& (511 : Int32))), .val (.ref (own_fc p1 w0 w1 w2 w3 w4 w5 w6 w7 w8 w9 w10 w11 w12 w13)), .unset, .unset, .unset, .unset, .unset]) rfl ?_
    show Steps p.tables e below (T208.setTop (mkF m 121 #[.val (.int p1), .val (.int p2), .val (.ref b102), .val (.ref tt), .val (.int (p1 &&& (511 : Int32))), .val (.ref (own_fc p1 w0 w1 w2 w3 w4 w5 w6 w7 w8 w9 w10 w11 w12 w13)), .unset, .unset, .unset, .unset, .unset] [])) _
    refine XS.iload X208.here hx rfl (hb hby at_121) rfl ?_
    show Steps p.tables e below (T208.setTop (mkF m 123 #[.val (.int p1), .val (.int p2), .val (.ref b102), .val (.ref tt), .val (.int (p1 &&& (511 : Int32))), .val (.ref (own_fc p1 w0 w1 w2 w3 w4 w5 w6 w7 w8 w9 w10 w11 w12 w13)), .unset, .unset, .unset, .unset, .unset] [(.int (p1 &&& (511 : Int32)))])) _
    exact k)
  have f212 := (f207.keep q208_K all0)
  obtain ⟨_, _, ⟨T213, L213, k213, n213⟩, -, X213, ⟨Lc213, hQ213, l213, y213, z213⟩, st213⟩ := Jvm.LawKit.callS X208 hx (y := (⟨"com/example/boot_sealer/bootsealer/rp2350/ItemType", "forCode", "(I)Lcom/example/boot_sealer/bootsealer/rp2350/ItemType;"⟩ : MethodName)) hown (mvT hZ (own_w hw 33 rfl)) (mvT hZ (own_w hw 34 rfl)) (mvT hZ (own_w hw 3 rfl)) (mvT hZ (own_w hw 35 rfl)) (by decide) (backOf (W := 0) (rm1 l Z a0 hw [] (p1 &&& (511 : Int32)) w0 w1 w2 w3 w4 w5 w6 w7 w8 w9 w10 w11 w12 w13 wv kv T208.heap n0 (Nat.le_trans Z0 K209.1) f212 En0 En1 En2 En3 En4 En5 En6 En7 En8 En9 En10 En11 En12 En13 SV EV VV) hZ (own_w hw 35 rfl) (own_w hw 3 rfl) (by decide) (by decide)) (g := (mkF m 123 #[.val (.int p1), .val (.int p2), .val (.ref b102), .val (.ref tt), .val (.int (p1 &&& (511 : Int32))), .val (.ref (own_fc p1 w0 w1 w2 w3 w4 w5 w6 w7 w8 w9 w10 w11 w12 w13)), .unset, .unset, .unset, .unset, .unset] [(.int (p1 &&& (511 : Int32)))])) rfl (by rw [hml]; rfl) (argsL := [(.int (p1 &&& (511 : Int32)))]) (rest := []) (lenOf pd1 rfl) rfl (by show 2 * 0 + _ ≤ _; exact Nat.le_of_eq rfl) (hb hby at_123) (fun _ _ => ⟨rfl, rfl, (by decide : 2 + 1 ≤ _), (by decide : 28 + 14 ≤ _)⟩)
  dsimp only [Pt.U, Pt.locs, Pt.cells, Pt.slots] at X213 l213 y213 z213 st213 hQ213
  subst l213 y213 z213
  obtain ⟨rfl, N213q, q213_K⟩ := hQ213
  have N213 := Fr.app N208 N213q
  have K214 : Keep h0 T213.heap [] := K209.trans q213_K all0
  have p215 : Go p.tables e below _ (T213.setTop (mkF m 126 #[.val (.int p1), .val (.int p2), .val (.ref b102), .val (.ref tt), .val (.int (p1 &&& (511 : Int32))), .val (.ref (own_fc p1 w0 w1 w2 w3 w4 w5 w6 w7 w8 w9 w10 w11 w12 w13)), .unset, .unset, .unset, .unset, .unset] [(.ref (own_fc (p1 &&& (511 : Int32)) w0 w1 w2 w3 w4 w5 w6 w7 w8 w9 w10 w11 w12 w13))])) := fun t k => p211 t (st213 _ k)
  have p216 : Go p.tables e below _ (T213.setTop (mkF m 129 #[.val (.int p1), .val (.int p2), .val (.ref b102), .val (.ref tt), .val (.int (p1 &&& (511 : Int32))), .val (.ref (own_fc p1 w0 w1 w2 w3 w4 w5 w6 w7 w8 w9 w10 w11 w12 w13)), .val (.ref (own_fc (p1 &&& (511 : Int32)) w0 w1 w2 w3 w4 w5 w6 w7 w8 w9 w10 w11 w12 w13)), .unset, .unset, .unset, .unset] [(.ref tt)])) := fun t k => p215 t (by
    show Steps p.tables e below (T213.setTop (mkF m 126 #[.val (.int p1), .val (.int p2), .val (.ref b102), .val (.ref tt), .val (.int (p1 &&& (511 : Int32))), .val (.ref (own_fc p1 w0 w1 w2 w3 w4 w5 w6 w7 w8 w9 w10 w11 w12 w13)), .unset, .unset, .unset, .unset, .unset] [(.ref (own_fc (p1 &&& (511 : Int32)) w0 w1 w2 w3 w4 w5 w6 w7 w8 w9 w10 w11 w12 w13))])) _
    refine XS.astore X213.here hx rfl (hb hby at_126) rfl rfl (l' := #[.val (.int p1), .val (.int p2), .val (.ref b102), .val (.ref tt), .val (.int (p1 &&& (511 : Int32))), .val (.ref (own_fc p1 w0 w1 w2 w3 w4 w5 w6 w7 w8 w9 w10 w11 w12 w13)), .val (.ref (own_fc (p1 &&& (511 : Int32)) w0 w1 w2 w3 w4 w5 w6 w7 w8 w9 w10 w11 w12 w13)), .unset, .unset, .unset, .unset]) rfl ?_
    show Steps p.tables e below (T213.setTop (mkF m 128 #[.val (.int p1), .val (.int p2), .val (.ref b102), .val (.ref tt), .val (.int (p1 &&& (511 : Int32))), .val (.ref (own_fc p1 w0 w1 w2 w3 w4 w5 w6 w7 w8 w9 w10 w11 w12 w13)), .val (.ref (own_fc (p1 &&& (511 : Int32)) w0 w1 w2 w3 w4 w5 w6 w7 w8 w9 w10 w11 w12 w13)), .unset, .unset, .unset, .unset] [])) _
    refine XS.aloadN X213.here hx rfl (hb hby at_128) rfl rfl ?_
    show Steps p.tables e below (T213.setTop (mkF m 129 #[.val (.int p1), .val (.int p2), .val (.ref b102), .val (.ref tt), .val (.int (p1 &&& (511 : Int32))), .val (.ref (own_fc p1 w0 w1 w2 w3 w4 w5 w6 w7 w8 w9 w10 w11 w12 w13)), .val (.ref (own_fc (p1 &&& (511 : Int32)) w0 w1 w2 w3 w4 w5 w6 w7 w8 w9 w10 w11 w12 w13)), .unset, .unset, .unset, .unset] [(.ref tt)])) _
    exact k)
  have f217 := (f212.keep q213_K all0)
  obtain ⟨cq218, kq218, q218a, q218b, q218c⟩ := isOf hZ rfl (Et.ext f217.2)
  obtain ⟨_, _, ⟨T218, L218, k218, n218⟩, -, X218, ⟨Lc218, hQ218, l218, y218, z218⟩, st218⟩ := X213.virtualBack hx (y := (⟨"com/example/boot_sealer/bootsealer/rp2350/ItemType", "code", "()I"⟩ : MethodName)) (z := (⟨"com/example/boot_sealer/bootsealer/rp2350/ItemType", "code", "()I"⟩ : MethodName)) hown (mvT hZ (own_w hw 54 rfl)) (mvT hZ (own_w hw 55 rfl)) (notFace_of_selects (args := #[]) (mvT hZ (own_w hw 57 rfl))) (mvT hZ (own_w hw 57 rfl)) (mvT hZ (own_w hw 56 rfl)) (by decide) (backOf (W := 0) (rm3 l Z a0 hw [] tt cc T213.heap n0 (Nat.le_trans Z0 K214.1) (Ct.ext f217.2)) hZ (own_w hw 58 rfl) (own_w hw 3 rfl) (by decide) (by decide)) q218a q218c (g := (mkF m 129 #[.val (.int p1), .val (.int p2), .val (.ref b102), .val (.ref tt), .val (.int (p1 &&& (511 : Int32))), .val (.ref (own_fc p1 w0 w1 w2 w3 w4 w5 w6 w7 w8 w9 w10 w11 w12 w13)), .val (.ref (own_fc (p1 &&& (511 : Int32)) w0 w1 w2 w3 w4 w5 w6 w7 w8 w9 w10 w11 w12 w13)), .unset, .unset, .unset, .unset] [(.ref tt)])) rfl (by rw [hml]; rfl) (Steps.refl _) (argsL := []) (rest := []) (lenOf pd2 rfl) rfl (by show 2 * 0 + _ ≤ _; exact Nat.le_of_eq rfl) (hb hby at_129) (fun _ _ => ⟨rfl, rfl, (by decide : 3 + 0 ≤ _), (by decide : 42 + 0 ≤ _)⟩)
  dsimp only [Pt.U, Pt.locs, Pt.cells, Pt.slots] at X218 l218 y218 z218 st218 hQ218
  subst l218 y218 z218
  obtain ⟨rfl, N218q, q218_hh⟩ := hQ218
  have N218 := Fr.app N213 N218q
  have p219 : Go p.tables e below _ (T218.setTop (mkF m 132 #[.val (.int p1), .val (.int p2), .val (.ref b102), .val (.ref tt), .val (.int (p1 &&& (511 : Int32))), .val (.ref (own_fc p1 w0 w1 w2 w3 w4 w5 w6 w7 w8 w9 w10 w11 w12 w13)), .val (.ref (own_fc (p1 &&& (511 : Int32)) w0 w1 w2 w3 w4 w5 w6 w7 w8 w9 w10 w11 w12 w13)), .unset, .unset, .unset, .unset] [(.int cc)])) := fun t k => p216 t (st218.trans k)
  obtain ⟨_, _, ⟨T220, L220, k220, n220⟩, -, X220, ⟨Lc220, hQ220, l220, y220, z220⟩, st220⟩ := Jvm.LawKit.callS X218 hx (y := (⟨"com/example/boot_sealer/bootsealer/rp2350/ItemType", "forCode", "(I)Lcom/example/boot_sealer/bootsealer/rp2350/ItemType;"⟩ : MethodName)) hown (mvT hZ (own_w hw 33 rfl)) (mvT hZ (own_w hw 34 rfl)) (mvT hZ (own_w hw 3 rfl)) (mvT hZ (own_w hw 35 rfl)) (by decide) (backOf (W := 0) (rm1 l Z a0 hw [] cc w0 w1 w2 w3 w4 w5 w6 w7 w8 w9 w10 w11 w12 w13 wv kv T213.heap n0 (Nat.le_trans Z0 K214.1) f217 En0 En1 En2 En3 En4 En5 En6 En7 En8 En9 En10 En11 En12 En13 SV EV VV) hZ (own_w hw 35 rfl) (own_w hw 3 rfl) (by decide) (by decide)) (g := (mkF m 132 #[.val (.int p1), .val (.int p2), .val (.ref b102), .val (.ref tt), .val (.int (p1 &&& (511 : Int32))), .val (.ref (own_fc p1 w0 w1 w2 w3 w4 w5 w6 w7 w8 w9 w10 w11 w12 w13)), .val (.ref (own_fc (p1 &&& (511 : Int32)) w0 w1 w2 w3 w4 w5 w6 w7 w8 w9 w10 w11 w12 w13)), .unset, .unset, .unset, .unset] [(.int cc)])) rfl (by rw [hml]; rfl) (argsL := [(.int cc)]) (rest := []) (lenOf pd1 rfl) rfl (by show 2 * 0 + _ ≤ _; exact Nat.le_of_eq rfl) (hb hby at_132) (fun _ _ => ⟨rfl, q218_hh, (by decide : 3 + 1 ≤ _), (by decide : 42 + 14 ≤ _)⟩)
  dsimp only [Pt.U, Pt.locs, Pt.cells, Pt.slots] at X220 l220 y220 z220 st220 hQ220
  subst l220 y220 z220
  obtain ⟨rfl, N220q, q220_K⟩ := hQ220
  have N220 := Fr.app N218 N220q
  have K221 : Keep h0 T220.heap [] := K214.trans q220_K all0
  have p222 : Go p.tables e below _ (T220.setTop (mkF m 135 #[.val (.int p1), .val (.int p2), .val (.ref b102), .val (.ref tt), .val (.int (p1 &&& (511 : Int32))), .val (.ref (own_fc p1 w0 w1 w2 w3 w4 w5 w6 w7 w8 w9 w10 w11 w12 w13)), .val (.ref (own_fc (p1 &&& (511 : Int32)) w0 w1 w2 w3 w4 w5 w6 w7 w8 w9 w10 w11 w12 w13)), .unset, .unset, .unset, .unset] [(.ref (own_fc cc w0 w1 w2 w3 w4 w5 w6 w7 w8 w9 w10 w11 w12 w13))])) := fun t k => p219 t (st220 _ k)
  have p223 : Go p.tables e below _ (T220.setTop (mkF m 140 #[.val (.int p1), .val (.int p2), .val (.ref b102), .val (.ref tt), .val (.int (p1 &&& (511 : Int32))), .val (.ref (own_fc p1 w0 w1 w2 w3 w4 w5 w6 w7 w8 w9 w10 w11 w12 w13)), .val (.ref (own_fc (p1 &&& (511 : Int32)) w0 w1 w2 w3 w4 w5 w6 w7 w8 w9 w10 w11 w12 w13)), .val (.ref (own_fc cc w0 w1 w2 w3 w4 w5 w6 w7 w8 w9 w10 w11 w12 w13)), .unset, .unset, .unset] [(.int p1), (.ref (own_fc p1 w0 w1 w2 w3 w4 w5 w6 w7 w8 w9 w10 w11 w12 w13))])) := fun t k => p222 t (by
    show Steps p.tables e below (T220.setTop (mkF m 135 #[.val (.int p1), .val (.int p2), .val (.ref b102), .val (.ref tt), .val (.int (p1 &&& (511 : Int32))), .val (.ref (own_fc p1 w0 w1 w2 w3 w4 w5 w6 w7 w8 w9 w10 w11 w12 w13)), .val (.ref (own_fc (p1 &&& (511 : Int32)) w0 w1 w2 w3 w4 w5 w6 w7 w8 w9 w10 w11 w12 w13)), .unset, .unset, .unset, .unset] [(.ref (own_fc cc w0 w1 w2 w3 w4 w5 w6 w7 w8 w9 w10 w11 w12 w13))])) _
    refine XS.astore X220.here hx rfl (hb hby at_135) rfl rfl (l' := #[.val (.int p1), .val (.int p2), .val (.ref b102), .val (.ref tt), .val (.int (p1 &&& (511 : Int32))), .val (.ref (own_fc p1 w0 w1 w2 w3 w4 w5 w6 w7 w8 w9 w10 w11 w12 w13)), .val (.ref (own_fc (p1 &&& (511 : Int32)) w0 w1 w2 w3 w4 w5 w6 w7 w8 w9 w10 w11 w12 w13)), .val (.ref (own_fc cc w0 w1 w2 w3 w4 w5 w6 w7 w8 w9 w10 w11 w12 w13)), .unset, .unset, .unset]) rfl ?_
    show Steps p.tables e below (T220.setTop (mkF m 137 #[.val (.int p1), .val (.int p2), .val (.ref b102), .val (.ref tt), .val (.int (p1 &&& (511 : Int32))), .val (.ref (own_fc p1 w0 w1 w2 w3 w4 w5 w6 w7 w8 w9 w10 w11 w12 w13)), .val (.ref (own_fc (p1 &&& (511 : Int32)) w0 w1 w2 w3 w4 w5 w6 w7 w8 w9 w10 w11 w12 w13)), .val (.ref (own_fc cc w0 w1 w2 w3 w4 w5 w6 w7 w8 w9 w10 w11 w12 w13)), .unset, .unset, .unset] [])) _
    refine XS.aload X220.here hx rfl (hb hby at_137) rfl rfl ?_
    show Steps p.tables e below (T220.setTop (mkF m 139 #[.val (.int p1), .val (.int p2), .val (.ref b102), .val (.ref tt), .val (.int (p1 &&& (511 : Int32))), .val (.ref (own_fc p1 w0 w1 w2 w3 w4 w5 w6 w7 w8 w9 w10 w11 w12 w13)), .val (.ref (own_fc (p1 &&& (511 : Int32)) w0 w1 w2 w3 w4 w5 w6 w7 w8 w9 w10 w11 w12 w13)), .val (.ref (own_fc cc w0 w1 w2 w3 w4 w5 w6 w7 w8 w9 w10 w11 w12 w13)), .unset, .unset, .unset] [(.ref (own_fc p1 w0 w1 w2 w3 w4 w5 w6 w7 w8 w9 w10 w11 w12 w13))])) _
    refine XS.iloadN X220.here hx rfl (hb hby at_139) rfl ?_
    show Steps p.tables e below (T220.setTop (mkF m 140 #[.val (.int p1), .val (.int p2), .val (.ref b102), .val (.ref tt), .val (.int (p1 &&& (511 : Int32))), .val (.ref (own_fc p1 w0 w1 w2 w3 w4 w5 w6 w7 w8 w9 w10 w11 w12 w13)), .val (.ref (own_fc (p1 &&& (511 : Int32)) w0 w1 w2 w3 w4 w5 w6 w7 w8 w9 w10 w11 w12 w13)), .val (.ref (own_fc cc w0 w1 w2 w3 w4 w5 w6 w7 w8 w9 w10 w11 w12 w13)), .unset, .unset, .unset] [(.int p1), (.ref (own_fc p1 w0 w1 w2 w3 w4 w5 w6 w7 w8 w9 w10 w11 w12 w13))])) _
    exact k)
  have f224 := (f217.keep q220_K all0)
  obtain ⟨_, _, ⟨T225, L225, k225, n225⟩, -, X225, ⟨Lc225, hQ225, l225, y225, z225⟩, st225⟩ := Jvm.LawKit.callS X220 hx (y := (⟨"com/example/boot_sealer/bootsealer/rp2350/ItemTypeForCodePinLaw", "expected", "(I)Lcom/example/boot_sealer/bootsealer/rp2350/ItemType;"⟩ : MethodName)) hown (mvT hZ (own_w hw 59 rfl)) (mvT hZ (own_w hw 60 rfl)) (mvT hZ (own_w hw 61 rfl)) (mvT hZ (own_w hw 62 rfl)) (by decide) (backOf (W := 1) (rm4 l Z a0 hw [] p1 w0 w1 w2 w3 w4 w5 w6 w7 w8 w9 w10 w11 w12 w13 T220.heap n0 (Nat.le_trans Z0 K221.1) f224 En0 En1 En2 En3 En4 En5 En6 En7 En8 En9 En10 En11 En12 En13) hZ (own_w hw 62 rfl) (own_w hw 61 rfl) (by decide) (by decide)) (g := (mkF m 140 #[.val (.int p1), .val (.int p2), .val (.ref b102), .val (.ref tt), .val (.int (p1 &&& (511 : Int32))), .val (.ref (own_fc p1 w0 w1 w2 w3 w4 w5 w6 w7 w8 w9 w10 w11 w12 w13)), .val (.ref (own_fc (p1 &&& (511 : Int32)) w0 w1 w2 w3 w4 w5 w6 w7 w8 w9 w10 w11 w12 w13)), .val (.ref (own_fc cc w0 w1 w2 w3 w4 w5 w6 w7 w8 w9 w10 w11 w12 w13)), .unset, .unset, .unset] [(.int p1), (.ref (own_fc p1 w0 w1 w2 w3 w4 w5 w6 w7 w8 w9 w10 w11 w12 w13))])) rfl (by rw [hml]; rfl) (argsL := [(.int p1)]) (rest := [(.ref (own_fc p1 w0 w1 w2 w3 w4 w5 w6 w7 w8 w9 w10 w11 w12 w13))]) (lenOf pd1 rfl) rfl (by show 2 * 0 + _ ≤ _; exact Nat.le_of_eq rfl) (hb hby at_140) (fun _ _ => ⟨rfl, rfl, (by decide : 4 + 0 ≤ _), (by decide : 56 + 0 ≤ _)⟩)
  dsimp only [Pt.U, Pt.locs, Pt.cells, Pt.slots] at X225 l225 y225 z225 st225 hQ225
  subst l225 y225 z225
  obtain ⟨rfl, N225q, q225_hh⟩ := hQ225
  have N225 := Fr.app N220 N225q
  have p226 : Go p.tables e below _ (T225.setTop (mkF m 143 #[.val (.int p1), .val (.int p2), .val (.ref b102), .val (.ref tt), .val (.int (p1 &&& (511 : Int32))), .val (.ref (own_fc p1 w0 w1 w2 w3 w4 w5 w6 w7 w8 w9 w10 w11 w12 w13)), .val (.ref (own_fc (p1 &&& (511 : Int32)) w0 w1 w2 w3 w4 w5 w6 w7 w8 w9 w10 w11 w12 w13)), .val (.ref (own_fc cc w0 w1 w2 w3 w4 w5 w6 w7 w8 w9 w10 w11 w12 w13)), .unset, .unset, .unset] [(.ref (own_fc p1 w0 w1 w2 w3 w4 w5 w6 w7 w8 w9 w10 w11 w12 w13)), (.ref (own_fc p1 w0 w1 w2 w3 w4 w5 w6 w7 w8 w9 w10 w11 w12 w13))])) := fun t k => p223 t (st225 _ k)
  have p227 : Go p.tables e below _ (T225.setTop (mkF m 157 #[.val (.int p1), .val (.int p2), .val (.ref b102), .val (.ref tt), .val (.int (p1 &&& (511 : Int32))), .val (.ref (own_fc p1 w0 w1 w2 w3 w4 w5 w6 w7 w8 w9 w10 w11 w12 w13)), .val (.ref (own_fc (p1 &&& (511 : Int32)) w0 w1 w2 w3 w4 w5 w6 w7 w8 w9 w10 w11 w12 w13)), .val (.ref (own_fc cc w0 w1 w2 w3 w4 w5 w6 w7 w8 w9 w10 w11 w12 w13)), .val (.int (1 : Int32)), .unset, .unset] [(.int (p1 &&& (511 : Int32))), (.ref (own_fc (p1 &&& (511 : Int32)) w0 w1 w2 w3 w4 w5 w6 w7 w8 w9 w10 w11 w12 w13))])) := fun t k => p226 t (by
    show Steps p.tables e below (T225.setTop (mkF m 143 #[.val (.int p1), .val (.int p2), .val (.ref b102), .val (.ref tt), .val (.int (p1 &&& (511 : Int32))), .val (.ref (own_fc p1 w0 w1 w2 w3 w4 w5 w6 w7 w8 w9 w10 w11 w12 w13)), .val (.ref (own_fc (p1 &&& (511 : Int32)) w0 w1 w2 w3 w4 w5 w6 w7 w8 w9 w10 w11 w12 w13)), .val (.ref (own_fc cc w0 w1 w2 w3 w4 w5 w6 w7 w8 w9 w10 w11 w12 w13)), .unset, .unset, .unset] [(.ref (own_fc p1 w0 w1 w2 w3 w4 w5 w6 w7 w8 w9 w10 w11 w12 w13)), (.ref (own_fc p1 w0 w1 w2 w3 w4 w5 w6 w7 w8 w9 w10 w11 w12 w13))])) _
    refine Jvm.RoadKit.acmp (g := (mkF m 143 #[.val (.int p1), .val (.int p2), .val (.ref b102), .val (.ref tt), .val (.int (p1 &&& (511 : Int32))), .val (.ref (own_fc p1 w0 w1 w2 w3 w4 w5 w6 w7 w8 w9 w10 w11 w12 w13)), .val (.ref (own_fc (p1 &&& (511 : Int32)) w0 w1 w2 w3 w4 w5 w6 w7 w8 w9 w10 w11 w12 w13)), .val (.ref (own_fc cc w0 w1 w2 w3 w4 w5 w6 w7 w8 w9 w10 w11 w12 w13)), .unset, .unset, .unset] [(.ref (own_fc p1 w0 w1 w2 w3 w4 w5 w6 w7 w8 w9 w10 w11 w12 w13)), (.ref (own_fc p1 w0 w1 w2 w3 w4 w5 w6 w7 w8 w9 w10 w11 w12 w13))])) X225 hx rfl rfl rfl (pc0 := 143) (pc' := 146) (same := true) rfl (hb hby at_143) rfl (decide_eq_true rfl) (by decide) (by decide) ?_
    show Steps p.tables e below (T225.setTop (mkF m 146 #[.val (.int p1), .val (.int p2), .val (.ref b102), .val (.ref tt), .val (.int (p1 &&& (511 : Int32))), .val (.ref (own_fc p1 w0 w1 w2 w3 w4 w5 w6 w7 w8 w9 w10 w11 w12 w13)), .val (.ref (own_fc (p1 &&& (511 : Int32)) w0 w1 w2 w3 w4 w5 w6 w7 w8 w9 w10 w11 w12 w13)), .val (.ref (own_fc cc w0 w1 w2 w3 w4 w5 w6 w7 w8 w9 w10 w11 w12 w13)), .unset, .unset, .unset] [])) _
    refine XS.iconst X225.here hx rfl (hb hby at_146) ?_
    show Steps p.tables e below (T225.setTop (mkF m 147 #[.val (.int p1), .val (.int p2), .val (.ref b102), .val (.ref tt), .val (.int (p1 &&& (511 : Int32))), .val (.ref (own_fc p1 w0 w1 w2 w3 w4 w5 w6 w7 w8 w9 w10 w11 w12 w13)), .val (.ref (own_fc (p1 &&& (511 : Int32)) w0 w1 w2 w3 w4 w5 w6 w7 w8 w9 w10 w11 w12 w13)), .val (.ref (own_fc cc w0 w1 w2 w3 w4 w5 w6 w7 w8 w9 w10 w11 w12 w13)), .unset, .unset, .unset] [(.int (1 : Int32))])) _
    refine XS.goto X225.here hx rfl (pc0 := 147) (pc' := 151) rfl (hb hby at_147) (by decide) (by decide) ?_
    show Steps p.tables e below (T225.setTop (mkF m 151 #[.val (.int p1), .val (.int p2), .val (.ref b102), .val (.ref tt), .val (.int (p1 &&& (511 : Int32))), .val (.ref (own_fc p1 w0 w1 w2 w3 w4 w5 w6 w7 w8 w9 w10 w11 w12 w13)), .val (.ref (own_fc (p1 &&& (511 : Int32)) w0 w1 w2 w3 w4 w5 w6 w7 w8 w9 w10 w11 w12 w13)), .val (.ref (own_fc cc w0 w1 w2 w3 w4 w5 w6 w7 w8 w9 w10 w11 w12 w13)), .unset, .unset, .unset] [(.int (1 : Int32))])) _
    refine XS.istore X225.here hx rfl (hb hby at_151) rfl (l' := #[.val (.int p1), .val (.int p2), .val (.ref b102), .val (.ref tt), .val (.int (p1 &&& (511 : Int32))), .val (.ref (own_fc p1 w0 w1 w2 w3 w4 w5 w6 w7 w8 w9 w10 w11 w12 w13)), .val (.ref (own_fc (p1 &&& (511 : Int32)) w0 w1 w2 w3 w4 w5 w6 w7 w8 w9 w10 w11 w12 w13)), .val (.ref (own_fc cc w0 w1 w2 w3 w4 w5 w6 w7 w8 w9 w10 w11 w12 w13)), .val (.int (1 : Int32)), .unset, .unset]) rfl ?_
    show Steps p.tables e below (T225.setTop (mkF m 153 #[.val (.int p1), .val (.int p2), .val (.ref b102), .val (.ref tt), .val (.int (p1 &&& (511 : Int32))), .val (.ref (own_fc p1 w0 w1 w2 w3 w4 w5 w6 w7 w8 w9 w10 w11 w12 w13)), .val (.ref (own_fc (p1 &&& (511 : Int32)) w0 w1 w2 w3 w4 w5 w6 w7 w8 w9 w10 w11 w12 w13)), .val (.ref (own_fc cc w0 w1 w2 w3 w4 w5 w6 w7 w8 w9 w10 w11 w12 w13)), .val (.int (1 : Int32)), .unset, .unset] [])) _
    refine XS.aload X225.here hx rfl (hb hby at_153) rfl rfl ?_
    show Steps p.tables e below (T225.setTop (mkF m 155 #[.val (.int p1), .val (.int p2), .val (.ref b102), .val (.ref tt), .val (.int (p1 &&& (511 : Int32))), .val (.ref (own_fc p1 w0 w1 w2 w3 w4 w5 w6 w7 w8 w9 w10 w11 w12 w13)), .val (.ref (own_fc (p1 &&& (511 : Int32)) w0 w1 w2 w3 w4 w5 w6 w7 w8 w9 w10 w11 w12 w13)), .val (.ref (own_fc cc w0 w1 w2 w3 w4 w5 w6 w7 w8 w9 w10 w11 w12 w13)), .val (.int (1 : Int32)), .unset, .unset] [(.ref (own_fc (p1 &&& (511 : Int32)) w0 w1 w2 w3 w4 w5 w6 w7 w8 w9 w10 w11 w12 w13))])) _
    refine XS.iload X225.here hx rfl (hb hby at_155) rfl ?_
    show Steps p.tables e below (T225.setTop (mkF m 157 #[.val (.int p1), .val (.int p2), .val (.ref b102), .val (.ref tt), .val (.int (p1 &&& (511 : Int32))), .val (.ref (own_fc p1 w0 w1 w2 w3 w4 w5 w6 w7 w8 w9 w10 w11 w12 w13)), .val (.ref (own_fc (p1 &&& (511 : Int32)) w0 w1 w2 w3 w4 w5 w6 w7 w8 w9 w10 w11 w12 w13)), .val (.ref (own_fc cc w0 w1 w2 w3 w4 w5 w6 w7 w8 w9 w10 w11 w12 w13)), .val (.int (1 : Int32)), .unset, .unset] [(.int (p1 &&& (511 : Int32))), (.ref (own_fc (p1 &&& (511 : Int32)) w0 w1 w2 w3 w4 w5 w6 w7 w8 w9 w10 w11 w12 w13))])) _
    exact k)
  obtain ⟨_, _, ⟨T228, L228, k228, n228⟩, -, X228, ⟨Lc228, hQ228, l228, y228, z228⟩, st228⟩ := Jvm.LawKit.callS X225 hx (y := (⟨"com/example/boot_sealer/bootsealer/rp2350/ItemTypeForCodePinLaw", "expected", "(I)Lcom/example/boot_sealer/bootsealer/rp2350/ItemType;"⟩ : MethodName)) hown (mvT hZ (own_w hw 59 rfl)) (mvT hZ (own_w hw 60 rfl)) (mvT hZ (own_w hw 61 rfl)) (mvT hZ (own_w hw 62 rfl)) (by decide) (backOf (W := 1) (rm4 l Z a0 hw [] (p1 &&& (511 : Int32)) w0 w1 w2 w3 w4 w5 w6 w7 w8 w9 w10 w11 w12 w13 T220.heap n0 (Nat.le_trans Z0 K221.1) f224 En0 En1 En2 En3 En4 En5 En6 En7 En8 En9 En10 En11 En12 En13) hZ (own_w hw 62 rfl) (own_w hw 61 rfl) (by decide) (by decide)) (g := (mkF m 157 #[.val (.int p1), .val (.int p2), .val (.ref b102), .val (.ref tt), .val (.int (p1 &&& (511 : Int32))), .val (.ref (own_fc p1 w0 w1 w2 w3 w4 w5 w6 w7 w8 w9 w10 w11 w12 w13)), .val (.ref (own_fc (p1 &&& (511 : Int32)) w0 w1 w2 w3 w4 w5 w6 w7 w8 w9 w10 w11 w12 w13)), .val (.ref (own_fc cc w0 w1 w2 w3 w4 w5 w6 w7 w8 w9 w10 w11 w12 w13)), .val (.int (1 : Int32)), .unset, .unset] [(.int (p1 &&& (511 : Int32))), (.ref (own_fc (p1 &&& (511 : Int32)) w0 w1 w2 w3 w4 w5 w6 w7 w8 w9 w10 w11 w12 w13))])) rfl (by rw [hml]; rfl) (argsL := [(.int (p1 &&& (511 : Int32)))]) (rest := [(.ref (own_fc (p1 &&& (511 : Int32)) w0 w1 w2 w3 w4 w5 w6 w7 w8 w9 w10 w11 w12 w13))]) (lenOf pd1 rfl) rfl (by show 2 * 0 + _ ≤ _; exact Nat.le_of_eq rfl) (hb hby at_157) (fun _ _ => ⟨rfl, q225_hh, (by decide : 4 + 0 ≤ _), (by decide : 56 + 0 ≤ _)⟩)
  dsimp only [Pt.U, Pt.locs, Pt.cells, Pt.slots] at X228 l228 y228 z228 st228 hQ228
  subst l228 y228 z228
  obtain ⟨rfl, N228q, q228_hh⟩ := hQ228
  have N228 := Fr.app N225 N228q
  have p229 : Go p.tables e below _ (T228.setTop (mkF m 160 #[.val (.int p1), .val (.int p2), .val (.ref b102), .val (.ref tt), .val (.int (p1 &&& (511 : Int32))), .val (.ref (own_fc p1 w0 w1 w2 w3 w4 w5 w6 w7 w8 w9 w10 w11 w12 w13)), .val (.ref (own_fc (p1 &&& (511 : Int32)) w0 w1 w2 w3 w4 w5 w6 w7 w8 w9 w10 w11 w12 w13)), .val (.ref (own_fc cc w0 w1 w2 w3 w4 w5 w6 w7 w8 w9 w10 w11 w12 w13)), .val (.int (1 : Int32)), .unset, .unset] [(.ref (own_fc (p1 &&& (511 : Int32)) w0 w1 w2 w3 w4 w5 w6 w7 w8 w9 w10 w11 w12 w13)), (.ref (own_fc (p1 &&& (511 : Int32)) w0 w1 w2 w3 w4 w5 w6 w7 w8 w9 w10 w11 w12 w13))])) := fun t k => p227 t (st228 _ k)
  have p230 : Go p.tables e below _ (T228.setTop (mkF m 203 #[.val (.int p1), .val (.int p2), .val (.ref b102), .val (.ref tt), .val (.int (p1 &&& (511 : Int32))), .val (.ref (own_fc p1 w0 w1 w2 w3 w4 w5 w6 w7 w8 w9 w10 w11 w12 w13)), .val (.ref (own_fc (p1 &&& (511 : Int32)) w0 w1 w2 w3 w4 w5 w6 w7 w8 w9 w10 w11 w12 w13)), .val (.ref (own_fc cc w0 w1 w2 w3 w4 w5 w6 w7 w8 w9 w10 w11 w12 w13)), .val (.int (1 : Int32)), .val (.int (1 : Int32)), .val (.int (1 : Int32))] [(.int (1 : Int32))])) := fun t k => p229 t (by
    show Steps p.tables e below (T228.setTop (mkF m 160 #[.val (.int p1), .val (.int p2), .val (.ref b102), .val (.ref tt), .val (.int (p1 &&& (511 : Int32))), .val (.ref (own_fc p1 w0 w1 w2 w3 w4 w5 w6 w7 w8 w9 w10 w11 w12 w13)), .val (.ref (own_fc (p1 &&& (511 : Int32)) w0 w1 w2 w3 w4 w5 w6 w7 w8 w9 w10 w11 w12 w13)), .val (.ref (own_fc cc w0 w1 w2 w3 w4 w5 w6 w7 w8 w9 w10 w11 w12 w13)), .val (.int (1 : Int32)), .unset, .unset] [(.ref (own_fc (p1 &&& (511 : Int32)) w0 w1 w2 w3 w4 w5 w6 w7 w8 w9 w10 w11 w12 w13)), (.ref (own_fc (p1 &&& (511 : Int32)) w0 w1 w2 w3 w4 w5 w6 w7 w8 w9 w10 w11 w12 w13))])) _
    refine Jvm.RoadKit.acmp (g := (mkF m 160 #[.val (.int p1), .val (.int p2), .val (.ref b102), .val (.ref tt), .val (.int (p1 &&& (511 : Int32))), .val (.ref (own_fc p1 w0 w1 w2 w3 w4 w5 w6 w7 w8 w9 w10 w11 w12 w13)), .val (.ref (own_fc (p1 &&& (511 : Int32)) w0 w1 w2 w3 w4 w5 w6 w7 w8 w9 w10 w11 w12 w13)), .val (.ref (own_fc cc w0 w1 w2 w3 w4 w5 w6 w7 w8 w9 w10 w11 w12 w13)), .val (.int (1 : Int32)), .unset, .unset] [(.ref (own_fc (p1 &&& (511 : Int32)) w0 w1 w2 w3 w4 w5 w6 w7 w8 w9 w10 w11 w12 w13)), (.ref (own_fc (p1 &&& (511 : Int32)) w0 w1 w2 w3 w4 w5 w6 w7 w8 w9 w10 w11 w12 w13))])) X228 hx rfl rfl rfl (pc0 := 160) (pc' := 163) (same := true) rfl (hb hby at_160) rfl (decide_eq_true rfl) (by decide) (by decide) ?_
    show Steps p.tables e below (T228.setTop (mkF m 163 #[.val (.int p1), .val (.int p2), .val (.ref b102), .val (.ref tt), .val (.int (p1 &&& (511 : Int32))), .val (.ref (own_fc p1 w0 w1 w2 w3 w4 w5 w6 w7 w8 w9 w10 w11 w12 w13)), .val (.ref (own_fc (p1 &&& (511 : Int32)) w0 w1 w2 w3 w4 w5 w6 w7 w8 w9 w10 w11 w12 w13)), .val (.ref (own_fc cc w0 w1 w2 w3 w4 w5 w6 w7 w8 w9 w10 w11 w12 w13)), .val (.int (1 : Int32)), .unset, .unset] [])) _
    refine XS.iconst X228.here hx rfl (hb hby at_163) ?_
    show Steps p.tables e below (T228.setTop (mkF m 164 #[.val (.int p1), .val (.int p2), .val (.ref b102), .val (.ref tt), .val (.int (p1 &&& (511 : Int32))), .val (.ref (own_fc p1 w0 w1 w2 w3 w4 w5 w6 w7 w8 w9 w10 w11 w12 w13)), .val (.ref (own_fc (p1 &&& (511 : Int32)) w0 w1 w2 w3 w4 w5 w6 w7 w8 w9 w10 w11 w12 w13)), .val (.ref (own_fc cc w0 w1 w2 w3 w4 w5 w6 w7 w8 w9 w10 w11 w12 w13)), .val (.int (1 : Int32)), .unset, .unset] [(.int (1 : Int32))])) _
    refine XS.goto X228.here hx rfl (pc0 := 164) (pc' := 168) rfl (hb hby at_164) (by decide) (by decide) ?_
    show Steps p.tables e below (T228.setTop (mkF m 168 #[.val (.int p1), .val (.int p2), .val (.ref b102), .val (.ref tt), .val (.int (p1 &&& (511 : Int32))), .val (.ref (own_fc p1 w0 w1 w2 w3 w4 w5 w6 w7 w8 w9 w10 w11 w12 w13)), .val (.ref (own_fc (p1 &&& (511 : Int32)) w0 w1 w2 w3 w4 w5 w6 w7 w8 w9 w10 w11 w12 w13)), .val (.ref (own_fc cc w0 w1 w2 w3 w4 w5 w6 w7 w8 w9 w10 w11 w12 w13)), .val (.int (1 : Int32)), .unset, .unset] [(.int (1 : Int32))])) _
    refine XS.istore X228.here hx rfl (hb hby at_168) rfl (l' := #[.val (.int p1), .val (.int p2), .val (.ref b102), .val (.ref tt), .val (.int (p1 &&& (511 : Int32))), .val (.ref (own_fc p1 w0 w1 w2 w3 w4 w5 w6 w7 w8 w9 w10 w11 w12 w13)), .val (.ref (own_fc (p1 &&& (511 : Int32)) w0 w1 w2 w3 w4 w5 w6 w7 w8 w9 w10 w11 w12 w13)), .val (.ref (own_fc cc w0 w1 w2 w3 w4 w5 w6 w7 w8 w9 w10 w11 w12 w13)), .val (.int (1 : Int32)), .val (.int (1 : Int32)), .unset]) rfl ?_
    show Steps p.tables e below (T228.setTop (mkF m 170 #[.val (.int p1), .val (.int p2), .val (.ref b102), .val (.ref tt), .val (.int (p1 &&& (511 : Int32))), .val (.ref (own_fc p1 w0 w1 w2 w3 w4 w5 w6 w7 w8 w9 w10 w11 w12 w13)), .val (.ref (own_fc (p1 &&& (511 : Int32)) w0 w1 w2 w3 w4 w5 w6 w7 w8 w9 w10 w11 w12 w13)), .val (.ref (own_fc cc w0 w1 w2 w3 w4 w5 w6 w7 w8 w9 w10 w11 w12 w13)), .val (.int (1 : Int32)), .val (.int (1 : Int32)), .unset] [])) _
    refine XS.aload X228.here hx rfl (hb hby at_170) rfl rfl ?_
    show Steps p.tables e below (T228.setTop (mkF m 172 #[.val (.int p1), .val (.int p2), .val (.ref b102), .val (.ref tt), .val (.int (p1 &&& (511 : Int32))), .val (.ref (own_fc p1 w0 w1 w2 w3 w4 w5 w6 w7 w8 w9 w10 w11 w12 w13)), .val (.ref (own_fc (p1 &&& (511 : Int32)) w0 w1 w2 w3 w4 w5 w6 w7 w8 w9 w10 w11 w12 w13)), .val (.ref (own_fc cc w0 w1 w2 w3 w4 w5 w6 w7 w8 w9 w10 w11 w12 w13)), .val (.int (1 : Int32)), .val (.int (1 : Int32)), .unset] [(.ref (own_fc cc w0 w1 w2 w3 w4 w5 w6 w7 w8 w9 w10 w11 w12 w13))])) _
    refine XS.aloadN X228.here hx rfl (hb hby at_172) rfl rfl ?_
    show Steps p.tables e below (T228.setTop (mkF m 173 #[.val (.int p1), .val (.int p2), .val (.ref b102), .val (.ref tt), .val (.int (p1 &&& (511 : Int32))), .val (.ref (own_fc p1 w0 w1 w2 w3 w4 w5 w6 w7 w8 w9 w10 w11 w12 w13)), .val (.ref (own_fc (p1 &&& (511 : Int32)) w0 w1 w2 w3 w4 w5 w6 w7 w8 w9 w10 w11 w12 w13)), .val (.ref (own_fc cc w0 w1 w2 w3 w4 w5 w6 w7 w8 w9 w10 w11 w12 w13)), .val (.int (1 : Int32)), .val (.int (1 : Int32)), .unset] [(.ref tt), (.ref (own_fc cc w0 w1 w2 w3 w4 w5 w6 w7 w8 w9 w10 w11 w12 w13))])) _
    refine Jvm.RoadKit.acmp (g := (mkF m 173 #[.val (.int p1), .val (.int p2), .val (.ref b102), .val (.ref tt), .val (.int (p1 &&& (511 : Int32))), .val (.ref (own_fc p1 w0 w1 w2 w3 w4 w5 w6 w7 w8 w9 w10 w11 w12 w13)), .val (.ref (own_fc (p1 &&& (511 : Int32)) w0 w1 w2 w3 w4 w5 w6 w7 w8 w9 w10 w11 w12 w13)), .val (.ref (own_fc cc w0 w1 w2 w3 w4 w5 w6 w7 w8 w9 w10 w11 w12 w13)), .val (.int (1 : Int32)), .val (.int (1 : Int32)), .unset] [(.ref tt), (.ref (own_fc cc w0 w1 w2 w3 w4 w5 w6 w7 w8 w9 w10 w11 w12 w13))])) X228 hx rfl rfl rfl (pc0 := 173) (pc' := 176) (same := true) rfl (hb hby at_173) rfl (decide_eq_true (congrArg Value.ref hfc)) (by decide) (by decide) ?_
    show Steps p.tables e below (T228.setTop (mkF m 176 #[.val (.int p1), .val (.int p2), .val (.ref b102), .val (.ref tt), .val (.int (p1 &&& (511 : Int32))), .val (.ref (own_fc p1 w0 w1 w2 w3 w4 w5 w6 w7 w8 w9 w10 w11 w12 w13)), .val (.ref (own_fc (p1 &&& (511 : Int32)) w0 w1 w2 w3 w4 w5 w6 w7 w8 w9 w10 w11 w12 w13)), .val (.ref (own_fc cc w0 w1 w2 w3 w4 w5 w6 w7 w8 w9 w10 w11 w12 w13)), .val (.int (1 : Int32)), .val (.int (1 : Int32)), .unset] [])) _
    refine XS.iconst X228.here hx rfl (hb hby at_176) ?_
    show Steps p.tables e below (T228.setTop (mkF m 177 #[.val (.int p1), .val (.int p2), .val (.ref b102), .val (.ref tt), .val (.int (p1 &&& (511 : Int32))), .val (.ref (own_fc p1 w0 w1 w2 w3 w4 w5 w6 w7 w8 w9 w10 w11 w12 w13)), .val (.ref (own_fc (p1 &&& (511 : Int32)) w0 w1 w2 w3 w4 w5 w6 w7 w8 w9 w10 w11 w12 w13)), .val (.ref (own_fc cc w0 w1 w2 w3 w4 w5 w6 w7 w8 w9 w10 w11 w12 w13)), .val (.int (1 : Int32)), .val (.int (1 : Int32)), .unset] [(.int (1 : Int32))])) _
    refine XS.goto X228.here hx rfl (pc0 := 177) (pc' := 181) rfl (hb hby at_177) (by decide) (by decide) ?_
    show Steps p.tables e below (T228.setTop (mkF m 181 #[.val (.int p1), .val (.int p2), .val (.ref b102), .val (.ref tt), .val (.int (p1 &&& (511 : Int32))), .val (.ref (own_fc p1 w0 w1 w2 w3 w4 w5 w6 w7 w8 w9 w10 w11 w12 w13)), .val (.ref (own_fc (p1 &&& (511 : Int32)) w0 w1 w2 w3 w4 w5 w6 w7 w8 w9 w10 w11 w12 w13)), .val (.ref (own_fc cc w0 w1 w2 w3 w4 w5 w6 w7 w8 w9 w10 w11 w12 w13)), .val (.int (1 : Int32)), .val (.int (1 : Int32)), .unset] [(.int (1 : Int32))])) _
    refine XS.istore X228.here hx rfl (hb hby at_181) rfl (l' := #[.val (.int p1), .val (.int p2), .val (.ref b102), .val (.ref tt), .val (.int (p1 &&& (511 : Int32))), .val (.ref (own_fc p1 w0 w1 w2 w3 w4 w5 w6 w7 w8 w9 w10 w11 w12 w13)), .val (.ref (own_fc (p1 &&& (511 : Int32)) w0 w1 w2 w3 w4 w5 w6 w7 w8 w9 w10 w11 w12 w13)), .val (.ref (own_fc cc w0 w1 w2 w3 w4 w5 w6 w7 w8 w9 w10 w11 w12 w13)), .val (.int (1 : Int32)), .val (.int (1 : Int32)), .val (.int (1 : Int32))]) rfl ?_
    show Steps p.tables e below (T228.setTop (mkF m 183 #[.val (.int p1), .val (.int p2), .val (.ref b102), .val (.ref tt), .val (.int (p1 &&& (511 : Int32))), .val (.ref (own_fc p1 w0 w1 w2 w3 w4 w5 w6 w7 w8 w9 w10 w11 w12 w13)), .val (.ref (own_fc (p1 &&& (511 : Int32)) w0 w1 w2 w3 w4 w5 w6 w7 w8 w9 w10 w11 w12 w13)), .val (.ref (own_fc cc w0 w1 w2 w3 w4 w5 w6 w7 w8 w9 w10 w11 w12 w13)), .val (.int (1 : Int32)), .val (.int (1 : Int32)), .val (.int (1 : Int32))] [])) _
    refine XS.iload X228.here hx rfl (hb hby at_183) rfl ?_
    show Steps p.tables e below (T228.setTop (mkF m 185 #[.val (.int p1), .val (.int p2), .val (.ref b102), .val (.ref tt), .val (.int (p1 &&& (511 : Int32))), .val (.ref (own_fc p1 w0 w1 w2 w3 w4 w5 w6 w7 w8 w9 w10 w11 w12 w13)), .val (.ref (own_fc (p1 &&& (511 : Int32)) w0 w1 w2 w3 w4 w5 w6 w7 w8 w9 w10 w11 w12 w13)), .val (.ref (own_fc cc w0 w1 w2 w3 w4 w5 w6 w7 w8 w9 w10 w11 w12 w13)), .val (.int (1 : Int32)), .val (.int (1 : Int32)), .val (.int (1 : Int32))] [(.int (1 : Int32))])) _
    refine XS.ifNo X228.here hx rfl (hb hby at_185) rfl ((if0 _ _).trans (feq (by decide : ¬ ((1 : Int32) = (0 : Int32)))).1) ?_
    show Steps p.tables e below (T228.setTop (mkF m 188 #[.val (.int p1), .val (.int p2), .val (.ref b102), .val (.ref tt), .val (.int (p1 &&& (511 : Int32))), .val (.ref (own_fc p1 w0 w1 w2 w3 w4 w5 w6 w7 w8 w9 w10 w11 w12 w13)), .val (.ref (own_fc (p1 &&& (511 : Int32)) w0 w1 w2 w3 w4 w5 w6 w7 w8 w9 w10 w11 w12 w13)), .val (.ref (own_fc cc w0 w1 w2 w3 w4 w5 w6 w7 w8 w9 w10 w11 w12 w13)), .val (.int (1 : Int32)), .val (.int (1 : Int32)), .val (.int (1 : Int32))] [])) _
    refine XS.iload X228.here hx rfl (hb hby at_188) rfl ?_
    show Steps p.tables e below (T228.setTop (mkF m 190 #[.val (.int p1), .val (.int p2), .val (.ref b102), .val (.ref tt), .val (.int (p1 &&& (511 : Int32))), .val (.ref (own_fc p1 w0 w1 w2 w3 w4 w5 w6 w7 w8 w9 w10 w11 w12 w13)), .val (.ref (own_fc (p1 &&& (511 : Int32)) w0 w1 w2 w3 w4 w5 w6 w7 w8 w9 w10 w11 w12 w13)), .val (.ref (own_fc cc w0 w1 w2 w3 w4 w5 w6 w7 w8 w9 w10 w11 w12 w13)), .val (.int (1 : Int32)), .val (.int (1 : Int32)), .val (.int (1 : Int32))] [(.int (1 : Int32))])) _
    refine XS.ifNo X228.here hx rfl (hb hby at_190) rfl ((if0 _ _).trans (feq (by decide : ¬ ((1 : Int32) = (0 : Int32)))).1) ?_
    show Steps p.tables e below (T228.setTop (mkF m 193 #[.val (.int p1), .val (.int p2), .val (.ref b102), .val (.ref tt), .val (.int (p1 &&& (511 : Int32))), .val (.ref (own_fc p1 w0 w1 w2 w3 w4 w5 w6 w7 w8 w9 w10 w11 w12 w13)), .val (.ref (own_fc (p1 &&& (511 : Int32)) w0 w1 w2 w3 w4 w5 w6 w7 w8 w9 w10 w11 w12 w13)), .val (.ref (own_fc cc w0 w1 w2 w3 w4 w5 w6 w7 w8 w9 w10 w11 w12 w13)), .val (.int (1 : Int32)), .val (.int (1 : Int32)), .val (.int (1 : Int32))] [])) _
    refine XS.iload X228.here hx rfl (hb hby at_193) rfl ?_
    show Steps p.tables e below (T228.setTop (mkF m 195 #[.val (.int p1), .val (.int p2), .val (.ref b102), .val (.ref tt), .val (.int (p1 &&& (511 : Int32))), .val (.ref (own_fc p1 w0 w1 w2 w3 w4 w5 w6 w7 w8 w9 w10 w11 w12 w13)), .val (.ref (own_fc (p1 &&& (511 : Int32)) w0 w1 w2 w3 w4 w5 w6 w7 w8 w9 w10 w11 w12 w13)), .val (.ref (own_fc cc w0 w1 w2 w3 w4 w5 w6 w7 w8 w9 w10 w11 w12 w13)), .val (.int (1 : Int32)), .val (.int (1 : Int32)), .val (.int (1 : Int32))] [(.int (1 : Int32))])) _
    refine XS.ifNo X228.here hx rfl (hb hby at_195) rfl ((if0 _ _).trans (feq (by decide : ¬ ((1 : Int32) = (0 : Int32)))).1) ?_
    show Steps p.tables e below (T228.setTop (mkF m 198 #[.val (.int p1), .val (.int p2), .val (.ref b102), .val (.ref tt), .val (.int (p1 &&& (511 : Int32))), .val (.ref (own_fc p1 w0 w1 w2 w3 w4 w5 w6 w7 w8 w9 w10 w11 w12 w13)), .val (.ref (own_fc (p1 &&& (511 : Int32)) w0 w1 w2 w3 w4 w5 w6 w7 w8 w9 w10 w11 w12 w13)), .val (.ref (own_fc cc w0 w1 w2 w3 w4 w5 w6 w7 w8 w9 w10 w11 w12 w13)), .val (.int (1 : Int32)), .val (.int (1 : Int32)), .val (.int (1 : Int32))] [])) _
    refine XS.iconst X228.here hx rfl (hb hby at_198) ?_
    show Steps p.tables e below (T228.setTop (mkF m 199 #[.val (.int p1), .val (.int p2), .val (.ref b102), .val (.ref tt), .val (.int (p1 &&& (511 : Int32))), .val (.ref (own_fc p1 w0 w1 w2 w3 w4 w5 w6 w7 w8 w9 w10 w11 w12 w13)), .val (.ref (own_fc (p1 &&& (511 : Int32)) w0 w1 w2 w3 w4 w5 w6 w7 w8 w9 w10 w11 w12 w13)), .val (.ref (own_fc cc w0 w1 w2 w3 w4 w5 w6 w7 w8 w9 w10 w11 w12 w13)), .val (.int (1 : Int32)), .val (.int (1 : Int32)), .val (.int (1 : Int32))] [(.int (1 : Int32))])) _
    refine XS.goto X228.here hx rfl (pc0 := 199) (pc' := 203) rfl (hb hby at_199) (by decide) (by decide) ?_
    show Steps p.tables e below (T228.setTop (mkF m 203 #[.val (.int p1), .val (.int p2), .val (.ref b102), .val (.ref tt), .val (.int (p1 &&& (511 : Int32))), .val (.ref (own_fc p1 w0 w1 w2 w3 w4 w5 w6 w7 w8 w9 w10 w11 w12 w13)), .val (.ref (own_fc (p1 &&& (511 : Int32)) w0 w1 w2 w3 w4 w5 w6 w7 w8 w9 w10 w11 w12 w13)), .val (.ref (own_fc cc w0 w1 w2 w3 w4 w5 w6 w7 w8 w9 w10 w11 w12 w13)), .val (.int (1 : Int32)), .val (.int (1 : Int32)), .val (.int (1 : Int32))] [(.int (1 : Int32))])) _
    exact k)
  obtain ⟨fs, hr, hrun, hended, hW, hsame⟩ := X228.leave (v := some (.int (1 : Int32))) (fun h => by rw [Bd.returns] at h; cases h)
  refine ⟨_, _, p230 _ (retN X228 hx (t := .boolean) Bd.returns (by simp) (hb hby at_203) hr), hrun, hended, _, _, rfl, ?_, ⟨_, rfl⟩, hW, hsame.mono (by decide) (by decide)⟩
  show Q0 Z p1 p2 w0 w1 w2 w3 w4 w5 w6 w7 w8 w9 w10 w11 w12 w13 wv kv h0 n0 _ T228.heap _
  rw [q228_hh]
  exact ⟨rfl, N228⟩
set_option maxRecDepth 65536 in
set_option maxHeartbeats 40000000 in
theorem comes_1 {Post : Tables → Env → Array Value → State → Outcome → State → Prop} (hpost : ∀ tb e args s v u, (limb_1_1.after args s (.returned v) u = true ∧ limb_1_2.after args s (.returned v) u = true ∧ True) → FrameEnd s (.returned v) u (Jvm.fieldLocs frame_1_writes args s ++ Jvm.arrayLocs frame_1_arrays args s ++ Jvm.staticLocs frame_1_statics s) 16 192 → Post tb e args s (.returned v) u) :
    ArmFor flags0 classFile x code maxLocals ret World_1 tables_1 room_1 Calls_1 rest_1 Pre_1 Post := by
  intro l hfl _ _ p e ha hc hk s m args below hf hA hF happ hP
  obtain ⟨hcalls, hrest, hpre⟩ := hP
  obtain ⟨-, -, -, hnamed, -, -, -, hat⟩ := (Spec.applies_iff hf).mp happ
  obtain ⟨hg, hn⟩ := and_e (Cond.before_iff.mp (show (Jvm.Cond.and given_1 narrow_1).before args s = true from hpre))
  obtain ⟨ga, gb0⟩ := and_e hg
  obtain ⟨gi0, gb1⟩ := and_e gb0
  have gi1 := gb1
  obtain ⟨w0, w1, rfl⟩ : ∃ w0 w1 : Value, args = #[w0, w1] := by
    have hs : args.size = 2 := by simpa [Cond.value, given_1] using ga
    obtain ⟨L⟩ := args
    match L, hs with
    | [w0, w1], _ => exact ⟨w0, w1, rfl⟩
  have hw := fun d (hd : d ∈ tables_1) => atoms_spec (ws := Jvm.Cond.code x code maxLocals ret :: tables_1) hat d (List.mem_cons_of_mem _ hd)
  have hfit : Fit s := fun {y c} hc i hi => by
    obtain ⟨ha, rfl⟩ := Array.getElem?_eq_some_iff.mp hc
    have q := List.all_eq_true.mp ((Array.all_eq_true_iff_forall_mem.mp hF) _ (Array.getElem_mem ha)) i (List.mem_range.mpr hi)
    simpa [Array.getElem?_eq_getElem hi] using q
  obtain ⟨i0, ei0⟩ := is_v gi0
  obtain rfl : w0 = (.int i0) := Option.some.inj ei0
  obtain ⟨i1, ei1⟩ := is_v gi1
  obtain rfl : w1 = (.int i1) := Option.some.inj ei1
  obtain ⟨hnl, hnr⟩ := and_e hn
  obtain ⟨hnrl, hnrr⟩ := and_e hnr
  obtain ⟨hnrrl, hnrrr⟩ := and_e hnrr
  obtain ⟨hnrrrl, hnrrrr⟩ := and_e hnrrr
  obtain ⟨hnrrrrl, hnrrrrr⟩ := and_e hnrrrr
  obtain ⟨hnrrrrrl, hnrrrrrr⟩ := and_e hnrrrrr
  obtain ⟨hnrrrrrrl, hnrrrrrrr⟩ := and_e hnrrrrrr
  obtain ⟨hnrrrrrrrl, hnrrrrrrrr⟩ := and_e hnrrrrrrr
  obtain ⟨hnrrrrrrrrl, hnrrrrrrrrr⟩ := and_e hnrrrrrrrr
  obtain ⟨hnrrrrrrrrrl, hnrrrrrrrrrr⟩ := and_e hnrrrrrrrrr
  obtain ⟨hnrrrrrrrrrrl, hnrrrrrrrrrrr⟩ := and_e hnrrrrrrrrrr
  obtain ⟨hnrrrrrrrrrrrl, hnrrrrrrrrrrrr⟩ := and_e hnrrrrrrrrrrr
  obtain ⟨hnrrrrrrrrrrrrl, hnrrrrrrrrrrrrr⟩ := and_e hnrrrrrrrrrrrr
  obtain ⟨hnrrrrrrrrrrrrrl, hnrrrrrrrrrrrrrr⟩ := and_e hnrrrrrrrrrrrrr
  obtain ⟨hnrrrrrrrrrrrrrrl, hnrrrrrrrrrrrrrrr⟩ := and_e hnrrrrrrrrrrrrrr
  obtain ⟨hnrrrrrrrrrrrrrrrl, hnrrrrrrrrrrrrrrrr⟩ := and_e hnrrrrrrrrrrrrrrr
  obtain ⟨hnrrrrrrrrrrrrrrrrl, hnrrrrrrrrrrrrrrrrr⟩ := and_e hnrrrrrrrrrrrrrrrr
  obtain ⟨hnrrrrrrrrrrrrrrrrrl, hnrrrrrrrrrrrrrrrrrr⟩ := and_e hnrrrrrrrrrrrrrrrrr
  obtain ⟨hnrrrrrrrrrrrrrrrrrrl, hnrrrrrrrrrrrrrrrrrrr⟩ := and_e hnrrrrrrrrrrrrrrrrrr
  obtain ⟨hnrrrrrrrrrrrrrrrrrrrl, hnrrrrrrrrrrrrrrrrrrrr⟩ := and_e hnrrrrrrrrrrrrrrrrrrr
  obtain ⟨hnrrrrrrrrrrrrrrrrrrrrl, hnrrrrrrrrrrrrrrrrrrrrr⟩ := and_e hnrrrrrrrrrrrrrrrrrrrr
  obtain ⟨hnrrrrrrrrrrrrrrrrrrrrrl, hnrrrrrrrrrrrrrrrrrrrrrr⟩ := and_e hnrrrrrrrrrrrrrrrrrrrrr
  obtain ⟨hnrrrrrrrrrrrrrrrrrrrrrrl, hnrrrrrrrrrrrrrrrrrrrrrrr⟩ := and_e hnrrrrrrrrrrrrrrrrrrrrrr
  obtain ⟨hnrrrrrrrrrrrrrrrrrrrrrrrl, hnrrrrrrrrrrrrrrrrrrrrrrrr⟩ := and_e hnrrrrrrrrrrrrrrrrrrrrrrr
  obtain ⟨hnrrrrrrrrrrrrrrrrrrrrrrrrl, hnrrrrrrrrrrrrrrrrrrrrrrrrr⟩ := and_e hnrrrrrrrrrrrrrrrrrrrrrrrr
  obtain ⟨hnrrrrrrrrrrrrrrrrrrrrrrrrrl, hnrrrrrrrrrrrrrrrrrrrrrrrrrr⟩ := and_e hnrrrrrrrrrrrrrrrrrrrrrrrrr
  obtain ⟨hnrrrrrrrrrrrrrrrrrrrrrrrrrrl, hnrrrrrrrrrrrrrrrrrrrrrrrrrrr⟩ := and_e hnrrrrrrrrrrrrrrrrrrrrrrrrrr
  obtain ⟨hnrrrrrrrrrrrrrrrrrrrrrrrrrrrl, hnrrrrrrrrrrrrrrrrrrrrrrrrrrrr⟩ := and_e hnrrrrrrrrrrrrrrrrrrrrrrrrrrr
  obtain ⟨hnrrrrrrrrrrrrrrrrrrrrrrrrrrrrl, hnrrrrrrrrrrrrrrrrrrrrrrrrrrrrr⟩ := and_e hnrrrrrrrrrrrrrrrrrrrrrrrrrrrr
  obtain ⟨hnrrrrrrrrrrrrrrrrrrrrrrrrrrrrrl, hnrrrrrrrrrrrrrrrrrrrrrrrrrrrrrr⟩ := and_e hnrrrrrrrrrrrrrrrrrrrrrrrrrrrrr
  obtain ⟨hnrrrrrrrrrrrrrrrrrrrrrrrrrrrrrrl, hnrrrrrrrrrrrrrrrrrrrrrrrrrrrrrrr⟩ := and_e hnrrrrrrrrrrrrrrrrrrrrrrrrrrrrrr
  obtain ⟨hnrrrrrrrrrrrrrrrrrrrrrrrrrrrrrrrl, hnrrrrrrrrrrrrrrrrrrrrrrrrrrrrrrrr⟩ := and_e hnrrrrrrrrrrrrrrrrrrrrrrrrrrrrrrr
  obtain ⟨hnrrrrrrrrrrrrrrrrrrrrrrrrrrrrrrrrl, hnrrrrrrrrrrrrrrrrrrrrrrrrrrrrrrrrr⟩ := and_e hnrrrrrrrrrrrrrrrrrrrrrrrrrrrrrrrr
  obtain ⟨hnrrrrrrrrrrrrrrrrrrrrrrrrrrrrrrrrrl, hnrrrrrrrrrrrrrrrrrrrrrrrrrrrrrrrrrr⟩ := and_e hnrrrrrrrrrrrrrrrrrrrrrrrrrrrrrrrrr
  obtain ⟨hnrrrrrrrrrrrrrrrrrrrrrrrrrrrrrrrrrrl, hnrrrrrrrrrrrrrrrrrrrrrrrrrrrrrrrrrrr⟩ := and_e hnrrrrrrrrrrrrrrrrrrrrrrrrrrrrrrrrrr
  obtain ⟨hnrrrrrrrrrrrrrrrrrrrrrrrrrrrrrrrrrrrl, hnrrrrrrrrrrrrrrrrrrrrrrrrrrrrrrrrrrrr⟩ := and_e hnrrrrrrrrrrrrrrrrrrrrrrrrrrrrrrrrrrr
  obtain ⟨hnrrrrrrrrrrrrrrrrrrrrrrrrrrrrrrrrrrrrl, hnrrrrrrrrrrrrrrrrrrrrrrrrrrrrrrrrrrrrr⟩ := and_e hnrrrrrrrrrrrrrrrrrrrrrrrrrrrrrrrrrrrr
  obtain ⟨hnrrrrrrrrrrrrrrrrrrrrrrrrrrrrrrrrrrrrrl, hnrrrrrrrrrrrrrrrrrrrrrrrrrrrrrrrrrrrrrr⟩ := and_e hnrrrrrrrrrrrrrrrrrrrrrrrrrrrrrrrrrrrrr
  obtain ⟨hnrrrrrrrrrrrrrrrrrrrrrrrrrrrrrrrrrrrrrrl, hnrrrrrrrrrrrrrrrrrrrrrrrrrrrrrrrrrrrrrrr⟩ := and_e hnrrrrrrrrrrrrrrrrrrrrrrrrrrrrrrrrrrrrrr
  obtain ⟨hnrrrrrrrrrrrrrrrrrrrrrrrrrrrrrrrrrrrrrrrl, hnrrrrrrrrrrrrrrrrrrrrrrrrrrrrrrrrrrrrrrrr⟩ := and_e hnrrrrrrrrrrrrrrrrrrrrrrrrrrrrrrrrrrrrrrr
  obtain ⟨hnrrrrrrrrrrrrrrrrrrrrrrrrrrrrrrrrrrrrrrrrl, hnrrrrrrrrrrrrrrrrrrrrrrrrrrrrrrrrrrrrrrrrr⟩ := and_e hnrrrrrrrrrrrrrrrrrrrrrrrrrrrrrrrrrrrrrrrr
  obtain ⟨hnrrrrrrrrrrrrrrrrrrrrrrrrrrrrrrrrrrrrrrrrrl, hnrrrrrrrrrrrrrrrrrrrrrrrrrrrrrrrrrrrrrrrrrr⟩ := and_e hnrrrrrrrrrrrrrrrrrrrrrrrrrrrrrrrrrrrrrrrrr
  obtain ⟨hnrrrrrrrrrrrrrrrrrrrrrrrrrrrrrrrrrrrrrrrrrrl, hnrrrrrrrrrrrrrrrrrrrrrrrrrrrrrrrrrrrrrrrrrrr⟩ := and_e hnrrrrrrrrrrrrrrrrrrrrrrrrrrrrrrrrrrrrrrrrrr
  obtain ⟨hnrrrrrrrrrrrrrrrrrrrrrrrrrrrrrrrrrrrrrrrrrrrl, hnrrrrrrrrrrrrrrrrrrrrrrrrrrrrrrrrrrrrrrrrrrrr⟩ := and_e hnrrrrrrrrrrrrrrrrrrrrrrrrrrrrrrrrrrrrrrrrrrr
  obtain ⟨w0_, ev0⟩ := exa_v hnl
  have En0 : own_En s "VECTOR_TABLE" w0_ 3 := ⟨Sta.start ev0 (Or.inr ⟨(own_w hw 3 rfl), (own_w hw 4 rfl)⟩), Exa.start ev0 hnl, Fld.start ((fld_at ev0).symm.trans (eqInt hnrrrrrrrrrrrrrrrrrrrrrrrrrrrrrrrl))⟩
  obtain ⟨w1_, ev1⟩ := exa_v hnrl
  have En1 : own_En s "ROLLING_WINDOW_DELTA" w1_ 5 := ⟨Sta.start ev1 (Or.inr ⟨(own_w hw 3 rfl), (own_w hw 7 rfl)⟩), Exa.start ev1 hnrl, Fld.start ((fld_at ev1).symm.trans (eqInt hnrrrrrrrrrrrrrrrrrrrrrrrrrrrrrrrrl))⟩
  obtain ⟨w2_, ev2⟩ := exa_v hnrrl
  have En2 : own_En s "LOAD_MAP" w2_ 6 := ⟨Sta.start ev2 (Or.inr ⟨(own_w hw 3 rfl), (own_w hw 9 rfl)⟩), Exa.start ev2 hnrrl, Fld.start ((fld_at ev2).symm.trans (eqInt hnrrrrrrrrrrrrrrrrrrrrrrrrrrrrrrrrrl))⟩
  obtain ⟨w3_, ev3⟩ := exa_v hnrrrl
  have En3 : own_En s "SIGNATURE" w3_ 9 := ⟨Sta.start ev3 (Or.inr ⟨(own_w hw 3 rfl), (own_w hw 11 rfl)⟩), Exa.start ev3 hnrrrl, Fld.start ((fld_at ev3).symm.trans (eqInt hnrrrrrrrrrrrrrrrrrrrrrrrrrrrrrrrrrrl))⟩
  obtain ⟨w4_, ev4⟩ := exa_v hnrrrrl
  have En4 : own_En s "PARTITION_TABLE" w4_ 10 := ⟨Sta.start ev4 (Or.inr ⟨(own_w hw 3 rfl), (own_w hw 13 rfl)⟩), Exa.start ev4 hnrrrrl, Fld.start ((fld_at ev4).symm.trans (eqInt hnrrrrrrrrrrrrrrrrrrrrrrrrrrrrrrrrrrrl))⟩
  obtain ⟨w5_, ev5⟩ := exa_v hnrrrrrl
  have En5 : own_En s "SALT" w5_ 12 := ⟨Sta.start ev5 (Or.inr ⟨(own_w hw 3 rfl), (own_w hw 15 rfl)⟩), Exa.start ev5 hnrrrrrl, Fld.start ((fld_at ev5).symm.trans (eqInt hnrrrrrrrrrrrrrrrrrrrrrrrrrrrrrrrrrrrrl))⟩
  obtain ⟨w6_, ev6⟩ := exa_v hnrrrrrrl
  have En6 : own_En s "NEXT_BLOCK_OFFSET" w6_ 65 := ⟨Sta.start ev6 (Or.inr ⟨(own_w hw 3 rfl), (own_w hw 17 rfl)⟩), Exa.start ev6 hnrrrrrrl, Fld.start ((fld_at ev6).symm.trans (eqInt hnrrrrrrrrrrrrrrrrrrrrrrrrrrrrrrrrrrrrrl))⟩
  obtain ⟨w7_, ev7⟩ := exa_v hnrrrrrrrl
  have En7 : own_En s "IMAGE_TYPE" w7_ 66 := ⟨Sta.start ev7 (Or.inr ⟨(own_w hw 3 rfl), (own_w hw 19 rfl)⟩), Exa.start ev7 hnrrrrrrrl, Fld.start ((fld_at ev7).symm.trans (eqInt hnrrrrrrrrrrrrrrrrrrrrrrrrrrrrrrrrrrrrrrl))⟩
  obtain ⟨w8_, ev8⟩ := exa_v hnrrrrrrrrl
  have En8 : own_En s "ENTRY_POINT" w8_ 68 := ⟨Sta.start ev8 (Or.inr ⟨(own_w hw 3 rfl), (own_w hw 21 rfl)⟩), Exa.start ev8 hnrrrrrrrrl, Fld.start ((fld_at ev8).symm.trans (eqInt hnrrrrrrrrrrrrrrrrrrrrrrrrrrrrrrrrrrrrrrrl))⟩
  obtain ⟨w9_, ev9⟩ := exa_v hnrrrrrrrrrl
  have En9 : own_En s "HASH_DEF" w9_ 71 := ⟨Sta.start ev9 (Or.inr ⟨(own_w hw 3 rfl), (own_w hw 23 rfl)⟩), Exa.start ev9 hnrrrrrrrrrl, Fld.start ((fld_at ev9).symm.trans (eqInt hnrrrrrrrrrrrrrrrrrrrrrrrrrrrrrrrrrrrrrrrrl))⟩
  obtain ⟨w10_, ev10⟩ := exa_v hnrrrrrrrrrrl
  have En10 : own_En s "VERSION" w10_ 72 := ⟨Sta.start ev10 (Or.inr ⟨(own_w hw 3 rfl), (own_w hw 25 rfl)⟩), Exa.start ev10 hnrrrrrrrrrrl, Fld.start ((fld_at ev10).symm.trans (eqInt hnrrrrrrrrrrrrrrrrrrrrrrrrrrrrrrrrrrrrrrrrrl))⟩
  obtain ⟨w11_, ev11⟩ := exa_v hnrrrrrrrrrrrl
  have En11 : own_En s "HASH_VALUE" w11_ 75 := ⟨Sta.start ev11 (Or.inr ⟨(own_w hw 3 rfl), (own_w hw 27 rfl)⟩), Exa.start ev11 hnrrrrrrrrrrrl, Fld.start ((fld_at ev11).symm.trans (eqInt hnrrrrrrrrrrrrrrrrrrrrrrrrrrrrrrrrrrrrrrrrrrl))⟩
  obtain ⟨w12_, ev12⟩ := exa_v hnrrrrrrrrrrrrl
  have En12 : own_En s "IGNORED" w12_ 254 := ⟨Sta.start ev12 (Or.inr ⟨(own_w hw 3 rfl), (own_w hw 29 rfl)⟩), Exa.start ev12 hnrrrrrrrrrrrrl, Fld.start ((fld_at ev12).symm.trans (eqInt hnrrrrrrrrrrrrrrrrrrrrrrrrrrrrrrrrrrrrrrrrrrrl))⟩
  obtain ⟨w13_, ev13⟩ := exa_v hnrrrrrrrrrrrrrl
  have En13 : own_En s "UNKNOWN" w13_ (-1) := ⟨Sta.start ev13 (Or.inr ⟨(own_w hw 3 rfl), (own_w hw 31 rfl)⟩), Exa.start ev13 hnrrrrrrrrrrrrrl, Fld.start ((fld_at ev13).symm.trans (eqInt hnrrrrrrrrrrrrrrrrrrrrrrrrrrrrrrrrrrrrrrrrrrrr))⟩
  obtain ⟨wv, evv⟩ := exa_v hnrrrrrrrrrrrrrrrl
  have SV := Sta.start evv (Or.inl (own_w hw 48 rfl))
  have EV := Exa.start evv hnrrrrrrrrrrrrrrrl
  obtain ⟨clv, AV⟩ := Arr.start evv hnrrrrrrrrrrrrrrl
  have VV := arvOf hfit evv AV (z := (14 : Int32)) (vs := [(.ref w0_), (.ref w1_), (.ref w2_), (.ref w3_), (.ref w4_), (.ref w5_), (.ref w6_), (.ref w7_), (.ref w8_), (.ref w9_), (.ref w10_), (.ref w11_), (.ref w12_), (.ref w13_)]) (dv := .null) (eqInt hnrrrrrrrrrrrrrrrrl) (by decide) rfl ⟨elAt evv AV hnrrrrrrrrrrrrrrrrrl ev0 rfl, elAt evv AV hnrrrrrrrrrrrrrrrrrrl ev1 rfl, elAt evv AV hnrrrrrrrrrrrrrrrrrrrl ev2 rfl, elAt evv AV hnrrrrrrrrrrrrrrrrrrrrl ev3 rfl, elAt evv AV hnrrrrrrrrrrrrrrrrrrrrrl ev4 rfl, elAt evv AV hnrrrrrrrrrrrrrrrrrrrrrrl ev5 rfl, elAt evv AV hnrrrrrrrrrrrrrrrrrrrrrrrl ev6 rfl, elAt evv AV hnrrrrrrrrrrrrrrrrrrrrrrrrl ev7 rfl, elAt evv AV hnrrrrrrrrrrrrrrrrrrrrrrrrrl ev8 rfl, elAt evv AV hnrrrrrrrrrrrrrrrrrrrrrrrrrrl ev9 rfl, elAt evv AV hnrrrrrrrrrrrrrrrrrrrrrrrrrrrl ev10 rfl, elAt evv AV hnrrrrrrrrrrrrrrrrrrrrrrrrrrrrl ev11 rfl, elAt evv AV hnrrrrrrrrrrrrrrrrrrrrrrrrrrrrrl ev12 rfl, elAt evv AV hnrrrrrrrrrrrrrrrrrrrrrrrrrrrrrrl ev13 rfl, trivial⟩
  obtain ⟨n, o, h1, h2, h3, _, L, rfl, ⟨rfl, N⟩, hq⟩ := rm0 l s _ hw tables_1 i0 i1 w0_ w1_ w2_ w3_ w4_ w5_ w6_ w7_ w8_ w9_ w10_ w11_ w12_ w13_ wv clv.cls s.heap s.heap.size (Nat.le_refl _) (Old.start s) En0 En1 En2 En3 En4 En5 En6 En7 En8 En9 En10 En11 En12 En13 SV EV VV p e ha hc hk s m _ below hf ((Spec.applies_iff_loose hf).mp happ).1 ⟨rfl, State.Warmed39.refl s, rfl⟩ trivial
  refine ⟨n, _, h1, h2, h3, hpost _ _ _ _ _ _ ⟨Cond.after_iff.mpr rfl, Cond.after_iff.mpr (eq_i res_at (Term.int_eval (1)) rfl), trivial⟩ ⟨hq.1, hq.2.1, (hq.2.2.sift fun y hy => Or.inr (N y hy)).mono (by decide) (by decide)⟩⟩
theorem main_1_1 : Claimed_1_1 := comes_1 fun _ _ _ _ _ _ h hF => ⟨h.1, hF⟩
theorem main_1_2 : Claimed_1_2 := comes_1 fun _ _ _ _ _ _ h hF => ⟨h.2.1, hF⟩
end Jvm.Pilot.@@N@@
namespace Jvm.Pilot.@@N@@
open Jvm Jvm.ClassFile Sem Op Lib Jvm.Free Jvm.Stand Jvm.Pilot.@@N@@.Jvm.D
/-! MADE BY PROGRAM (witnessworld.py) out of the Statement's table words and the real class files: 13 classes; the members and pool entries that the words name. The judged class is class 1, her method 2. -/
namespace start1
open Jvm.ClassFile
def u (s : String) : CpInfo := .utf8 (stringToUtf16 s)
/-- a pool by its gaps: so many unusable entries, then the entry; so many at the end -/
def gap : Nat → List CpInfo → List CpInfo
  | 0, r => r
  | n + 1, r => .unusable :: gap n r
def poolList (es : List (Nat × CpInfo)) (last : Nat) : List CpInfo := es.foldr (fun e r => gap e.1 (e.2 :: r)) (gap last [])
def pool (es : List (Nat × CpInfo)) (last : Nat) : Array CpInfo := ⟨poolList es last⟩
def fileOf (pool : Array CpInfo) (this : Nat) (attrs : Array Attribute := #[]) (ms : Array MethodInfo := #[]) (fl : Nat := 33) (sup : Nat := 0) (ifs : Array Nat := #[]) (fds : Array FieldInfo := #[]) : ClassFile where
  minorVersion := 0
  majorVersion := 65
  constantPool := pool
  accessFlags := fl
  thisClass := this
  superClass := sup
  interfaces := ifs
  fields := fds
  methods := ms
  attributes := attrs
def plain (name : String) (sup : Option ClassId) : Class where
  name := name
  kind := .ordinary
  loader := none
  accessFlags := 33
  super := sup
  interfaces := #[]
  cf := none
  fields := #[]
  methods := #[]
  instanceTypes := #[]
  staticTypes := #[]
  resolved := #[]
  callSites := []
  init := .initialized
  statics := none
  mirror := none

def pool0 : Array CpInfo := pool [(5, u "<init>"), (0, u "()V"), (1, .class_ 10), (1, u "java/lang/Object"), (85, u "clone"), (0, u "()Ljava/lang/Object;")] 26

def k0m0 : Method := { name := "<init>", desc := "()V", sig := { parameters := [], returnType := none }, accessFlags := 1, code := none }
def k0m1 : Method := { name := "clone", desc := "()Ljava/lang/Object;", sig := { parameters := [], returnType := some (.object "java/lang/Object") }, accessFlags := 260, code := none }
/-- java/lang/Object -/
def k0 : Class := { plain "java/lang/Object" none with
  accessFlags := 33
  interfaces := #[]
  cf := some (fileOf pool0 8 #[] #[{ accessFlags := 1, nameIndex := 5, descriptorIndex := 6, attributes := #[] }, { accessFlags := 260, nameIndex := 96, descriptorIndex := 97, attributes := #[] }] 33 0 #[] #[])
  fields := #[]
  methods := #[k0m0, k0m1]
  instanceTypes := #[]
  staticTypes := #[]
  resolved := Array.replicate 124 none
  statics := none }

def pool1 : Array CpInfo := pool [(2, .class_ 4), (1, u "java/lang/Object"), (0, u "<init>"), (0, u "()V"), (0, .fieldref 8 9), (0, .class_ 10), (0, .nameAndType 11 12), (0, u "com/example/boot_sealer/bootsealer/rp2350/ItemType"), (0, u "VECTOR_TABLE"), (0, u "Lcom/example/boot_sealer/bootsealer/rp2350/ItemType;"), (0, .fieldref 8 14), (0, .nameAndType 15 12), (0, u "ROLLING_WINDOW_DELTA"), (0, .fieldref 8 17), (0, .nameAndType 18 12), (0, u "LOAD_MAP"), (0, .fieldref 8 20), (0, .nameAndType 21 12), (0, u "SIGNATURE"), (0, .fieldref 8 23), (0, .nameAndType 24 12), (0, u "PARTITION_TABLE"), (0, .fieldref 8 26), (0, .nameAndType 27 12), (0, u "SALT"), (0, .fieldref 8 29), (0, .nameAndType 30 12), (0, u "NEXT_BLOCK_OFFSET"), (0, .fieldref 8 32), (0, .nameAndType 33 12), (0, u "IMAGE_TYPE"), (0, .fieldref 8 35), (0, .nameAndType 36 12), (0, u "ENTRY_POINT"), (0, .fieldref 8 38), (0, .nameAndType 39 12), (0, u "HASH_DEF"), (0, .fieldref 8 41), (0, .nameAndType 42 12), (0, u "VERSION"), (0, .fieldref 8 44), (0, .nameAndType 45 12), (0, u "HASH_VALUE"), (0, .fieldref 8 47), (0, .nameAndType 48 12), (0, u "IGNORED"), (0, .fieldref 8 50), (0, .nameAndType 51 12), (0, u "UNKNOWN"), (0, .integer 2147483647), (0, .methodref 8 54), (0, .nameAndType 55 56), (0, u "forCode"), (0, u "(I)Lcom/example/boot_sealer/bootsealer/rp2350/ItemType;"), (0, .methodref 8 58), (0, .nameAndType 59 60), (0, u "code"), (0, u "()I"), (0, .methodref 62 63), (0, .class_ 64), (0, .nameAndType 65 56), (0, u "com/example/boot_sealer/bootsealer/rp2350/ItemTypeForCodePinLaw"), (0, u "expected"), (3, u "law"), (0, u "(II)Z")] 4

def k1m0 : Method := { name := "<init>", desc := "()V", sig := { parameters := [], returnType := none }, accessFlags := 1, code := none }
def k1c1 : Code := { maxStack := 2, maxLocals := 1, code := method_2_code, exceptionTable := #[], attributes := #[] }
def k1m1 : Method := { name := "expected", desc := "(I)Lcom/example/boot_sealer/bootsealer/rp2350/ItemType;", sig := { parameters := [.int], returnType := some (.object "com/example/boot_sealer/bootsealer/rp2350/ItemType") }, accessFlags := 10, code := some k1c1 }
def k1c2 : Code := { maxStack := 4, maxLocals := 11, code := code, exceptionTable := #[], attributes := #[] }
def k1m2 : Method := { name := "law", desc := "(II)Z", sig := { parameters := [.int, .int], returnType := some .boolean }, accessFlags := 9, code := some k1c2 }
/-- com/example/boot_sealer/bootsealer/rp2350/ItemTypeForCodePinLaw -/
def k1 : Class := { plain "com/example/boot_sealer/bootsealer/rp2350/ItemTypeForCodePinLaw" (some 0) with
  accessFlags := 49
  interfaces := #[]
  cf := some (fileOf pool1 62 #[] #[{ accessFlags := 1, nameIndex := 5, descriptorIndex := 6, attributes := #[] }, { accessFlags := 10, nameIndex := 65, descriptorIndex := 56, attributes := #[] }, { accessFlags := 9, nameIndex := 69, descriptorIndex := 70, attributes := #[] }] 49 2 #[] #[])
  fields := #[]
  methods := #[k1m0, k1m1, k1m2]
  instanceTypes := #[]
  staticTypes := #[]
  resolved := Array.replicate 75 none
  statics := none }

def pool2 : Array CpInfo := pool [(1, .class_ 2), (0, u "java/lang/constant/Constable"), (0, .class_ 4), (0, u "java/lang/Object")] 6

/-- java/lang/constant/Constable -/
def k2 : Class := { plain "java/lang/constant/Constable" (some 0) with
  accessFlags := 1537
  interfaces := #[]
  cf := some (fileOf pool2 1 #[] #[] 1537 3 #[] #[])
  fields := #[]
  methods := #[]
  instanceTypes := #[]
  staticTypes := #[]
  resolved := Array.replicate 11 none
  statics := none }

def pool3 : Array CpInfo := pool [(1, .class_ 2), (0, u "java/lang/Comparable"), (0, .class_ 4), (0, u "java/lang/Object")] 7

/-- java/lang/Comparable -/
def k3 : Class := { plain "java/lang/Comparable" (some 0) with
  accessFlags := 1537
  interfaces := #[]
  cf := some (fileOf pool3 1 #[] #[] 1537 3 #[] #[])
  fields := #[]
  methods := #[]
  instanceTypes := #[]
  staticTypes := #[]
  resolved := Array.replicate 12 none
  statics := none }

def pool4 : Array CpInfo := pool [(1, .class_ 2), (0, u "java/io/Serializable"), (0, .class_ 4), (0, u "java/lang/Object")] 2

/-- java/io/Serializable -/
def k4 : Class := { plain "java/io/Serializable" (some 0) with
  accessFlags := 1537
  interfaces := #[]
  cf := some (fileOf pool4 1 #[] #[] 1537 3 #[] #[])
  fields := #[]
  methods := #[]
  instanceTypes := #[]
  staticTypes := #[]
  resolved := Array.replicate 7 none
  statics := none }

def pool5 : Array CpInfo := pool [(2, .class_ 4), (1, u "java/lang/Enum"), (0, u "name"), (0, u "Ljava/lang/String;"), (2, u "ordinal"), (0, u "I"), (1, .class_ 14), (1, u "java/lang/Object"), (4, u "hash"), (86, .class_ 108), (1, u "java/lang/Enum$EnumDesc"), (2, .class_ 112), (0, u "java/lang/constant/Constable"), (0, .class_ 114), (0, u "java/lang/Comparable"), (0, .class_ 116), (0, u "java/io/Serializable")] 87

/-- java/lang/Enum -/
def k5 : Class := { plain "java/lang/Enum" (some 0) with
  accessFlags := 1057
  interfaces := #[2, 3, 4]
  cf := some (fileOf pool5 2 #[.nestMembers #[106]] #[] 1057 12 #[111, 113, 115] #[{ accessFlags := 18, nameIndex := 5, descriptorIndex := 6, attributes := #[] }, { accessFlags := 18, nameIndex := 9, descriptorIndex := 10, attributes := #[] }, { accessFlags := 2, nameIndex := 19, descriptorIndex := 10, attributes := #[] }])
  fields := #[{ name := "name", type := (.object "java/lang/String"), accessFlags := 18, slot := 0, constantValue := 0 }, { name := "ordinal", type := .int, accessFlags := 18, slot := 1, constantValue := 0 }, { name := "hash", type := .int, accessFlags := 2, slot := 2, constantValue := 0 }]
  methods := #[]
  instanceTypes := #[(.object "java/lang/String"), .int, .int]
  staticTypes := #[]
  resolved := Array.replicate 204 none
  statics := none }

def pool6 : Array CpInfo := pool [(1, .class_ 2), (0, u "com/example/boot_sealer/bootsealer/rp2350/ItemType"), (2, u "VECTOR_TABLE"), (0, u "Lcom/example/boot_sealer/bootsealer/rp2350/ItemType;"), (2, u "ROLLING_WINDOW_DELTA"), (2, u "LOAD_MAP"), (2, u "SIGNATURE"), (2, u "PARTITION_TABLE"), (2, u "SALT"), (2, u "NEXT_BLOCK_OFFSET"), (2, u "IMAGE_TYPE"), (2, u "ENTRY_POINT"), (2, u "HASH_DEF"), (2, u "VERSION"), (2, u "HASH_VALUE"), (2, u "IGNORED"), (0, .fieldref 1 44), (0, .nameAndType 45 6), (0, u "UNKNOWN"), (0, .fieldref 1 47), (0, .nameAndType 48 49), (0, u "$VALUES"), (0, u "[Lcom/example/boot_sealer/bootsealer/rp2350/ItemType;"), (0, .methodref 51 52), (0, .class_ 49), (0, .nameAndType 53 54), (0, u "clone"), (0, u "()Ljava/lang/Object;"), (1, .class_ 58), (1, u "java/lang/Enum"), (6, .fieldref 1 66), (0, .nameAndType 67 68), (0, u "code"), (0, u "I"), (0, .methodref 1 70), (0, .nameAndType 71 72), (0, u "values"), (0, u "()[Lcom/example/boot_sealer/bootsealer/rp2350/ItemType;"), (26, u "()I"), (2, u "forCode"), (0, u "(I)Lcom/example/boot_sealer/bootsealer/rp2350/ItemType;")] 6

def k6c0 : Code := { maxStack := 1, maxLocals := 0, code := prog_37_method_1_code, exceptionTable := #[], attributes := #[] }
def k6m0 : Method := { name := "values", desc := "()[Lcom/example/boot_sealer/bootsealer/rp2350/ItemType;", sig := { parameters := [], returnType := some (.array (.object "com/example/boot_sealer/bootsealer/rp2350/ItemType")) }, accessFlags := 9, code := some k6c0 }
def k6c1 : Code := { maxStack := 1, maxLocals := 1, code := prog_37_method_4_code, exceptionTable := #[], attributes := #[] }
def k6m1 : Method := { name := "code", desc := "()I", sig := { parameters := [], returnType := some .int }, accessFlags := 1, code := some k6c1 }
def k6c2 : Code := { maxStack := 2, maxLocals := 5, code := prog_37_method_6_code, exceptionTable := #[], attributes := #[] }
def k6m2 : Method := { name := "forCode", desc := "(I)Lcom/example/boot_sealer/bootsealer/rp2350/ItemType;", sig := { parameters := [.int], returnType := some (.object "com/example/boot_sealer/bootsealer/rp2350/ItemType") }, accessFlags := 9, code := some k6c2 }
/-- com/example/boot_sealer/bootsealer/rp2350/ItemType -/
def k6 : Class := { plain "com/example/boot_sealer/bootsealer/rp2350/ItemType" (some 5) with
  accessFlags := 16433
  interfaces := #[]
  cf := some (fileOf pool6 1 #[] #[{ accessFlags := 9, nameIndex := 71, descriptorIndex := 72, attributes := #[] }, { accessFlags := 1, nameIndex := 67, descriptorIndex := 99, attributes := #[] }, { accessFlags := 9, nameIndex := 102, descriptorIndex := 103, attributes := #[] }] 16433 56 #[] #[{ accessFlags := 16409, nameIndex := 5, descriptorIndex := 6, attributes := #[] }, { accessFlags := 16409, nameIndex := 9, descriptorIndex := 6, attributes := #[] }, { accessFlags := 16409, nameIndex := 12, descriptorIndex := 6, attributes := #[] }, { accessFlags := 16409, nameIndex := 15, descriptorIndex := 6, attributes := #[] }, { accessFlags := 16409, nameIndex := 18, descriptorIndex := 6, attributes := #[] }, { accessFlags := 16409, nameIndex := 21, descriptorIndex := 6, attributes := #[] }, { accessFlags := 16409, nameIndex := 24, descriptorIndex := 6, attributes := #[] }, { accessFlags := 16409, nameIndex := 27, descriptorIndex := 6, attributes := #[] }, { accessFlags := 16409, nameIndex := 30, descriptorIndex := 6, attributes := #[] }, { accessFlags := 16409, nameIndex := 33, descriptorIndex := 6, attributes := #[] }, { accessFlags := 16409, nameIndex := 36, descriptorIndex := 6, attributes := #[] }, { accessFlags := 16409, nameIndex := 39, descriptorIndex := 6, attributes := #[] }, { accessFlags := 16409, nameIndex := 42, descriptorIndex := 6, attributes := #[] }, { accessFlags := 16409, nameIndex := 45, descriptorIndex := 6, attributes := #[] }, { accessFlags := 18, nameIndex := 67, descriptorIndex := 68, attributes := #[] }, { accessFlags := 4122, nameIndex := 48, descriptorIndex := 49, attributes := #[] }])
  fields := #[{ name := "VECTOR_TABLE", type := (.object "com/example/boot_sealer/bootsealer/rp2350/ItemType"), accessFlags := 16409, slot := 0, constantValue := 0 }, { name := "ROLLING_WINDOW_DELTA", type := (.object "com/example/boot_sealer/bootsealer/rp2350/ItemType"), accessFlags := 16409, slot := 1, constantValue := 0 }, { name := "LOAD_MAP", type := (.object "com/example/boot_sealer/bootsealer/rp2350/ItemType"), accessFlags := 16409, slot := 2, constantValue := 0 }, { name := "SIGNATURE", type := (.object "com/example/boot_sealer/bootsealer/rp2350/ItemType"), accessFlags := 16409, slot := 3, constantValue := 0 }, { name := "PARTITION_TABLE", type := (.object "com/example/boot_sealer/bootsealer/rp2350/ItemType"), accessFlags := 16409, slot := 4, constantValue := 0 }, { name := "SALT", type := (.object "com/example/boot_sealer/bootsealer/rp2350/ItemType"), accessFlags := 16409, slot := 5, constantValue := 0 }, { name := "NEXT_BLOCK_OFFSET", type := (.object "com/example/boot_sealer/bootsealer/rp2350/ItemType"), accessFlags := 16409, slot := 6, constantValue := 0 }, { name := "IMAGE_TYPE", type := (.object "com/example/boot_sealer/bootsealer/rp2350/ItemType"), accessFlags := 16409, slot := 7, constantValue := 0 }, { name := "ENTRY_POINT", type := (.object "com/example/boot_sealer/bootsealer/rp2350/ItemType"), accessFlags := 16409, slot := 8, constantValue := 0 }, { name := "HASH_DEF", type := (.object "com/example/boot_sealer/bootsealer/rp2350/ItemType"), accessFlags := 16409, slot := 9, constantValue := 0 }, { name := "VERSION", type := (.object "com/example/boot_sealer/bootsealer/rp2350/ItemType"), accessFlags := 16409, slot := 10, constantValue := 0 }, { name := "HASH_VALUE", type := (.object "com/example/boot_sealer/bootsealer/rp2350/ItemType"), accessFlags := 16409, slot := 11, constantValue := 0 }, { name := "IGNORED", type := (.object "com/example/boot_sealer/bootsealer/rp2350/ItemType"), accessFlags := 16409, slot := 12, constantValue := 0 }, { name := "UNKNOWN", type := (.object "com/example/boot_sealer/bootsealer/rp2350/ItemType"), accessFlags := 16409, slot := 13, constantValue := 0 }, { name := "code", type := .int, accessFlags := 18, slot := 3, constantValue := 0 }, { name := "$VALUES", type := (.array (.object "com/example/boot_sealer/bootsealer/rp2350/ItemType")), accessFlags := 4122, slot := 14, constantValue := 0 }]
  methods := #[k6m0, k6m1, k6m2]
  instanceTypes := #[(.object "java/lang/String"), .int, .int, .int]
  staticTypes := #[(.object "com/example/boot_sealer/bootsealer/rp2350/ItemType"), (.object "com/example/boot_sealer/bootsealer/rp2350/ItemType"), (.object "com/example/boot_sealer/bootsealer/rp2350/ItemType"), (.object "com/example/boot_sealer/bootsealer/rp2350/ItemType"), (.object "com/example/boot_sealer/bootsealer/rp2350/ItemType"), (.object "com/example/boot_sealer/bootsealer/rp2350/ItemType"), (.object "com/example/boot_sealer/bootsealer/rp2350/ItemType"), (.object "com/example/boot_sealer/bootsealer/rp2350/ItemType"), (.object "com/example/boot_sealer/bootsealer/rp2350/ItemType"), (.object "com/example/boot_sealer/bootsealer/rp2350/ItemType"), (.object "com/example/boot_sealer/bootsealer/rp2350/ItemType"), (.object "com/example/boot_sealer/bootsealer/rp2350/ItemType"), (.object "com/example/boot_sealer/bootsealer/rp2350/ItemType"), (.object "com/example/boot_sealer/bootsealer/rp2350/ItemType"), (.array (.object "com/example/boot_sealer/bootsealer/rp2350/ItemType"))]
  resolved := Array.replicate 110 none
  statics := some 0 }

def pool7 : Array CpInfo := pool [(1, .class_ 2), (0, u "java/lang/Cloneable"), (0, .class_ 4), (0, u "java/lang/Object")] 2

/-- java/lang/Cloneable -/
def k7 : Class := { plain "java/lang/Cloneable" (some 0) with
  accessFlags := 1537
  interfaces := #[]
  cf := some (fileOf pool7 1 #[] #[] 1537 3 #[] #[])
  fields := #[]
  methods := #[]
  instanceTypes := #[]
  staticTypes := #[]
  resolved := Array.replicate 7 none
  statics := none }

/-- the primitive byte -/
def k8 : Class := { plain "byte" none with kind := .primitive 'B', accessFlags := 0x411 }
/-- [B -/
def k9 : Class := { plain "[B" (some 0) with kind := .array 8 .byte, interfaces := #[7, 4], accessFlags := 1041 }

/-- the primitive int -/
def k10 : Class := { plain "int" none with kind := .primitive 'I', accessFlags := 0x411 }
/-- [I -/
def k11 : Class := { plain "[I" (some 0) with kind := .array 10 .int, interfaces := #[7, 4], accessFlags := 1041 }

/-- [Lcom/example/boot_sealer/bootsealer/rp2350/ItemType; -/
def k12 : Class := { plain "[Lcom/example/boot_sealer/bootsealer/rp2350/ItemType;" (some 0) with kind := .array 6 (.object "com/example/boot_sealer/bootsealer/rp2350/ItemType"), interfaces := #[7, 4], accessFlags := 1041 }

def heap : Heap := #[{ cls := 6, slots := #[.ref 2, .ref 3, .ref 4, .ref 5, .ref 6, .ref 7, .ref 8, .ref 9, .ref 10, .ref 11, .ref 12, .ref 13, .ref 14, .ref 15, .ref 1], vm := .statics 6 },
  { cls := 12, slots := #[.ref 2, .ref 3, .ref 4, .ref 5, .ref 6, .ref 7, .ref 8, .ref 9, .ref 10, .ref 11, .ref 12, .ref 13, .ref 14, .ref 15], vm := .none },
  { cls := 6, slots := #[.null, .int 0, .int 0, .int 3], vm := .none },
  { cls := 6, slots := #[.null, .int 0, .int 0, .int 5], vm := .none },
  { cls := 6, slots := #[.null, .int 0, .int 0, .int 6], vm := .none },
  { cls := 6, slots := #[.null, .int 0, .int 0, .int 9], vm := .none },
  { cls := 6, slots := #[.null, .int 0, .int 0, .int 10], vm := .none },
  { cls := 6, slots := #[.null, .int 0, .int 0, .int 12], vm := .none },
  { cls := 6, slots := #[.null, .int 0, .int 0, .int 65], vm := .none },
  { cls := 6, slots := #[.null, .int 0, .int 0, .int 66], vm := .none },
  { cls := 6, slots := #[.null, .int 0, .int 0, .int 68], vm := .none },
  { cls := 6, slots := #[.null, .int 0, .int 0, .int 71], vm := .none },
  { cls := 6, slots := #[.null, .int 0, .int 0, .int 72], vm := .none },
  { cls := 6, slots := #[.null, .int 0, .int 0, .int 75], vm := .none },
  { cls := 6, slots := #[.null, .int 0, .int 0, .int 254], vm := .none },
  { cls := 6, slots := #[.null, .int 0, .int 0, .int (-1)], vm := .none }]
def classes : Array Class := #[k0, k1, k2, k3, k4, k5, k6, k7, k8, k9, k10, k11, k12]
def interned : List (Array UInt16 × Addr) := []
def slotsUsed : Nat := 85
def theMethod : MethodId := ⟨1, 2⟩
def args0 : Array Value := #[.int 4, .int 5]
def aboutOver (below : List Frame) : State where
  vm := { classes := classes, interned := interned.toArray }
  heap := heap
  slotsUsed := slotsUsed
  threads := #[{ frames := .invoking theMethod args0 :: below }]
def below0 : List Frame := [.native { method := ⟨0, 0⟩, args := #[] }]
def about1 : State := aboutOver below0
def p0 : Program := .bare "" "" ""
def e0 : Env := launch0.env 0 0 0
theorem w_frames : about1.frames = Frame.invoking theMethod args0 :: below0 := rfl
set_option maxRecDepth 65536 in
theorem w_args : argsFit about1.vm theMethod args0 = true := by decide +kernel
set_option maxRecDepth 65536 in
theorem w_heap : heapFits about1 = true := by decide +kernel
set_option maxRecDepth 65536 in
theorem w_runnable : about1.curStatus? = some .runnable := by decide +kernel
set_option maxRecDepth 65536 in
theorem w_alone : about1.alone = true := by decide +kernel
set_option maxRecDepth 65536 in
theorem w_named : about1.methodNamed? x = some theMethod := by decide +kernel
set_option maxRecDepth 65536 in
theorem w_hears : about1.hears theMethod below0 = true := by decide +kernel
set_option maxRecDepth 65536 in
theorem w_ripe : about1.ripe theMethod args0 below0 = true := by decide +kernel
theorem w_running : about1.status = .running := rfl
set_option maxRecDepth 65536 in
theorem w_room : about1.hasRoom e0.platform room_1 = true :=
  launch0.hasRoom_least _ room_1 (by decide +kernel) (by decide +kernel) (by decide +kernel) (by decide +kernel) (by decide +kernel) (by decide +kernel)
theorem allAtoms_all (ts : List Jvm.Cond) (a : Array Jvm.Value) (st : Jvm.State) : (allAtoms ts).before a st = ts.all (fun c => c.before a st) := by
  induction ts with
  | nil => rfl
  | cons c t ih =>
    show (Jvm.Cond.and c (allAtoms t)).before a st = _
    rw [Jvm.Cond.before_and, ih, List.all_cons]
def words1 : List Jvm.Cond := Jvm.Cond.code x code maxLocals ret :: tables_1
/-- a 'code' word, met by the world's own term for the bytes: nothing is compared byte by byte -/
theorem code_word {y : MethodName} {bytes : ByteArray} {mx : Nat} {rt : Option FieldType} {a : Array Value} {s : State} {m : MethodId} {meth : Method} {c : Code} (h1 : s.methodNamed? y = some m) (h2 : s.vm.method? m = some meth) (h3 : meth.code = some c) (h4 : c.code = bytes)
    (h5 : (c.maxLocals == mx && c.exceptionTable.isEmpty && decide (c.maxStack ≤ mostOperands) && decide (meth.sig.returnType = rt) && !meth.locks && decide (parseMethodDescriptor y.desc = some meth.sig)) = true) : (Jvm.Cond.code y bytes mx rt).before a s = true := by
  simp only [Bool.and_eq_true, beq_iff_eq, Bool.not_eq_true', decide_eq_true_eq] at h5
  obtain ⟨⟨⟨⟨⟨g1, g2⟩, g3⟩, g4⟩, g5⟩, g6⟩ := h5
  simp [Cond.before, Cond.holds, Cond.value, h1, h2, h3, h4, g1, g2, g3, g4, g5, g6]
def isCode : Jvm.Cond → Bool
  | .code _ _ _ _ => true
  | _ => false
theorem all_split {L : List Jvm.Cond} {P : Jvm.Cond → Bool} (h1 : L.all (fun c => isCode c || P c) = true) (h2 : ∀ c ∈ L.filter isCode, P c = true) : L.all P = true := by
  refine List.all_eq_true.mpr fun c hc => ?_
  have h := List.all_eq_true.mp h1 c hc
  rcases Bool.eq_false_or_eq_true (isCode c) with hi | hi
  · exact h2 c (List.mem_filter.mpr ⟨hc, hi⟩)
  · simpa [hi] using h
set_option maxRecDepth 65536 in
theorem w_c0 : (Jvm.Cond.code x code maxLocals ret).before args0 about1 = true := code_word (m := ⟨1, 2⟩) (meth := k1m2) (c := k1c2) (by decide +kernel) rfl rfl rfl (by decide +kernel)
set_option maxRecDepth 65536 in
theorem w_c1 : (Jvm.Cond.code ({ cls := "com/example/boot_sealer/bootsealer/rp2350/ItemType", name := "forCode", desc := "(I)Lcom/example/boot_sealer/bootsealer/rp2350/ItemType;" } : Jvm.MethodName) prog_37_method_6_code (5 : Nat) (Option.some (Jvm.ClassFile.FieldType.object "com/example/boot_sealer/bootsealer/rp2350/ItemType"))).before args0 about1 = true := code_word (m := ⟨6, 2⟩) (meth := k6m2) (c := k6c2) (by decide +kernel) rfl rfl rfl (by decide +kernel)
set_option maxRecDepth 65536 in
theorem w_c2 : (Jvm.Cond.code ({ cls := "com/example/boot_sealer/bootsealer/rp2350/ItemType", name := "values", desc := "()[Lcom/example/boot_sealer/bootsealer/rp2350/ItemType;" } : Jvm.MethodName) prog_37_method_1_code (0 : Nat) (Option.some (Jvm.ClassFile.FieldType.array (Jvm.ClassFile.FieldType.object "com/example/boot_sealer/bootsealer/rp2350/ItemType")))).before args0 about1 = true := code_word (m := ⟨6, 0⟩) (meth := k6m0) (c := k6c0) (by decide +kernel) rfl rfl rfl (by decide +kernel)
set_option maxRecDepth 65536 in
theorem w_c3 : (Jvm.Cond.code ({ cls := "com/example/boot_sealer/bootsealer/rp2350/ItemType", name := "code", desc := "()I" } : Jvm.MethodName) prog_37_method_4_code (1 : Nat) (Option.some Jvm.ClassFile.FieldType.int)).before args0 about1 = true := code_word (m := ⟨6, 1⟩) (meth := k6m1) (c := k6c1) (by decide +kernel) rfl rfl rfl (by decide +kernel)
set_option maxRecDepth 65536 in
theorem w_c4 : (Jvm.Cond.code ({ cls := "com/example/boot_sealer/bootsealer/rp2350/ItemTypeForCodePinLaw", name := "expected", desc := "(I)Lcom/example/boot_sealer/bootsealer/rp2350/ItemType;" } : Jvm.MethodName) method_2_code (1 : Nat) (Option.some (Jvm.ClassFile.FieldType.object "com/example/boot_sealer/bootsealer/rp2350/ItemType"))).before args0 about1 = true := code_word (m := ⟨1, 1⟩) (meth := k1m1) (c := k1c1) (by decide +kernel) rfl rfl rfl (by decide +kernel)
def codes1 : List Jvm.Cond := [Jvm.Cond.code x code maxLocals ret, Jvm.Cond.code ({ cls := "com/example/boot_sealer/bootsealer/rp2350/ItemType", name := "forCode", desc := "(I)Lcom/example/boot_sealer/bootsealer/rp2350/ItemType;" } : Jvm.MethodName) prog_37_method_6_code (5 : Nat) (Option.some (Jvm.ClassFile.FieldType.object "com/example/boot_sealer/bootsealer/rp2350/ItemType")), Jvm.Cond.code ({ cls := "com/example/boot_sealer/bootsealer/rp2350/ItemType", name := "values", desc := "()[Lcom/example/boot_sealer/bootsealer/rp2350/ItemType;" } : Jvm.MethodName) prog_37_method_1_code (0 : Nat) (Option.some (Jvm.ClassFile.FieldType.array (Jvm.ClassFile.FieldType.object "com/example/boot_sealer/bootsealer/rp2350/ItemType"))), Jvm.Cond.code ({ cls := "com/example/boot_sealer/bootsealer/rp2350/ItemType", name := "code", desc := "()I" } : Jvm.MethodName) prog_37_method_4_code (1 : Nat) (Option.some Jvm.ClassFile.FieldType.int), Jvm.Cond.code ({ cls := "com/example/boot_sealer/bootsealer/rp2350/ItemTypeForCodePinLaw", name := "expected", desc := "(I)Lcom/example/boot_sealer/bootsealer/rp2350/ItemType;" } : Jvm.MethodName) method_2_code (1 : Nat) (Option.some (Jvm.ClassFile.FieldType.object "com/example/boot_sealer/bootsealer/rp2350/ItemType"))]
set_option maxRecDepth 65536 in
theorem codes_eq : words1.filter isCode = codes1 := rfl
theorem w_codes : ∀ c ∈ words1.filter isCode, c.before args0 about1 = true := by
  rw [codes_eq]
  intro c hc
  simp only [codes1, List.mem_cons, List.not_mem_nil, or_false] at hc
  rcases hc with rfl | rfl | rfl | rfl | rfl
  · exact w_c0
  · exact w_c1
  · exact w_c2
  · exact w_c3
  · exact w_c4
set_option maxRecDepth 65536 in
theorem w_t1 : (words1.take 24).all (fun c => isCode c || c.before args0 about1) = true := by decide +kernel
set_option maxRecDepth 65536 in
theorem w_t2 : ((words1.drop 24).take 24).all (fun c => isCode c || c.before args0 about1) = true := by decide +kernel
set_option maxRecDepth 65536 in
theorem w_t3 : ((words1.drop 24).drop 24).all (fun c => isCode c || c.before args0 about1) = true := by decide +kernel
theorem w_tables : (allAtoms (Jvm.Cond.code x code maxLocals ret :: tables_1)).before args0 about1 = true := by
  rw [allAtoms_all]
  show words1.all (fun c => c.before args0 about1) = true
  refine all_split ?_ w_codes
  rw [← List.take_append_drop 24 words1, List.all_append, w_t1, ← List.take_append_drop 24 (words1.drop 24), List.all_append, w_t2, w_t3]
  rfl
set_option maxRecDepth 65536 in
theorem w_case : (Jvm.Cond.and given_1 narrow_1).before args0 about1 = true := by decide +kernel
theorem w_applies : (headSpec (Jvm.Cond.code x code maxLocals ret :: tables_1) room_1).applies x e0.platform about1 = true :=
  (Spec.applies_iff w_frames).mpr ⟨w_running, w_runnable, w_alone, w_named, w_hears, w_ripe, w_room, w_tables⟩
theorem atStart : AtStart classFile x code maxLocals ret World_1 tables_1 room_1 Calls_1 rest_1 Pre_1 launch0 p0 e0 about1 theMethod args0 below0 :=
  ⟨lists_1, trivial, launch0.admits_env _ _ _, launch0.least_env, fairChoices_fair.cas, fairChoices_fair.clock, w_frames, w_args, w_heap, w_applies, trivial, trivial, w_case⟩
end start1
theorem witness_1 : WitnessClaimed_1 := ⟨start1.p0, start1.e0, start1.about1, start1.theMethod, start1.args0, start1.below0, start1.atStart⟩
end Jvm.Pilot.@@N@@
