import JvmDerived
import JvmDerived.Pilot.@@N@@Statement
import JvmDerived.Pilot.@@N@@Code
set_option linter.unusedVariables false
set_option linter.unusedSimpArgs false
namespace Jvm.RoadKit
open Sem ClassFile Op Lib Jvm.Stand Jvm.Free Jvm.LawKit
section New
variable {p : Program} {l : Launch} {e : Env} {R : Room} {s : State} {m : MethodId} {args : Array Value} {below : List Frame} {meth : Method} {c : Code} {T : State} {locs : List Loc} {cells slots : Nat}
theorem retI (X : Stand p l e R s m args below meth c T locs cells slots) (hx : p.tables.exec = Jvm.exec) {pc : Nat} {Ls : Array Slot} {z : Int32} {rest : List Value} (hret : meth.sig.returnType = some .int) (hd : decode c.code pc = .ok (.ireturn, 1)) {fs : List Frame}
    (hl : ∀ (f : JFrame) (acts : List Action), f.method = m → f.locked = none → f.entered = [] → (doReturn e (T.setTop f) acts (some (.int z))).1 = T.setFrames fs) : Steps p.tables e below (T.setTop (mkF m pc Ls (.int z :: rest))) (T.setFrames fs) :=
  retOut X hx (w := .int z) (t := .int) hret rfl (Or.inl ⟨rfl, Or.inl rfl, _, rfl⟩) hd hl
end New
end Jvm.RoadKit
namespace Jvm.Own
open Sem ClassFile Op Lib Jvm.Stand Jvm.Free Jvm.LawKit Jvm.RoadKit
/-- from A on the run comes to B -/
abbrev Go (tb : Tables) (e : Env) (below : List Frame) (A B : State) : Prop := ∀ t, Steps tb e below B t → Steps tb e below A t
theorem gc {tb : Tables} {e : Env} {below : List Frame} {A B C : State} (h : Go tb e below A B) (k : ∀ t, Steps tb e below C t → Steps tb e below B t) : Go tb e below A C := fun t q => h t (k t q)
theorem gcT {tb : Tables} {e : Env} {below : List Frame} {A B C : State} (h : Go tb e below A B) (k : Steps tb e below B C) : Go tb e below A C := fun t q => h t (k.trans q)
theorem goF {tb : Tables} {e : Env} {below : List Frame} {A T : State} {m : MethodId} {pc : Nat} {L L' : Array Slot} {S S' : List Value} (h : Go tb e below A (T.setTop (mkF m pc L S))) (q : mkF m pc L S = mkF m pc L' S') : Go tb e below A (T.setTop (mkF m pc L' S')) := q ▸ h
theorem lremM {p : Program} {l : Launch} {e : Env} {R : Room} {s : State} {m : MethodId} {args : Array Value} {below : List Frame} {meth : Method} {c : Code} {T : State} {locs : List Loc} {cells slots : Nat} {g : JFrame} {target : State} (X : Stand p l e R s m args below meth c T locs cells slots) (hx : p.tables.exec = Jvm.exec) (hg : g.method = m) {x y : Int64} {rest : List Value} (hd : decode c.code g.pc = .ok (.lrem, 1)) (hs : g.stack = .long y :: .long x :: rest) (hy : y ≠ 0)
    (hr : Steps p.tables e below (T.setTop { g with pc := g.pc + 1, stack := .long (x % y) :: rest }) target) : Steps p.tables e below (T.setTop g) target :=
  XS.lrem X.here hx hg hd hs hy (by rw [lrem_mod]; exact hr)
theorem eqInt {s : State} {args : Array Value} {a : Term} {c : Int32} (h : (Cond.eq a (.int c)).value args s none s [] = some true) : a.eval args s none [] s = some (.int c) := by
  obtain ⟨x, y, hx, hy, k1, k2⟩ := cmp_v (Or.inl h)
  cases hy
  obtain ⟨z, rfl⟩ := k2
  simp [Cond.value, hx, Term.eval] at h
  subst h; exact hx
theorem neqInt {s : State} {args : Array Value} {a : Term} {c x : Int32} (hx : a.eval args s none [] s = some (.int x)) (h : (Cond.not (Cond.eq a (.int c))).value args s none s [] = some true) : ¬ x = c := by
  intro q
  have h2 := not_v h
  subst q
  simp [Cond.value, hx, Term.eval] at h2
theorem elAt {s : State} {args : Array Value} {t u : Term} {a w : Addr} {cl : Cell} {ty : FieldType} {i : Int32} (ht : t.eval args s none [] s = some (.ref a)) (A : Arr s s.heap a cl ty) (h : (Cond.eq (.elem t (.int i)) u).value args s none s [] = some true) (hu : u.eval args s none [] s = some (.ref w)) {j : Nat} (hj : i.toNatClampNeg = j) : cl.slots[j]? = some (.ref w) := by
  obtain ⟨x, y, hx, hy, k1, k2⟩ := cmp_v (Or.inl h)
  rw [hu] at hy; cases hy
  have hr : x.isRef = true := k2.2
  have e := gotT (eq_R hx hu hr rfl) h
  subst e
  have q := (elem_in hx ht (Term.int_eval i) A.1).2
  rw [hj] at q; exact q
theorem arvOf {s : State} {args : Array Value} {t : Term} {a : Addr} {cl : Cell} {ty : FieldType} {z : Int32} {vs : List Value} {dv : Value} (hf : Fit s) (ev : t.eval args s none [] s = some (.ref a)) (A : Arr s s.heap a cl ty) (hl : (Term.length t).eval args s none [] s = some (.int z)) (hz : ¬ z < 0) (hn : z.toNatClampNeg = vs.length) (H : HasL cl 0 vs) : Arv s s.heap a cl.cls ty z vs dv := by
  have ha : s.arrayAt? a = some cl := Arr.fin (Vm.Alike.refl _) A
  by_cases q : cl.slots.size < 2 ^ 31
  · rw [len_f ev ha q] at hl
    cases hl
    exact Arv.start hf A q rfl hz hn H
  · simp [Term.eval, ev, ha, q] at hl
theorem selPriv {s : State} {args : Array Value} {C : String} {z y : MethodName} (w : (Cond.selects C z z).before args s = true) (hc : z.cls = y.cls) (hp : s.PrivateAt y) (hi : (Cond.instanceMethod y).before args s = true) (hy : y.cls ≠ "java/lang/invoke/MethodHandle" ∧ y.cls ≠ "java/lang/invoke/VarHandle") : (Cond.selects y.cls y y).before args s = true := by
  obtain ⟨c2, r2, m2, -, -, q3, -, kP, hkP, hkPi⟩ := Cond.selects_spec w
  exact selects_self_of_private (hc ▸ findClass_of_methodNamed q3) hkP hkPi hp hi hy

theorem IB_same {Z : State} {vm vm1 : Vm} {Ts : List String} (I : IB Z vm Ts) (h : vm1.interned = vm.interned) : IB Z vm1 Ts := by
  obtain ⟨more, e, hm⟩ := I
  exact ⟨more, h.trans e, hm⟩
theorem ldcM {p : Program} {l : Launch} {e : Env} {R : Room} {s : State} {m : MethodId} {args : Array Value} {below : List Frame} {meth : Method} {c : Code} {T : State} {locs : List Loc} {cells slots : Nat} {Z : State} {h : Heap} (X : Stand p l e R s m args below meth c T locs cells slots) (hx : p.tables.exec = Jvm.exec) (hZ : Z.Warmed39 s.vm) {a0 : Array Value} {own C : String} {index : Nat} (hown : s.vm.findClass own = some m.cls) (w : (Cond.classLink own index C).before a0 Z = true) {mr : Addr} (M : Mir Z C mr) (eT : T.heap = h)
    {g : JFrame} (hg : g.method = m) (hd : decode c.code g.pc = .ok (.ldc index, 2)) :
    ∃ T', Stand p l e R s m args below meth c T' locs cells slots ∧ T'.heap = h ∧ ∀ target, Steps p.tables e below (T'.setTop { g with pc := g.pc + 2, stack := .ref mr :: g.stack }) target → Steps p.tables e below (T.setTop g) target := by
  obtain ⟨cc, kc, m1, m2, m3, -⟩ := M
  obtain ⟨k', q, ek⟩ := hZ.alike.2.2 _ _ m2
  obtain ⟨vm', X', st⟩ := X.ldcMirror hx hown (mvT hZ w) (a := mr) (by simp [Term.eval, hZ.alike.findClass, m1, q, show k'.mirror = some mr by rw [ek]; exact m3]) hg hd
  exact ⟨_, X', eT, st⟩
theorem backOfI {p : Program} {l : Launch} {e : Env} {R : Room} {s Z : State} {args a0 : Array Value} {below : List Frame} {h : Heap} {y : MethodName} {bytes : ByteArray} {maxL : Nat} {ret : Option FieldType} {rm : Room} {len W : Nat} {as' : Array Value} {Q : Option Value → Heap → List Loc → Prop} {Ts : List String}
    (hM : MetFree l y (head1 [Cond.code y bytes maxL ret] rm) (fun a U => a = as' ∧ Z.Warmed39 U.vm ∧ U.heap = h ∧ IB Z U.vm Ts) (fun _ _ _ _ _ => True) (fun _ U o U' => ∃ v L, o = .returned v ∧ Q v U'.heap L ∧ ReturnedEndW U o U' L rm.cells rm.slots))
    (hZ : Z.Warmed39 s.vm) (I : IB Z s.vm Ts) (wc : (Cond.code y bytes maxL ret).before a0 Z = true) (wz : (Cond.initialized y.cls).before a0 Z = true) (hf : rm.frames + 1 ≤ R.frames) (hl : W + (maxL + 11) + rm.locals ≤ R.locals) :
    BackS l R p e below s args y len W (fun A a => a = as' ∧ A.U.heap = h ∧ A.cells + rm.cells ≤ R.cells ∧ A.slots + rm.slots ≤ R.slots)
      (fun A _ v B => ∃ L, Q v B.U.heap L ∧ B.locs = A.locs ++ L ∧ B.cells = A.cells + rm.cells ∧ B.slots = A.slots + rm.slots) :=
  BackS.of_freeW (bytes := bytes) (maxL := maxL) (ret := ret) (E := fun _ _ o t L k n => k = rm.cells ∧ n = rm.slots ∧ ∃ v, o = .returned v ∧ Q v t.heap L) hM hf hl
    (fun m meth c A a Y hp => have hU : Z.Warmed39 A.U.vm := wtrans hZ Y.warmed
      ⟨by show (Cond.and _ .tt).before a A.U = true; rw [Cond.before_and, mv hU wc]; rfl, mv hU wc, mv hU wz, hp.2.2.1, hp.2.2.2⟩)
    (fun m meth c A a g mk Y hp => ⟨hp.1, wtrans hZ Y.warmed, hp.2.1, IB_same I Y.warmed.interned_eq⟩) (fun _ _ _ _ _ _ _ _ _ => trivial)
    (fun _ _ _ _ ⟨v, L, h1, h2, h3⟩ => ⟨L, _, _, h3, rfl, rfl, v, h1, h2⟩)
    (fun m meth c A a g mk v t L k n Y hp _ _ ⟨e1, e2, v', e3, e4⟩ => by cases e3; subst e1 e2; exact ⟨L, e4, rfl, rfl, rfl⟩)
theorem nsRoot {Z : State} {a0 : Array Value} {O K : String} (w0 : (Cond.noSuperclass O).before a0 Z = true) {x y : MethodName} (ws : (Cond.selects K x y).before a0 Z = true) (hn : O ≠ K) : NS Z O K := by
  obtain ⟨co, ko, o1, o2, o3, -, -⟩ := Cond.noSuperclass_spec w0
  obtain ⟨c2, r2, m2, i1, -, -, -, -, -, -⟩ := Cond.selects_spec ws
  have ne1 := ids_ne o1 i1 hn
  exact ⟨co, c2, o1, i1, fun fuel => by cases fuel with | zero => rfl | succ f => simp [Vm.isSubclassAux, ne1, o2, o3]⟩
theorem nsNo {Z : State} {a0 : Array Value} {C S K : String} (w1 : (Cond.superclass C S).before a0 Z = true) (n : NS Z C K) {x y : MethodName} (ws : (Cond.selects K x y).before a0 Z = true) (hy : y.cls = K) (hn : C ≠ K) : ∃ c t, Z.vm.findClass C = some c ∧ Z.vm.findClass K = some t ∧ Z.vm.assignable c t = false := by
  obtain ⟨c, t, h0, g0, n3⟩ := n
  obtain ⟨p, k, kp, h1, h2, h3, h4, h5, -, h7⟩ := Cond.superclass_spec h0 w1
  obtain ⟨c2, r2, m2, -, -, q3, -, kP, hkP, hkPi⟩ := Cond.selects_spec ws
  have hck : m2.cls = t := Option.some.inj ((findClass_of_methodNamed q3).symm.trans (hy ▸ g0))
  rw [hck] at hkP
  have ne := ids_ne h0 g0 hn
  refine ⟨c, t, h0, g0, ?_⟩
  show Z.vm.assignableAux (255 + 1) c t = false
  rw [Vm.assignableAux]
  simp only [h2, hkP, h5, hkPi, Vm.isSubclass, n3]
  cases kP.kind <;> simp [ne]
theorem neAV {Z : State} {h : Heap} {a b : Addr} {C : String} {n : Nat} {a0 : Array Value} {k : ClassId} {ty : FieldType} {z : Int32} {vs : List Value} {dv : Value} (w : (Cond.instantiable C n).before a0 Z = true) (E : Exa Z h a C) (V : Arv Z h b k ty z vs dv) : a ≠ b := by
  rintro rfl
  obtain ⟨cell, k1, e1, e2, e3, -, -⟩ := E
  obtain ⟨cl, ⟨v1, ⟨-, k2, hk2, comp, hkind⟩, -⟩, -⟩ := V
  obtain ⟨cI, kI, hfI, hkI, hkindI, -⟩ := Cond.instantiable_spec w
  cases e1.symm.trans v1
  cases e2.symm.trans hfI
  cases hkI.symm.trans hk2
  rw [hkindI] at hkind; cases hkind
theorem neFF {Z : State} {h : Heap} {a b x : Addr} {C n d : String} (F : Fld Z h a C n d .null) (G : Fld Z h b C n d (.ref x)) : a ≠ b := by
  rintro rfl
  obtain ⟨c1, cf1, k1, i1, f1, g1, g2, -, -, -, -, g7⟩ := F
  obtain ⟨c2, cf2, k2, i2, f2, v1, v2, -, -, -, -, v7⟩ := G
  cases g1.symm.trans v1
  cases g2.symm.trans v2
  rw [g7] at v7; cases v7
end Jvm.Own
namespace Jvm.Pilot.@@N@@
open Jvm Jvm.ClassFile Sem Op Lib Jvm.Free Jvm.Stand Jvm.LawKit Jvm.RoadKit Jvm.Own Bundle Jvm.Pilot.@@N@@.Jvm.D
theorem own_w {Z : State} {a0 : Array Value} (hw : ∀ d ∈ tables_1, d.before a0 Z = true) (i : Nat) {d : Jvm.Cond} (h : tables_1[i]? = some d) : d.before a0 Z = true := hw _ (List.mem_of_getElem? h)
abbrev own_x0 (c : Int32) : Int32 := nar .byte ((c >>> (0 : Int32)).toInt8.toInt32)
abbrev own_x8 (c : Int32) : Int32 := nar .byte ((c >>> (8 : Int32)).toInt8.toInt32)
abbrev own_xl (c : Int32) : Int32 := nar .byte (c.toInt8.toInt32)
def own_H (Z : State) (de : Addr) (kde : ClassId) (el ea : Addr) (kea : ClassId) (em mr : Addr) : Prop := Sta Z Z.heap "java/util/ArrayList" "DEFAULTCAPACITY_EMPTY_ELEMENTDATA" "[Ljava/lang/Object;" (.ref de) ∧ Exa Z Z.heap de "[Ljava/lang/Object;" ∧ Arv Z Z.heap de kde (.object "java/lang/Object") (0 : Int32) [] .null ∧ Sta Z Z.heap "java/util/ImmutableCollections" "EMPTY_LIST" "Ljava/util/ImmutableCollections$ListN;" (.ref el) ∧ Exa Z Z.heap el "java/util/ImmutableCollections$ListN" ∧ Fld Z Z.heap el "java/util/ImmutableCollections$ListN" "elements" "[Ljava/lang/Object;" (.ref ea) ∧ Arv Z Z.heap ea kea (.object "java/lang/Object") (0 : Int32) [] .null ∧ Sta Z Z.heap "java/util/ImmutableCollections" "EMPTY" "Ljava/lang/Object;" (.ref em) ∧ em < Z.heap.size ∧ Mir Z "[Ljava/lang/Object;" mr
def own_ND (a1 tr bi sz rs ir w0 w1 : Addr) : Prop := a1 ≠ tr ∧ a1 ≠ bi ∧ a1 ≠ sz ∧ a1 ≠ rs ∧ a1 ≠ ir ∧ a1 ≠ w0 ∧ a1 ≠ w1 ∧ tr ≠ bi ∧ tr ≠ sz ∧ tr ≠ rs ∧ tr ≠ ir ∧ tr ≠ w0 ∧ tr ≠ w1 ∧ bi ≠ sz ∧ bi ≠ rs ∧ bi ≠ ir ∧ bi ≠ w0 ∧ bi ≠ w1 ∧ sz ≠ rs ∧ sz ≠ ir ∧ sz ≠ w0 ∧ sz ≠ w1 ∧ rs ≠ ir ∧ rs ≠ w0 ∧ rs ≠ w1 ∧ ir ≠ w0 ∧ ir ≠ w1 ∧ w0 ≠ w1
def own_GE (n0 : Nat) (a1 tr bi sz rs ir w0 w1 : Addr) : Prop := n0 ≤ a1 ∧ n0 ≤ tr ∧ n0 ≤ bi ∧ n0 ≤ sz ∧ n0 ≤ rs ∧ n0 ≤ ir ∧ n0 ≤ w0 ∧ n0 ≤ w1
def own_SZ (h0 : Heap) (tr bi sz rs ir w0 w1 : Addr) : Prop := h0.size ≤ tr ∧ h0.size ≤ bi ∧ h0.size ≤ sz ∧ h0.size ≤ rs ∧ h0.size ≤ ir ∧ h0.size ≤ w0 ∧ h0.size ≤ w1

theorem own_t96 {t : Nat} (h : t ≤ 20) : ¬ Int32.ofNat t = (96 : Int32) := by
  have : ∀ x : Fin 21, ¬ Int32.ofNat x.1 = (96 : Int32) := by decide +kernel
  exact this ⟨t, by omega⟩
theorem own_i0 {t : Nat} (h : t ≤ 20) : (¬ Int32.ofNat t < 0 ∧ Int32.ofNat t < (96 : Int32)) ∧ (Int32.ofNat t).toNatClampNeg = t := by
  have : ∀ x : Fin 21, (¬ Int32.ofNat x.1 < 0 ∧ Int32.ofNat x.1 < (96 : Int32)) ∧ (Int32.ofNat x.1).toNatClampNeg = x.1 := by decide +kernel
  exact this ⟨t, by omega⟩
theorem own_i1 {t : Nat} (h : t ≤ 20) : (¬ Int32.ofNat t + (1 : Int32) < 0 ∧ Int32.ofNat t + (1 : Int32) < (96 : Int32)) ∧ (Int32.ofNat t + (1 : Int32)).toNatClampNeg = t + 1 := by
  have : ∀ x : Fin 21, (¬ Int32.ofNat x.1 + (1 : Int32) < 0 ∧ Int32.ofNat x.1 + (1 : Int32) < (96 : Int32)) ∧ (Int32.ofNat x.1 + (1 : Int32)).toNatClampNeg = x.1 + 1 := by decide +kernel
  exact this ⟨t, by omega⟩
theorem own_i2 {t : Nat} (h : t ≤ 20) : (¬ Int32.ofNat t + (1 : Int32) + (1 : Int32) < 0 ∧ Int32.ofNat t + (1 : Int32) + (1 : Int32) < (96 : Int32)) ∧ (Int32.ofNat t + (1 : Int32) + (1 : Int32)).toNatClampNeg = t + 2 := by
  have : ∀ x : Fin 21, (¬ Int32.ofNat x.1 + (1 : Int32) + (1 : Int32) < 0 ∧ Int32.ofNat x.1 + (1 : Int32) + (1 : Int32) < (96 : Int32)) ∧ (Int32.ofNat x.1 + (1 : Int32) + (1 : Int32)).toNatClampNeg = x.1 + 2 := by decide +kernel
  exact this ⟨t, by omega⟩
theorem own_i3 (t : Nat) : Int32.ofNat (t + 3) = Int32.ofNat t + (1 : Int32) + (1 : Int32) + (1 : Int32) := by
  apply Int32.toBitVec_inj.mp
  simp [BitVec.add_assoc]
theorem own_sA {Z : State} {a0 : Array Value} (hw : ∀ d ∈ tables_1, d.before a0 Z = true) : ∀ a ∈ Bundle.stringAtoms, a.before a0 Z = true := fun a h => hw a ((by decide +kernel : ∀ w ∈ Bundle.stringAtoms, w ∈ tables_1) a h)
def own_pw (j : Nat) : Int64 := (1 : Int64) <<< Int64.ofNat j
def own_sh (k : Nat) : Int64 := (1 : Int64) <<< ((Int32.ofNat k) &&& 63).toInt64
theorem own_shp {k : Nat} (h : k < 70) : own_sh k = own_pw (k % 64) := by
  have : ∀ x : Fin 70, own_sh x.1 = own_pw (x.1 % 64) := by decide +kernel
  exact this ⟨k, h⟩
theorem own_pwb {j : Nat} (h : j < 64) : (own_pw j).toBitVec = BitVec.twoPow 64 j := by
  have : ∀ x : Fin 64, (own_pw x.1).toBitVec = BitVec.twoPow 64 x.1 := by decide +kernel
  exact this ⟨j, h⟩
theorem own_bne (w : Int64) {j : Nat} (h : j < 64) : w &&& own_pw j = 0 ↔ w.toBitVec.getLsbD j = false := by
  rw [← Int64.toBitVec_inj, Int64.toBitVec_and, own_pwb h, BitVec.and_twoPow]
  cases hq : w.toBitVec.getLsbD j with
  | false => simp
  | true =>
    simp
    intro q
    have z := congrArg (fun v => BitVec.getLsbD v j) q
    simp [h] at z
theorem own_brem (w : Int64) {a b : Nat} (ha : a < 64) (hb : b < 64) : (w &&& (own_pw a ^^^ (-1 : Int64))).toBitVec.getLsbD b = (w.toBitVec.getLsbD b && !(decide (a = b))) := by
  have e : ∀ x : Fin 64, (-1 : Int64).toBitVec.getLsbD x.1 = true := by decide +kernel
  rw [Int64.toBitVec_and, Int64.toBitVec_xor, own_pwb ha, BitVec.getLsbD_and, BitVec.getLsbD_xor, e ⟨b, hb⟩, BitVec.getLsbD_twoPow]
  by_cases q : a = b
  · subst q; simp [hb]
  · have q2 : ¬ b = a := fun z => q z.symm
    simp [q, q2]
theorem own_badd (w : Int64) {a b : Nat} (ha : a < 64) (hb : b < 64) : (w ||| own_pw a).toBitVec.getLsbD b = (w.toBitVec.getLsbD b || decide (a = b)) := by
  rw [Int64.toBitVec_or, own_pwb ha, BitVec.getLsbD_or, BitVec.getLsbD_twoPow]
  by_cases q : a = b
  · subst q; simp [hb]
  · have q2 : ¬ b = a := fun z => q z.symm
    simp [q, q2]
theorem own_ti {a : Nat} (h : a < 200) : (Int32.ofNat a).toInt = (a : Int) := by
  have : ∀ x : Fin 200, (Int32.ofNat x.1).toInt = (x.1 : Int) := by decide +kernel
  exact this ⟨a, h⟩
theorem own_cl {a : Nat} (h : a < 200) : (Int32.ofNat a).toNatClampNeg = a := by
  have : ∀ x : Fin 200, (Int32.ofNat x.1).toNatClampNeg = x.1 := by decide +kernel
  exact this ⟨a, h⟩
theorem own_eqi {a b : Nat} (ha : a < 200) (hb : b < 200) : (Int32.ofNat a = Int32.ofNat b) ↔ a = b := by
  constructor
  · intro q; have z := congrArg Int32.toNatClampNeg q; rwa [own_cl ha, own_cl hb] at z
  · rintro rfl; rfl
theorem own_lti {a b : Nat} (ha : a < 200) (hb : b < 200) : (Int32.ofNat a < Int32.ofNat b) ↔ a < b := by
  rw [Int32.lt_iff_toInt_lt, own_ti ha, own_ti hb]; omega
theorem own_nni {a : Nat} (h : a < 200) : ¬ Int32.ofNat a < (0 : Int32) := by
  rw [Int32.lt_iff_toInt_lt, own_ti h]; simp
theorem own_vj {i : Nat} (h1 : 1 ≤ i) (h : i < 70) : (¬ (Int32.ofNat i) - (1 : Int32) < 0 ∧ (Int32.ofNat i) - (1 : Int32) < (70 : Int32)) ∧ ((Int32.ofNat i) - (1 : Int32)).toNatClampNeg = i - 1 := by
  have : ∀ x : Fin 70, 1 ≤ x.1 → (¬ (Int32.ofNat x.1) - (1 : Int32) < 0 ∧ (Int32.ofNat x.1) - (1 : Int32) < (70 : Int32)) ∧ ((Int32.ofNat x.1) - (1 : Int32)).toNatClampNeg = x.1 - 1 := by decide +kernel
  exact this ⟨i, h⟩ h1
theorem own_up1 (a : Nat) : Int32.ofNat (a + 1) = Int32.ofNat a + (1 : Int32) := by
  apply Int32.toBitVec_inj.mp
  simp
/-- the array of the first values laid -/
def own_pz : Nat → List Value
  | 0 => List.replicate 70 (.int (0 : Int32))
  | i + 1 => (own_pz i).set i (.int (Int32.ofNat i))
theorem own_pzl : ∀ i, (own_pz i).length = 70 := by
  intro i; induction i with
  | zero => simp [own_pz]
  | succ i ih => simp [own_pz, ih]
theorem own_pzg : ∀ n, n ≤ 70 → ∀ i, i < n → (own_pz n).getD i (.int (0 : Int32)) = .int (Int32.ofNat i) := by
  intro n; induction n with
  | zero => intro _ i h; omega
  | succ n ih =>
    intro hn i hi
    show ((own_pz n).set n (.int (Int32.ofNat n))).getD i (.int (0 : Int32)) = _
    by_cases q : i = n
    · subst q; rw [List.getD_eq_getElem?_getD, List.getElem?_set_self (by rw [own_pzl]; omega)]; rfl
    · rw [List.getD_eq_getElem?_getD, List.getElem?_set_ne (fun z => q z.symm), ← List.getD_eq_getElem?_getD]; exact ih (by omega) i (by omega)
/-- rising -/
def own_inc (n : Nat) (vs : List Value) : Prop := ∀ i, 1 ≤ i → i < n → ∃ u v : Int32, vs.getD (i - 1) (.int (0 : Int32)) = .int u ∧ vs.getD i (.int (0 : Int32)) = .int v ∧ u < v
theorem own_pzi : own_inc 70 (own_pz 70) := fun i h1 h2 => ⟨_, _, own_pzg 70 (Nat.le_refl _) (i - 1) (by omega), own_pzg 70 (Nat.le_refl _) i h2, (own_lti (by omega) (by omega)).mpr (by omega)⟩
/-- a row after j values -/
def own_rw (nw : Nat) : Nat → List Int64
  | 0 => List.replicate nw 0
  | j + 1 => (own_rw nw j).set (j / 64) ((own_rw nw j).getD (j / 64) 0 ||| own_sh j)
theorem own_rwl (nw : Nat) : ∀ j, (own_rw nw j).length = nw := by
  intro j; induction j with
  | zero => simp [own_rw]
  | succ j ih => simp [own_rw, ih]
theorem own_rw70 : own_rw 2 70 = [-1, 63] := by decide +kernel
theorem own_rw3 : own_rw 1 3 = [7] := by decide +kernel
def own_ls (l : List Int64) : List Value := l.map fun w => .long w
theorem own_lsg (l : List Int64) (i : Nat) : (own_ls l).getD i (.long (0 : Int64)) = .long (l.getD i 0) := by
  simp only [own_ls, List.getD_eq_getElem?_getD, List.getElem?_map]
  cases l[i]? <;> rfl
theorem own_lss (l : List Int64) (i : Nat) (w : Int64) : own_ls (l.set i w) = (own_ls l).set i (.long w) := by simp [own_ls, List.map_set]
theorem own_lsl (l : List Int64) : (own_ls l).length = l.length := by simp [own_ls]
def own_qx (j : Nat) : Int32 := ((Int32.ofNat j).toUInt32 >>> (6 : UInt32)).toInt32
theorem own_ix {j : Nat} (h : j < 70) : (¬ own_qx j < 0 ∧ own_qx j < (2 : Int32)) ∧ (own_qx j).toNatClampNeg = j / 64 := by
  have : ∀ x : Fin 70, (¬ own_qx x.1 < 0 ∧ own_qx x.1 < (2 : Int32)) ∧ (own_qx x.1).toNatClampNeg = x.1 / 64 := by decide +kernel
  exact this ⟨j, h⟩
theorem own_ix1 {j : Nat} (h : j < 3) : (¬ own_qx j < 0 ∧ own_qx j < (1 : Int32)) ∧ (own_qx j).toNatClampNeg = j / 64 := by
  have : ∀ x : Fin 3, (¬ own_qx x.1 < 0 ∧ own_qx x.1 < (1 : Int32)) ∧ (own_qx x.1).toNatClampNeg = x.1 / 64 := by decide +kernel
  exact this ⟨j, h⟩
theorem own_q0 {k : Nat} (h : k < 64) : own_qx k = 0 := by
  have : ∀ x : Fin 64, own_qx x.1 = 0 := by decide +kernel
  exact this ⟨k, h⟩
theorem own_q1 {k : Nat} (h1 : 64 ≤ k) (h : k < 70) : own_qx k = 1 := by
  have : ∀ x : Fin 70, 64 ≤ x.1 → own_qx x.1 = 1 := by decide +kernel
  exact this ⟨k, h⟩ h1
/-- a variable and a value index of it -/
def own_dom (x a : Int32) : Prop := (x = 0 ∧ ∃ k, k < 64 ∧ a = Int32.ofNat k) ∨ (x = 0 ∧ ∃ k, 64 ≤ k ∧ k < 70 ∧ a = Int32.ofNat k) ∨ (x = 1 ∧ ∃ k, k < 3 ∧ a = Int32.ofNat k)
def own_bit (q0 q1 r : Int64) (x a : Int32) : Bool := if x = 0 then (if a.toNatClampNeg < 64 then q0.toBitVec.getLsbD a.toNatClampNeg else q1.toBitVec.getLsbD (a.toNatClampNeg - 64)) else r.toBitVec.getLsbD a.toNatClampNeg
theorem own_bA (q0 q1 r : Int64) {k : Nat} (h : k < 64) : own_bit q0 q1 r 0 (Int32.ofNat k) = q0.toBitVec.getLsbD k := by simp [own_bit, own_cl (show k < 200 by omega), h]
theorem own_bB (q0 q1 r : Int64) {k : Nat} (h1 : 64 ≤ k) (h : k < 70) : own_bit q0 q1 r 0 (Int32.ofNat k) = q1.toBitVec.getLsbD (k - 64) := by
  have : ¬ k < 64 := by omega
  simp [own_bit, own_cl (show k < 200 by omega), this]
theorem own_bC (q0 q1 r : Int64) {k : Nat} (h : k < 3) : own_bit q0 q1 r 1 (Int32.ofNat k) = r.toBitVec.getLsbD k := by simp [own_bit, own_cl (show k < 200 by omega)]
def own_off (q0 q1 r q0' q1' r' : Int64) (x a : Int32) : Prop := ∀ y b, own_dom y b → own_bit q0' q1' r' y b = (own_bit q0 q1 r y b && !(decide (y = x) && decide (b = a)))
def own_on (q0 q1 r q0' q1' r' : Int64) (x a : Int32) : Prop := ∀ y b, own_dom y b → own_bit q0' q1' r' y b = (own_bit q0 q1 r y b || (decide (y = x) && decide (b = a)))
theorem own_shq {k : Nat} (h : k < 64) : own_sh k = own_pw k := by rw [own_shp (by omega), Nat.mod_eq_of_lt h]
theorem own_shr {k : Nat} (h1 : 64 ≤ k) (h : k < 70) : own_sh k = own_pw (k - 64) := by rw [own_shp h, Nat.mod_eq_sub_mod h1, Nat.mod_eq_of_lt (by omega)]
theorem own_dde (a b : Nat) : decide (a = b) = decide (b = a) := by by_cases h : a = b <;> simp [h, eq_comm]
theorem own_offA (q0 q1 r : Int64) {x a : Int32} {k : Nat} (hx : x = 0) (h : k < 64) (ha : a = Int32.ofNat k) : own_off q0 q1 r (q0 &&& (own_sh k ^^^ (-1 : Int64))) q1 r x a := by
  subst hx ha
  rintro y b (⟨rfl, j, hj, rfl⟩ | ⟨rfl, j, h1, h2, rfl⟩ | ⟨rfl, j, hj, rfl⟩)
  · rw [own_bA _ _ _ hj, own_bA _ _ _ hj, own_shq h, own_brem _ h hj, own_dde k j]; simp [own_eqi (show j < 200 by omega) (show k < 200 by omega)]
  · rw [own_bB _ _ _ h1 h2, own_bB _ _ _ h1 h2]; have : ¬ j = k := by omega
    simp [own_eqi (show j < 200 by omega) (show k < 200 by omega), this]
  · rw [own_bC _ _ _ hj, own_bC _ _ _ hj]; simp
theorem own_offB (q0 q1 r : Int64) {x a : Int32} {k : Nat} (hx : x = 0) (h0 : 64 ≤ k) (h : k < 70) (ha : a = Int32.ofNat k) : own_off q0 q1 r q0 (q1 &&& (own_sh k ^^^ (-1 : Int64))) r x a := by
  subst hx ha
  rintro y b (⟨rfl, j, hj, rfl⟩ | ⟨rfl, j, h1, h2, rfl⟩ | ⟨rfl, j, hj, rfl⟩)
  · rw [own_bA _ _ _ hj, own_bA _ _ _ hj]; have : ¬ j = k := by omega
    simp [own_eqi (show j < 200 by omega) (show k < 200 by omega), this]
  · rw [own_bB _ _ _ h1 h2, own_bB _ _ _ h1 h2, own_shr h0 h, own_brem _ (by omega) (by omega)]
    have e : decide (k - 64 = j - 64) = decide (j = k) := by by_cases q : j = k <;> simp [q] <;> omega
    rw [e]; simp [own_eqi (show j < 200 by omega) (show k < 200 by omega)]
  · rw [own_bC _ _ _ hj, own_bC _ _ _ hj]; simp
theorem own_offC (q0 q1 r : Int64) {x a : Int32} {k : Nat} (hx : x = 1) (h : k < 3) (ha : a = Int32.ofNat k) : own_off q0 q1 r q0 q1 (r &&& (own_sh k ^^^ (-1 : Int64))) x a := by
  subst hx ha
  rintro y b (⟨rfl, j, hj, rfl⟩ | ⟨rfl, j, h1, h2, rfl⟩ | ⟨rfl, j, hj, rfl⟩)
  · rw [own_bA _ _ _ hj, own_bA _ _ _ hj]; simp
  · rw [own_bB _ _ _ h1 h2, own_bB _ _ _ h1 h2]; simp
  · rw [own_bC _ _ _ hj, own_bC _ _ _ hj, own_shq (by omega), own_brem _ (by omega) (by omega), own_dde k j]; simp [own_eqi (show j < 200 by omega) (show k < 200 by omega)]
theorem own_onA (q0 q1 r : Int64) {x a : Int32} {k : Nat} (hx : x = 0) (h : k < 64) (ha : a = Int32.ofNat k) : own_on q0 q1 r (q0 ||| own_sh k) q1 r x a := by
  subst hx ha
  rintro y b (⟨rfl, j, hj, rfl⟩ | ⟨rfl, j, h1, h2, rfl⟩ | ⟨rfl, j, hj, rfl⟩)
  · rw [own_bA _ _ _ hj, own_bA _ _ _ hj, own_shq h, own_badd _ h hj, own_dde k j]; simp [own_eqi (show j < 200 by omega) (show k < 200 by omega)]
  · rw [own_bB _ _ _ h1 h2, own_bB _ _ _ h1 h2]; have : ¬ j = k := by omega
    simp [own_eqi (show j < 200 by omega) (show k < 200 by omega), this]
  · rw [own_bC _ _ _ hj, own_bC _ _ _ hj]; simp
theorem own_onB (q0 q1 r : Int64) {x a : Int32} {k : Nat} (hx : x = 0) (h0 : 64 ≤ k) (h : k < 70) (ha : a = Int32.ofNat k) : own_on q0 q1 r q0 (q1 ||| own_sh k) r x a := by
  subst hx ha
  rintro y b (⟨rfl, j, hj, rfl⟩ | ⟨rfl, j, h1, h2, rfl⟩ | ⟨rfl, j, hj, rfl⟩)
  · rw [own_bA _ _ _ hj, own_bA _ _ _ hj]; have : ¬ j = k := by omega
    simp [own_eqi (show j < 200 by omega) (show k < 200 by omega), this]
  · rw [own_bB _ _ _ h1 h2, own_bB _ _ _ h1 h2, own_shr h0 h, own_badd _ (by omega) (by omega)]
    have e : decide (k - 64 = j - 64) = decide (j = k) := by by_cases q : j = k <;> simp [q] <;> omega
    rw [e]; simp [own_eqi (show j < 200 by omega) (show k < 200 by omega)]
  · rw [own_bC _ _ _ hj, own_bC _ _ _ hj]; simp
theorem own_onC (q0 q1 r : Int64) {x a : Int32} {k : Nat} (hx : x = 1) (h : k < 3) (ha : a = Int32.ofNat k) : own_on q0 q1 r q0 q1 (r ||| own_sh k) x a := by
  subst hx ha
  rintro y b (⟨rfl, j, hj, rfl⟩ | ⟨rfl, j, h1, h2, rfl⟩ | ⟨rfl, j, hj, rfl⟩)
  · rw [own_bA _ _ _ hj, own_bA _ _ _ hj]; simp
  · rw [own_bB _ _ _ h1 h2, own_bB _ _ _ h1 h2]; simp
  · rw [own_bC _ _ _ hj, own_bC _ _ _ hj, own_shq (by omega), own_badd _ (by omega) (by omega), own_dde k j]; simp [own_eqi (show j < 200 by omega) (show k < 200 by omega)]
theorem own_full : ∀ y b, own_dom y b → own_bit (-1) 63 7 y b = true := by
  rintro y b (⟨rfl, j, hj, rfl⟩ | ⟨rfl, j, h1, h2, rfl⟩ | ⟨rfl, j, hj, rfl⟩)
  · have : ∀ x : Fin 64, own_bit (-1) 63 7 0 (Int32.ofNat x.1) = true := by decide +kernel
    exact this ⟨j, hj⟩
  · have : ∀ x : Fin 70, own_bit (-1) 63 7 0 (Int32.ofNat x.1) = true := by decide +kernel
    exact this ⟨j, h2⟩
  · have : ∀ x : Fin 3, own_bit (-1) 63 7 1 (Int32.ofNat x.1) = true := by decide +kernel
    exact this ⟨j, hj⟩
def own_cn (q0 q1 r : Int64) (x a : Int32) : Int32 := if own_bit q0 q1 r x a = true then 1 else 0
theorem own_cnA0 {q0 q1 r : Int64} {x a : Int32} {k : Nat} (hx : x = 0) (h : k < 64) (ha : a = Int32.ofNat k) (z : q0 &&& own_sh k = 0) : own_cn q0 q1 r x a = 0 := by
  subst hx ha; rw [own_shq h, own_bne _ h] at z; rw [own_cn, own_bA _ _ _ h, z]; rfl
theorem own_cnA1 {q0 q1 r : Int64} {x a : Int32} {k : Nat} (hx : x = 0) (h : k < 64) (ha : a = Int32.ofNat k) (z : ¬ q0 &&& own_sh k = 0) : own_cn q0 q1 r x a = 1 := by
  subst hx ha; rw [own_shq h, own_bne _ h] at z; rw [own_cn, own_bA _ _ _ h, if_pos (by simpa using z)]
theorem own_cnB0 {q0 q1 r : Int64} {x a : Int32} {k : Nat} (hx : x = 0) (h1 : 64 ≤ k) (h : k < 70) (ha : a = Int32.ofNat k) (z : q1 &&& own_sh k = 0) : own_cn q0 q1 r x a = 0 := by
  subst hx ha; rw [own_shr h1 h, own_bne _ (by omega)] at z; rw [own_cn, own_bB _ _ _ h1 h, z]; rfl
theorem own_cnB1 {q0 q1 r : Int64} {x a : Int32} {k : Nat} (hx : x = 0) (h1 : 64 ≤ k) (h : k < 70) (ha : a = Int32.ofNat k) (z : ¬ q1 &&& own_sh k = 0) : own_cn q0 q1 r x a = 1 := by
  subst hx ha; rw [own_shr h1 h, own_bne _ (by omega)] at z; rw [own_cn, own_bB _ _ _ h1 h, if_pos (by simpa using z)]
theorem own_cnC0 {q0 q1 r : Int64} {x a : Int32} {k : Nat} (hx : x = 1) (h : k < 3) (ha : a = Int32.ofNat k) (z : r &&& own_sh k = 0) : own_cn q0 q1 r x a = 0 := by
  subst hx ha; rw [own_shq (by omega), own_bne _ (by omega)] at z; rw [own_cn, own_bC _ _ _ h, z]; rfl
theorem own_cnC1 {q0 q1 r : Int64} {x a : Int32} {k : Nat} (hx : x = 1) (h : k < 3) (ha : a = Int32.ofNat k) (z : ¬ r &&& own_sh k = 0) : own_cn q0 q1 r x a = 1 := by
  subst hx ha; rw [own_shq (by omega), own_bne _ (by omega)] at z; rw [own_cn, own_bC _ _ _ h, if_pos (by simpa using z)]
/-- the list of the changed ones -/
def own_M (rc e0 e1 : Int32) : Prop := (rc = 0 ∧ e0 = 0 ∧ e1 = 0) ∨ (rc = 1 ∧ e0 = 1 ∧ e1 = 0) ∨ (rc = 1 ∧ e0 = 0 ∧ e1 = 1) ∨ (rc = 2 ∧ e0 = 1 ∧ e1 = 1)
def own_T (vs : List Value) (t : Nat) (x a : Int32) : Prop := vs.getD t (.int (0 : Int32)) = .int x ∧ vs.getD (t + 1) (.int (0 : Int32)) = .int a ∧ vs.getD (t + 2) (.int (0 : Int32)) = .int (-1 : Int32)
theorem own_Tset {vs : List Value} (hl : vs.length = 96) {t : Nat} (ht : t ≤ 20) (x a : Int32) : own_T (((vs.set t (.int x)).set (t + 1) (.int a)).set (t + 2) (.int (-1 : Int32))) t x a := by
  refine ⟨?_, ?_, ?_⟩
  · rw [List.getD_eq_getElem?_getD, List.getElem?_set_ne (by omega), List.getElem?_set_ne (by omega), List.getElem?_set_self (by omega)]; rfl
  · rw [List.getD_eq_getElem?_getD, List.getElem?_set_ne (by omega), List.getElem?_set_self (by simp; omega)]; rfl
  · rw [List.getD_eq_getElem?_getD, List.getElem?_set_self (by simp; omega)]; rfl
theorem own_j1 {t : Nat} (h : t ≤ 20) : (¬ (Int32.ofNat (t + 3)) - (1 : Int32) < 0 ∧ (Int32.ofNat (t + 3)) - (1 : Int32) < (96 : Int32)) ∧ ((Int32.ofNat (t + 3)) - (1 : Int32)).toNatClampNeg = t + 2 := by
  have : ∀ x : Fin 21, (¬ (Int32.ofNat (x.1 + 3)) - (1 : Int32) < 0 ∧ (Int32.ofNat (x.1 + 3)) - (1 : Int32) < (96 : Int32)) ∧ ((Int32.ofNat (x.1 + 3)) - (1 : Int32)).toNatClampNeg = x.1 + 2 := by decide +kernel
  exact this ⟨t, by omega⟩
theorem own_j2 {t : Nat} (h : t ≤ 20) : (¬ (Int32.ofNat (t + 3)) - (1 : Int32) - (1 : Int32) < 0 ∧ (Int32.ofNat (t + 3)) - (1 : Int32) - (1 : Int32) < (96 : Int32)) ∧ ((Int32.ofNat (t + 3)) - (1 : Int32) - (1 : Int32)).toNatClampNeg = t + 1 := by
  have : ∀ x : Fin 21, (¬ (Int32.ofNat (x.1 + 3)) - (1 : Int32) - (1 : Int32) < 0 ∧ (Int32.ofNat (x.1 + 3)) - (1 : Int32) - (1 : Int32) < (96 : Int32)) ∧ ((Int32.ofNat (x.1 + 3)) - (1 : Int32) - (1 : Int32)).toNatClampNeg = x.1 + 1 := by decide +kernel
  exact this ⟨t, by omega⟩
theorem own_j3 {t : Nat} (h : t ≤ 20) : (¬ (Int32.ofNat (t + 3)) - (1 : Int32) - (1 : Int32) - (1 : Int32) < 0 ∧ (Int32.ofNat (t + 3)) - (1 : Int32) - (1 : Int32) - (1 : Int32) < (96 : Int32)) ∧ ((Int32.ofNat (t + 3)) - (1 : Int32) - (1 : Int32) - (1 : Int32)).toNatClampNeg = t := by
  have : ∀ x : Fin 21, (¬ (Int32.ofNat (x.1 + 3)) - (1 : Int32) - (1 : Int32) - (1 : Int32) < 0 ∧ (Int32.ofNat (x.1 + 3)) - (1 : Int32) - (1 : Int32) - (1 : Int32) < (96 : Int32)) ∧ ((Int32.ofNat (x.1 + 3)) - (1 : Int32) - (1 : Int32) - (1 : Int32)).toNatClampNeg = x.1 := by decide +kernel
  exact this ⟨t, by omega⟩
theorem own_mlt {t : Nat} (h : t ≤ 20) {mk : Int32} (e : mk = Int32.ofNat t) : mk < Int32.ofNat (t + 3) := by
  subst e; exact (own_lti (by omega) (by omega)).mpr (by omega)
theorem own_mge {t : Nat} (h : t ≤ 20) {mk : Int32} (e : mk = Int32.ofNat t) : ¬ mk < Int32.ofNat (t + 3) - (1 : Int32) - (1 : Int32) - (1 : Int32) := by
  subst e
  have : ∀ x : Fin 21, ¬ Int32.ofNat x.1 < Int32.ofNat (x.1 + 3) - (1 : Int32) - (1 : Int32) - (1 : Int32) := by decide +kernel
  exact this ⟨t, by omega⟩
def own_sz (x : Int32) : Int32 := if x = 0 then 70 else 3
theorem own_sznz (x : Int32) : ¬ own_sz x = 0 := by unfold own_sz; split <;> decide
theorem own_an1 (x : Int32) : x &&& (1 : Int32) = 0 ∨ x &&& (1 : Int32) = 1 := by
  have h : (x &&& (1 : Int32)).toBitVec.toNat = x.toBitVec.toNat % 2 := by
    rw [Int32.toBitVec_and, BitVec.toNat_and]; exact Nat.and_one_is_mod _
  rcases Nat.mod_two_eq_zero_or_one x.toBitVec.toNat with q | q
  · left; apply Int32.toBitVec_inj.mp; apply BitVec.eq_of_toNat_eq; rw [h, q]; rfl
  · right; apply Int32.toBitVec_inj.mp; apply BitVec.eq_of_toNat_eq; rw [h, q]; rfl
theorem own_anN (x : Int32) : 0 ≤ (x &&& (2147483647 : Int32)).toInt := by
  have h : (x &&& (2147483647 : Int32)).toBitVec.msb = false := by
    rw [Int32.toBitVec_and, BitVec.msb_and, show (2147483647 : Int32).toBitVec.msb = false by decide +kernel, Bool.and_false]
  show 0 ≤ (x &&& (2147483647 : Int32)).toBitVec.toInt
  rw [BitVec.toInt_eq_msb_cond, h]; simp
theorem own_remk (x : Int32) {n : Nat} (h0 : 0 < n) (hn : n < 200) : ∃ k, k < n ∧ (x &&& (2147483647 : Int32)) % Int32.ofNat n = Int32.ofNat k := by
  have h := own_anN x
  refine ⟨((x &&& (2147483647 : Int32)).toInt % (n : Int)).toNat, ?_, ?_⟩
  · have := Int.emod_lt_of_pos (x &&& (2147483647 : Int32)).toInt (show (0 : Int) < n by omega); have := Int.emod_nonneg (x &&& (2147483647 : Int32)).toInt (show (n : Int) ≠ 0 by omega); omega
  · apply Int32.toInt_inj.mp
    have a1 := Int.emod_lt_of_pos (x &&& (2147483647 : Int32)).toInt (show (0 : Int) < n by omega); have a2 := Int.emod_nonneg (x &&& (2147483647 : Int32)).toInt (show (n : Int) ≠ 0 by omega)
    rw [Int32.toInt_mod, own_ti hn, Int.tmod_eq_emod_of_nonneg h, own_ti (by omega)]; omega
theorem own_dm {x : Int32} (h : x = 0 ∨ x = 1) (r : Int32) : own_dom x ((r &&& (2147483647 : Int32)) % own_sz x) := by
  rcases h with rfl | rfl
  · obtain ⟨k, hk, e⟩ := own_remk r (n := 70) (by omega) (by omega)
    by_cases q : k < 64
    · exact Or.inl ⟨rfl, k, q, e⟩
    · exact Or.inr (Or.inl ⟨rfl, k, by omega, hk, e⟩)
  · obtain ⟨k, hk, e⟩ := own_remk r (n := 3) (by omega) (by omega)
    exact Or.inr (Or.inr ⟨rfl, k, hk, e⟩)
theorem own_sm {F P Q : Prop} [Decidable F] [Decidable P] [Decidable Q] {d1 sm d2 : Int32} (h2 : d2 = if F then 0 else if d1 = 0 then 1 else if sm = 0 then 1 else 0) (hs : sm = if P then (if Q then 1 else 0) else 0) (a : ¬ d1 = 0) (b : ¬ d2 = 0) : ¬ (P ∧ Q) := by
  rintro ⟨p, q⟩
  rw [if_pos p, if_pos q] at hs; subst hs h2
  by_cases f : F <;> simp [f, a] at b
theorem own_y000 {B : Bool} (h : B = true) : (if B = true then (1 : Int32) else 0) = 1 := by rw [h]; rfl
theorem own_y1 {B : Bool} {A C : Prop} [Decidable A] [Decidable C] (h : B = (true && !(decide A && decide C))) : (if B = true then (1 : Int32) else 0) = (if (if A then (if C then (1 : Int32) else 0) else 0) = 0 then 1 else 0) := by
  subst h; by_cases a : A <;> by_cases c : C <;> simp [a, c]
theorem own_y2 {B : Bool} {A C D E : Prop} [Decidable A] [Decidable C] [Decidable D] [Decidable E] (h : B = ((true && !(decide A && decide C)) && !(decide D && decide E))) : (if B = true then (1 : Int32) else 0) = (if (if A then (if C then (1 : Int32) else 0) else 0) = 0 then (if (if D then (if E then (1 : Int32) else 0) else 0) = 0 then 1 else 0) else 0) := by
  subst h; by_cases a : A <;> by_cases c : C <;> by_cases d : D <;> by_cases e : E <;> simp [a, c, d, e]
theorem own_y3 {B : Bool} {D E : Prop} [Decidable D] [Decidable E] (h : B = ((true && !(decide D && decide E)) || (decide D && decide E))) : (if B = true then (1 : Int32) else 0) = 1 := by
  subst h; by_cases d : D <;> by_cases e : E <;> simp [d, e]
theorem own_y4 {B : Bool} {A C D E : Prop} [Decidable A] [Decidable C] [Decidable D] [Decidable E] (h : B = (((true && !(decide A && decide C)) && !(decide D && decide E)) || (decide D && decide E))) (hn : D → E → ¬ (A ∧ C)) : (if B = true then (1 : Int32) else 0) = (if (if A then (if C then (1 : Int32) else 0) else 0) = 0 then 1 else 0) := by
  subst h; by_cases a : A <;> by_cases c : C <;> by_cases d : D <;> by_cases e : E <;> simp [a, c, d, e]
  exact hn d e ⟨a, c⟩

theorem own_put {p : Program} {l : Launch} {e : Env} {R : Room} {s : State} {m : MethodId} {args : Array Value} {below : List Frame} {meth : Method} {c : Code} {T : State} {locs : List Loc} {cells slots : Nat} {Z : State} {h h0 hb : Heap} {n0 : Nat} {a : Addr} {kc : ClassId} {A : State} {pc : Nat} {Ls : Array Slot} (X : Stand p l e R s m args below meth c T locs cells slots) (hx : p.tables.exec = Jvm.exec) (hZ : Z.Warmed39 s.vm) (eT : T.heap = h) (K : Keep h0 h []) (Kb : Keep hb h [a]) (za : h0.size ≤ a) (ga : n0 ≤ a) (N : Fr n0 locs) (i : Nat) (hi : i < 70) {b : Int} (hv : (Int8.ofInt b).toInt32 = Int32.ofNat i) (V : Arv Z h a kc .int (70 : Int32) (own_pz i) (.int (0 : Int32))) (g : Go p.tables e below A (T.setTop (mkF m pc Ls [.ref a]))) (d0 : decode c.code pc = .ok (.dup, 1)) (d1 : decode c.code (pc + 1) = .ok (.bipush b, 2)) (d2 : decode c.code (pc + 3) = .ok (.bipush b, 2)) (d3 : decode c.code (pc + 5) = .ok (.iastore, 1)) :
    ∃ (T' : State) (h' : Heap) (L' : List Loc), Stand p l e R s m args below meth c T' L' cells slots ∧ T'.heap = h' ∧ Keep h0 h' [] ∧ Keep hb h' [a] ∧ Fr n0 L' ∧ Arv Z h' a kc .int (70 : Int32) (own_pz (i + 1)) (.int (0 : Int32)) ∧ Go p.tables e below A (T'.setTop (mkF m (pc + 6) Ls [.ref a])) := by
  have g1 : Go p.tables e below A (T.setTop (mkF m (pc + 5) Ls [.int (Int32.ofNat i), .int (Int32.ofNat i), .ref a, .ref a])) := fun t_ k_ => g t_ (by
    refine XS.dup X.here hx rfl d0 rfl rfl ?_
    refine Jvm.Free.XT.bipushV X.here hx rfl (Int32.ofNat i) d1 hv ?_
    refine Jvm.Free.XT.bipushV X.here hx rfl (Int32.ofNat i) d2 hv ?_
    exact k_)
  obtain ⟨cl, Ar, q, S, Ng, H, G⟩ := id V
  have hin := inb_of S (j := Int32.ofNat i) ⟨own_nni (by omega), (own_lti (b := 70) (by omega) (by omega)).mpr hi⟩
  obtain ⟨T1, h1, X1, e1, W1, st1⟩ := stI X hx hZ eT Ar (j := Int32.ofNat i) hin (g := mkF m (pc + 5) Ls [.int (Int32.ofNat i), .int (Int32.ofNat i), .ref a, .ref a]) rfl rfl d3
  exact ⟨T1, h1, _, X1, e1, K.wr W1 (Or.inr za), Kb.wr W1 (Or.inl (List.mem_singleton.mpr rfl)), Fr.snoc X1 N ga, by have z := Arv.set (vs := own_pz i) Ar q S Ng H G rfl W1 i (own_cl (by omega)) (by rw [own_pzl]; exact hi); exact z, gc g1 st1⟩
theorem own_dx {x a : Int32} (h : own_dom x a) : x = 0 ∨ x = 1 := by
  rcases h with ⟨e, -⟩ | ⟨e, -⟩ | ⟨e, -⟩
  · exact Or.inl e
  · exact Or.inl e
  · exact Or.inr e
theorem own_irr (x : Int32) : ¬ x < x := by rw [Int32.lt_iff_toInt_lt]; omega
abbrev oM0 : MethodName := ⟨"com/example/arcward/arcward/model/Instance", "<init>", "(Ljava/util/List;Ljava/util/List;)V"⟩
abbrev oM1 : MethodName := ⟨"com/example/arcward/arcward/model/Instance", "variables", "()Ljava/util/List;"⟩
abbrev oM2 : MethodName := ⟨"com/example/arcward/arcward/model/Variable", "<init>", "(Ljava/lang/String;I[I)V"⟩
abbrev oM3 : MethodName := ⟨"com/example/arcward/arcward/model/Variable", "index", "()I"⟩
abbrev oM4 : MethodName := ⟨"com/example/arcward/arcward/model/Variable", "size", "()I"⟩
abbrev oM5 : MethodName := ⟨"com/example/arcward/arcward/solver/Domains", "<init>", "(Lcom/example/arcward/arcward/model/Instance;I)V"⟩
abbrev oM6 : MethodName := ⟨"com/example/arcward/arcward/solver/Domains", "contains", "(II)Z"⟩
abbrev oM7 : MethodName := ⟨"com/example/arcward/arcward/solver/Domains", "mark", "()I"⟩
abbrev oM8 : MethodName := ⟨"com/example/arcward/arcward/solver/Domains", "markResized", "(I)V"⟩
abbrev oM9 : MethodName := ⟨"com/example/arcward/arcward/solver/Domains", "remove", "(II)V"⟩
abbrev oM10 : MethodName := ⟨"com/example/arcward/arcward/solver/Domains", "remove", "(III)V"⟩
abbrev oM11 : MethodName := ⟨"com/example/arcward/arcward/solver/Domains", "restore", "(I)V"⟩
abbrev oM12 : MethodName := ⟨"com/example/arcward/arcward/solver/Domains", "wordsFor", "(I)I"⟩
abbrev oM13 : MethodName := ⟨"com/example/arcward/arcward/solver/DomainsContainsPinLaw", "sizeOf", "(I)I"⟩
abbrev oM14 : MethodName := ⟨"java/lang/Math", "max", "(II)I"⟩
abbrev oM15 : MethodName := ⟨"java/lang/Math", "min", "(II)I"⟩
abbrev oM16 : MethodName := ⟨"java/util/AbstractCollection", "<init>", "()V"⟩
abbrev oM17 : MethodName := ⟨"java/util/AbstractList", "<init>", "()V"⟩
abbrev oM18 : MethodName := ⟨"java/util/ArrayList", "<init>", "()V"⟩
abbrev oM19 : MethodName := ⟨"java/util/ArrayList", "add", "(Ljava/lang/Object;)Z"⟩
abbrev oM20 : MethodName := ⟨"java/util/ArrayList", "add", "(Ljava/lang/Object;[Ljava/lang/Object;I)V"⟩
abbrev oM21 : MethodName := ⟨"java/util/ArrayList", "grow", "()[Ljava/lang/Object;"⟩
abbrev oM22 : MethodName := ⟨"java/util/ArrayList", "grow", "(I)[Ljava/lang/Object;"⟩
abbrev oM23 : MethodName := ⟨"java/util/ArrayList", "isEmpty", "()Z"⟩
abbrev oM24 : MethodName := ⟨"java/util/ArrayList", "toArray", "()[Ljava/lang/Object;"⟩
abbrev oM25 : MethodName := ⟨"java/util/Arrays", "copyOf", "([Ljava/lang/Object;I)[Ljava/lang/Object;"⟩
abbrev oM26 : MethodName := ⟨"java/util/Arrays", "copyOf", "([Ljava/lang/Object;ILjava/lang/Class;)[Ljava/lang/Object;"⟩
abbrev oM27 : MethodName := ⟨"java/util/Collection", "isEmpty", "()Z"⟩
abbrev oM28 : MethodName := ⟨"java/util/ImmutableCollections", "listCopy", "(Ljava/util/Collection;)Ljava/util/List;"⟩
abbrev oM29 : MethodName := ⟨"java/util/ImmutableCollections$AbstractImmutableCollection", "<init>", "()V"⟩
abbrev oM30 : MethodName := ⟨"java/util/ImmutableCollections$AbstractImmutableList", "<init>", "()V"⟩
abbrev oM31 : MethodName := ⟨"java/util/ImmutableCollections$AbstractImmutableList", "iterator", "()Ljava/util/Iterator;"⟩
abbrev oM32 : MethodName := ⟨"java/util/ImmutableCollections$List12", "<init>", "(Ljava/lang/Object;Ljava/lang/Object;)V"⟩
abbrev oM33 : MethodName := ⟨"java/util/ImmutableCollections$List12", "get", "(I)Ljava/lang/Object;"⟩
abbrev oM34 : MethodName := ⟨"java/util/ImmutableCollections$List12", "size", "()I"⟩
abbrev oM35 : MethodName := ⟨"java/util/ImmutableCollections$ListItr", "<init>", "(Ljava/util/List;I)V"⟩
abbrev oM36 : MethodName := ⟨"java/util/ImmutableCollections$ListItr", "hasNext", "()Z"⟩
abbrev oM37 : MethodName := ⟨"java/util/ImmutableCollections$ListN", "size", "()I"⟩
abbrev oM38 : MethodName := ⟨"java/util/List", "copyOf", "(Ljava/util/Collection;)Ljava/util/List;"⟩
abbrev oM39 : MethodName := ⟨"java/util/List", "get", "(I)Ljava/lang/Object;"⟩
abbrev oM40 : MethodName := ⟨"java/util/List", "of", "()Ljava/util/List;"⟩
abbrev oM41 : MethodName := ⟨"java/util/List", "of", "([Ljava/lang/Object;)Ljava/util/List;"⟩
abbrev oM42 : MethodName := ⟨"java/util/List", "size", "()I"⟩
abbrev oM43 : MethodName := ⟨"java/util/Objects", "requireNonNull", "(Ljava/lang/Object;)Ljava/lang/Object;"⟩
abbrev oLRIu2 (x0 : Addr) (x1 : Int32) : Array Slot := #[.val (.ref x0), .val (.int x1), .unset, .unset]
abbrev oLRI2u (x0 : Addr) (x1 : Int32) (x2 : Int32) : Array Slot := #[.val (.ref x0), .val (.int x1), .val (.int x2), .unset]
abbrev oLR3I (x0 : Addr) (x1 : Addr) (x2 : Addr) (x3 : Int32) : Array Slot := #[.val (.ref x0), .val (.ref x1), .val (.ref x2), .val (.int x3)]
abbrev oLRIRu (x0 : Addr) (x1 : Int32) (x2 : Addr) : Array Slot := #[.val (.ref x0), .val (.int x1), .val (.ref x2), .unset]
abbrev oLRIR2 (x0 : Addr) (x1 : Int32) (x2 : Addr) (x3 : Addr) : Array Slot := #[.val (.ref x0), .val (.int x1), .val (.ref x2), .val (.ref x3)]
abbrev oLR2IRI (x0 : Addr) (x1 : Addr) (x2 : Int32) (x3 : Addr) (x4 : Int32) : Array Slot := #[.val (.ref x0), .val (.ref x1), .val (.int x2), .val (.ref x3), .val (.int x4)]
abbrev oLR2IRu (x0 : Addr) (x1 : Addr) (x2 : Int32) (x3 : Addr) : Array Slot := #[.val (.ref x0), .val (.ref x1), .val (.int x2), .val (.ref x3), .unset]
abbrev oLR3u4 (x0 : Addr) (x1 : Addr) (x2 : Addr) : Array Slot := #[.val (.ref x0), .val (.ref x1), .val (.ref x2), .unset, .unset, .unset, .unset]
abbrev oLR3Iu3 (x0 : Addr) (x1 : Addr) (x2 : Addr) (x3 : Int32) : Array Slot := #[.val (.ref x0), .val (.ref x1), .val (.ref x2), .val (.int x3), .unset, .unset, .unset]
abbrev oLR4u3 (x0 : Addr) (x1 : Addr) (x2 : Addr) (x3 : Addr) : Array Slot := #[.val (.ref x0), .val (.ref x1), .val (.ref x2), .val (.ref x3), .unset, .unset, .unset]
abbrev oLR2I5 (x0 : Addr) (x1 : Addr) (x2 : Int32) (x3 : Int32) (x4 : Int32) (x5 : Int32) (x6 : Int32) : Array Slot := #[.val (.ref x0), .val (.ref x1), .val (.int x2), .val (.int x3), .val (.int x4), .val (.int x5), .val (.int x6)]
abbrev oLR2Iu4 (x0 : Addr) (x1 : Addr) (x2 : Int32) : Array Slot := #[.val (.ref x0), .val (.ref x1), .val (.int x2), .unset, .unset, .unset, .unset]
abbrev oLR2I2u3 (x0 : Addr) (x1 : Addr) (x2 : Int32) (x3 : Int32) : Array Slot := #[.val (.ref x0), .val (.ref x1), .val (.int x2), .val (.int x3), .unset, .unset, .unset]
abbrev oLR2I3u2 (x0 : Addr) (x1 : Addr) (x2 : Int32) (x3 : Int32) (x4 : Int32) : Array Slot := #[.val (.ref x0), .val (.ref x1), .val (.int x2), .val (.int x3), .val (.int x4), .unset, .unset]
abbrev oLR2I4u (x0 : Addr) (x1 : Addr) (x2 : Int32) (x3 : Int32) (x4 : Int32) (x5 : Int32) : Array Slot := #[.val (.ref x0), .val (.ref x1), .val (.int x2), .val (.int x3), .val (.int x4), .val (.int x5), .unset]
abbrev oLRI3 (x0 : Addr) (x1 : Int32) (x2 : Int32) (x3 : Int32) : Array Slot := #[.val (.ref x0), .val (.int x1), .val (.int x2), .val (.int x3)]
abbrev oLRIu3 (x0 : Addr) (x1 : Int32) : Array Slot := #[.val (.ref x0), .val (.int x1), .unset, .unset, .unset]
abbrev oLRI2u2 (x0 : Addr) (x1 : Int32) (x2 : Int32) : Array Slot := #[.val (.ref x0), .val (.int x1), .val (.int x2), .unset, .unset]
abbrev oLRI3u (x0 : Addr) (x1 : Int32) (x2 : Int32) (x3 : Int32) : Array Slot := #[.val (.ref x0), .val (.int x1), .val (.int x2), .val (.int x3), .unset]
abbrev oLRI4 (x0 : Addr) (x1 : Int32) (x2 : Int32) (x3 : Int32) (x4 : Int32) : Array Slot := #[.val (.ref x0), .val (.int x1), .val (.int x2), .val (.int x3), .val (.int x4)]
abbrev oLI4u19 (x0 : Int32) (x1 : Int32) (x2 : Int32) (x3 : Int32) : Array Slot := #[.val (.int x0), .val (.int x1), .val (.int x2), .val (.int x3), .unset, .unset, .unset, .unset, .unset, .unset, .unset, .unset, .unset, .unset, .unset, .unset, .unset, .unset, .unset, .unset, .unset, .unset, .unset]
abbrev oLI4Ru18 (x0 : Int32) (x1 : Int32) (x2 : Int32) (x3 : Int32) (x4 : Addr) : Array Slot := #[.val (.int x0), .val (.int x1), .val (.int x2), .val (.int x3), .val (.ref x4), .unset, .unset, .unset, .unset, .unset, .unset, .unset, .unset, .unset, .unset, .unset, .unset, .unset, .unset, .unset, .unset, .unset, .unset]
abbrev oLI4R2u17 (x0 : Int32) (x1 : Int32) (x2 : Int32) (x3 : Int32) (x4 : Addr) (x5 : Addr) : Array Slot := #[.val (.int x0), .val (.int x1), .val (.int x2), .val (.int x3), .val (.ref x4), .val (.ref x5), .unset, .unset, .unset, .unset, .unset, .unset, .unset, .unset, .unset, .unset, .unset, .unset, .unset, .unset, .unset, .unset, .unset]
abbrev oLI4R3u16 (x0 : Int32) (x1 : Int32) (x2 : Int32) (x3 : Int32) (x4 : Addr) (x5 : Addr) (x6 : Addr) : Array Slot := #[.val (.int x0), .val (.int x1), .val (.int x2), .val (.int x3), .val (.ref x4), .val (.ref x5), .val (.ref x6), .unset, .unset, .unset, .unset, .unset, .unset, .unset, .unset, .unset, .unset, .unset, .unset, .unset, .unset, .unset, .unset]
abbrev oLI4R4Iu14 (x0 : Int32) (x1 : Int32) (x2 : Int32) (x3 : Int32) (x4 : Addr) (x5 : Addr) (x6 : Addr) (x7 : Addr) (x8 : Int32) : Array Slot := #[.val (.int x0), .val (.int x1), .val (.int x2), .val (.int x3), .val (.ref x4), .val (.ref x5), .val (.ref x6), .val (.ref x7), .val (.int x8), .unset, .unset, .unset, .unset, .unset, .unset, .unset, .unset, .unset, .unset, .unset, .unset, .unset, .unset]
abbrev oLI4R4u15 (x0 : Int32) (x1 : Int32) (x2 : Int32) (x3 : Int32) (x4 : Addr) (x5 : Addr) (x6 : Addr) (x7 : Addr) : Array Slot := #[.val (.int x0), .val (.int x1), .val (.int x2), .val (.int x3), .val (.ref x4), .val (.ref x5), .val (.ref x6), .val (.ref x7), .unset, .unset, .unset, .unset, .unset, .unset, .unset, .unset, .unset, .unset, .unset, .unset, .unset, .unset, .unset]
abbrev oLI4R4I2u13 (x0 : Int32) (x1 : Int32) (x2 : Int32) (x3 : Int32) (x4 : Addr) (x5 : Addr) (x6 : Addr) (x7 : Addr) (x8 : Int32) (x9 : Int32) : Array Slot := #[.val (.int x0), .val (.int x1), .val (.int x2), .val (.int x3), .val (.ref x4), .val (.ref x5), .val (.ref x6), .val (.ref x7), .val (.int x8), .val (.int x9), .unset, .unset, .unset, .unset, .unset, .unset, .unset, .unset, .unset, .unset, .unset, .unset, .unset]
abbrev oLI4R4I4u11 (x0 : Int32) (x1 : Int32) (x2 : Int32) (x3 : Int32) (x4 : Addr) (x5 : Addr) (x6 : Addr) (x7 : Addr) (x8 : Int32) (x9 : Int32) (x10 : Int32) (x11 : Int32) : Array Slot := #[.val (.int x0), .val (.int x1), .val (.int x2), .val (.int x3), .val (.ref x4), .val (.ref x5), .val (.ref x6), .val (.ref x7), .val (.int x8), .val (.int x9), .val (.int x10), .val (.int x11), .unset, .unset, .unset, .unset, .unset, .unset, .unset, .unset, .unset, .unset, .unset]
abbrev oLI4R4I3u12 (x0 : Int32) (x1 : Int32) (x2 : Int32) (x3 : Int32) (x4 : Addr) (x5 : Addr) (x6 : Addr) (x7 : Addr) (x8 : Int32) (x9 : Int32) (x10 : Int32) : Array Slot := #[.val (.int x0), .val (.int x1), .val (.int x2), .val (.int x3), .val (.ref x4), .val (.ref x5), .val (.ref x6), .val (.ref x7), .val (.int x8), .val (.int x9), .val (.int x10), .unset, .unset, .unset, .unset, .unset, .unset, .unset, .unset, .unset, .unset, .unset, .unset]
abbrev oLI4R4I5u10 (x0 : Int32) (x1 : Int32) (x2 : Int32) (x3 : Int32) (x4 : Addr) (x5 : Addr) (x6 : Addr) (x7 : Addr) (x8 : Int32) (x9 : Int32) (x10 : Int32) (x11 : Int32) (x12 : Int32) : Array Slot := #[.val (.int x0), .val (.int x1), .val (.int x2), .val (.int x3), .val (.ref x4), .val (.ref x5), .val (.ref x6), .val (.ref x7), .val (.int x8), .val (.int x9), .val (.int x10), .val (.int x11), .val (.int x12), .unset, .unset, .unset, .unset, .unset, .unset, .unset, .unset, .unset, .unset]
abbrev oLI4R4I6u9 (x0 : Int32) (x1 : Int32) (x2 : Int32) (x3 : Int32) (x4 : Addr) (x5 : Addr) (x6 : Addr) (x7 : Addr) (x8 : Int32) (x9 : Int32) (x10 : Int32) (x11 : Int32) (x12 : Int32) (x13 : Int32) : Array Slot := #[.val (.int x0), .val (.int x1), .val (.int x2), .val (.int x3), .val (.ref x4), .val (.ref x5), .val (.ref x6), .val (.ref x7), .val (.int x8), .val (.int x9), .val (.int x10), .val (.int x11), .val (.int x12), .val (.int x13), .unset, .unset, .unset, .unset, .unset, .unset, .unset, .unset, .unset]
abbrev oLI4R4I7u8 (x0 : Int32) (x1 : Int32) (x2 : Int32) (x3 : Int32) (x4 : Addr) (x5 : Addr) (x6 : Addr) (x7 : Addr) (x8 : Int32) (x9 : Int32) (x10 : Int32) (x11 : Int32) (x12 : Int32) (x13 : Int32) (x14 : Int32) : Array Slot := #[.val (.int x0), .val (.int x1), .val (.int x2), .val (.int x3), .val (.ref x4), .val (.ref x5), .val (.ref x6), .val (.ref x7), .val (.int x8), .val (.int x9), .val (.int x10), .val (.int x11), .val (.int x12), .val (.int x13), .val (.int x14), .unset, .unset, .unset, .unset, .unset, .unset, .unset, .unset]
abbrev oLI4R4I9u6 (x0 : Int32) (x1 : Int32) (x2 : Int32) (x3 : Int32) (x4 : Addr) (x5 : Addr) (x6 : Addr) (x7 : Addr) (x8 : Int32) (x9 : Int32) (x10 : Int32) (x11 : Int32) (x12 : Int32) (x13 : Int32) (x14 : Int32) (x15 : Int32) (x16 : Int32) : Array Slot := #[.val (.int x0), .val (.int x1), .val (.int x2), .val (.int x3), .val (.ref x4), .val (.ref x5), .val (.ref x6), .val (.ref x7), .val (.int x8), .val (.int x9), .val (.int x10), .val (.int x11), .val (.int x12), .val (.int x13), .val (.int x14), .val (.int x15), .val (.int x16), .unset, .unset, .unset, .unset, .unset, .unset]
abbrev oLI4R4I8u7 (x0 : Int32) (x1 : Int32) (x2 : Int32) (x3 : Int32) (x4 : Addr) (x5 : Addr) (x6 : Addr) (x7 : Addr) (x8 : Int32) (x9 : Int32) (x10 : Int32) (x11 : Int32) (x12 : Int32) (x13 : Int32) (x14 : Int32) (x15 : Int32) : Array Slot := #[.val (.int x0), .val (.int x1), .val (.int x2), .val (.int x3), .val (.ref x4), .val (.ref x5), .val (.ref x6), .val (.ref x7), .val (.int x8), .val (.int x9), .val (.int x10), .val (.int x11), .val (.int x12), .val (.int x13), .val (.int x14), .val (.int x15), .unset, .unset, .unset, .unset, .unset, .unset, .unset]
abbrev oLI4R4I11u4 (x0 : Int32) (x1 : Int32) (x2 : Int32) (x3 : Int32) (x4 : Addr) (x5 : Addr) (x6 : Addr) (x7 : Addr) (x8 : Int32) (x9 : Int32) (x10 : Int32) (x11 : Int32) (x12 : Int32) (x13 : Int32) (x14 : Int32) (x15 : Int32) (x16 : Int32) (x17 : Int32) (x18 : Int32) : Array Slot := #[.val (.int x0), .val (.int x1), .val (.int x2), .val (.int x3), .val (.ref x4), .val (.ref x5), .val (.ref x6), .val (.ref x7), .val (.int x8), .val (.int x9), .val (.int x10), .val (.int x11), .val (.int x12), .val (.int x13), .val (.int x14), .val (.int x15), .val (.int x16), .val (.int x17), .val (.int x18), .unset, .unset, .unset, .unset]
abbrev oLI4R4I10u5 (x0 : Int32) (x1 : Int32) (x2 : Int32) (x3 : Int32) (x4 : Addr) (x5 : Addr) (x6 : Addr) (x7 : Addr) (x8 : Int32) (x9 : Int32) (x10 : Int32) (x11 : Int32) (x12 : Int32) (x13 : Int32) (x14 : Int32) (x15 : Int32) (x16 : Int32) (x17 : Int32) : Array Slot := #[.val (.int x0), .val (.int x1), .val (.int x2), .val (.int x3), .val (.ref x4), .val (.ref x5), .val (.ref x6), .val (.ref x7), .val (.int x8), .val (.int x9), .val (.int x10), .val (.int x11), .val (.int x12), .val (.int x13), .val (.int x14), .val (.int x15), .val (.int x16), .val (.int x17), .unset, .unset, .unset, .unset, .unset]
abbrev oLI4R4I12u3 (x0 : Int32) (x1 : Int32) (x2 : Int32) (x3 : Int32) (x4 : Addr) (x5 : Addr) (x6 : Addr) (x7 : Addr) (x8 : Int32) (x9 : Int32) (x10 : Int32) (x11 : Int32) (x12 : Int32) (x13 : Int32) (x14 : Int32) (x15 : Int32) (x16 : Int32) (x17 : Int32) (x18 : Int32) (x19 : Int32) : Array Slot := #[.val (.int x0), .val (.int x1), .val (.int x2), .val (.int x3), .val (.ref x4), .val (.ref x5), .val (.ref x6), .val (.ref x7), .val (.int x8), .val (.int x9), .val (.int x10), .val (.int x11), .val (.int x12), .val (.int x13), .val (.int x14), .val (.int x15), .val (.int x16), .val (.int x17), .val (.int x18), .val (.int x19), .unset, .unset, .unset]
abbrev oLI4R4I13u2 (x0 : Int32) (x1 : Int32) (x2 : Int32) (x3 : Int32) (x4 : Addr) (x5 : Addr) (x6 : Addr) (x7 : Addr) (x8 : Int32) (x9 : Int32) (x10 : Int32) (x11 : Int32) (x12 : Int32) (x13 : Int32) (x14 : Int32) (x15 : Int32) (x16 : Int32) (x17 : Int32) (x18 : Int32) (x19 : Int32) (x20 : Int32) : Array Slot := #[.val (.int x0), .val (.int x1), .val (.int x2), .val (.int x3), .val (.ref x4), .val (.ref x5), .val (.ref x6), .val (.ref x7), .val (.int x8), .val (.int x9), .val (.int x10), .val (.int x11), .val (.int x12), .val (.int x13), .val (.int x14), .val (.int x15), .val (.int x16), .val (.int x17), .val (.int x18), .val (.int x19), .val (.int x20), .unset, .unset]
abbrev oLI4R4I15 (x0 : Int32) (x1 : Int32) (x2 : Int32) (x3 : Int32) (x4 : Addr) (x5 : Addr) (x6 : Addr) (x7 : Addr) (x8 : Int32) (x9 : Int32) (x10 : Int32) (x11 : Int32) (x12 : Int32) (x13 : Int32) (x14 : Int32) (x15 : Int32) (x16 : Int32) (x17 : Int32) (x18 : Int32) (x19 : Int32) (x20 : Int32) (x21 : Int32) (x22 : Int32) : Array Slot := #[.val (.int x0), .val (.int x1), .val (.int x2), .val (.int x3), .val (.ref x4), .val (.ref x5), .val (.ref x6), .val (.ref x7), .val (.int x8), .val (.int x9), .val (.int x10), .val (.int x11), .val (.int x12), .val (.int x13), .val (.int x14), .val (.int x15), .val (.int x16), .val (.int x17), .val (.int x18), .val (.int x19), .val (.int x20), .val (.int x21), .val (.int x22)]
abbrev oLI4R4I14u (x0 : Int32) (x1 : Int32) (x2 : Int32) (x3 : Int32) (x4 : Addr) (x5 : Addr) (x6 : Addr) (x7 : Addr) (x8 : Int32) (x9 : Int32) (x10 : Int32) (x11 : Int32) (x12 : Int32) (x13 : Int32) (x14 : Int32) (x15 : Int32) (x16 : Int32) (x17 : Int32) (x18 : Int32) (x19 : Int32) (x20 : Int32) (x21 : Int32) : Array Slot := #[.val (.int x0), .val (.int x1), .val (.int x2), .val (.int x3), .val (.ref x4), .val (.ref x5), .val (.ref x6), .val (.ref x7), .val (.int x8), .val (.int x9), .val (.int x10), .val (.int x11), .val (.int x12), .val (.int x13), .val (.int x14), .val (.int x15), .val (.int x16), .val (.int x17), .val (.int x18), .val (.int x19), .val (.int x20), .val (.int x21), .unset]
abbrev GF (p : Program) (e : Env) (below : List Frame) (A T : State) (m : MethodId) (pc : Nat) (L : Array Slot) (S : List Value) : Prop := Go p.tables e below A (T.setTop (mkF m pc L S))

theorem d3_0 : decode jdk_22_method_1_code 0 = .ok (.aload_n 0, 1) := by decide +kernel
theorem d3_1 : decode jdk_22_method_1_code 1 = .ok (.invokespecial 1, 3) := by decide +kernel
theorem d3_4 : decode jdk_22_method_1_code 4 = .ok (.return_, 1) := by decide +kernel
theorem pn3 : plainFor (⟨"java/util/AbstractCollection", "<init>", "()V"⟩ : MethodName) = true := plainFor_of_name (by first | (simp [plainName, overriddenIn]; done) | decide +kernel)
theorem ef_rm3 (m : MethodId) (a1 : Addr) : entryFrame m #[(.ref a1)] 1 = mkF m 0 #[.val (.ref a1)] [] := by first | (simp [entryFrame, mkF, argsToLocals, Value.category]; done) | rfl
def Q3 (Z : State) (a1 : Addr) (h0 : Heap) (n0 : Nat) (v : Option Value) (h : Heap) (L : List Loc) : Prop := v = none ∧ Fr n0 L ∧ (h = h0)
set_option maxRecDepth 65536 in
set_option maxHeartbeats 40000000 in
theorem rm3 (l : Launch) (Z : State) (a0 : Array Value) (hw : ∀ d ∈ tables_1, d.before a0 Z = true) (ws : List Jvm.Cond) (a1 : Addr) (h0 : Heap) (n0 : Nat) (Z0 : n0 ≤ h0.size) :
  MetFree l oM16 (head1 (Jvm.Cond.code oM16 jdk_22_method_1_code 1 none :: ws) ({ frames := 1, cells := 0, slots := 0, locals := 12 } : Room)) (fun a U => a = #[(.ref a1)] ∧ Z.Warmed39 U.vm ∧ U.heap = h0) (fun _ _ _ _ _ => True) (fun _ U o U' => ∃ v L, o = .returned v ∧ Q3 Z a1 h0 n0 v U'.heap L ∧ FrameEnd U o U' L ({ frames := 1, cells := 0, slots := 0, locals := 12 } : Room).cells ({ frames := 1, cells := 0, slots := 0, locals := 12 } : Room).slots) := by
 refine MetFree.of_bodySF pn3 hisR ?_
 intro p e s m args below meth c s₁ Bd hml0 hP hK
 obtain ⟨rfl, hZ, hh⟩ := hP
 have hx := Bd.exec
 have hby := Bd.bytes
 have hml : c.maxLocals = 1 := hml0
 have hown : s.vm.findClass "java/util/AbstractCollection" = some m.cls := findClass_of_methodNamed Bd.named
 have hnm := (name_of_methodNamed Bd.named Bd.method).1
 have X0 : Stand p l e ({ frames := 1, cells := 0, slots := 0, locals := 12 } : Room) s m #[(.ref a1)] below meth c s₁ [] 0 0 := Stand.of_body Bd
 have e0 : s₁.heap = h0 := by rw [← hh, Bd.state]; rfl
 have N0 := Fr.nil n0
 have p0 : GF p e below (s₁.setTop (entryFrame m #[(.ref a1)] 1)) s₁ m 0 #[.val (.ref a1)] [] := fun t_ k_ => castTop (ef_rm3 m a1) k_
 have p101 : GF p e below _ s₁ m 1 #[.val (.ref a1)] [(.ref a1)] := fun t_ k_ => p0 t_ (by
  refine XS.aloadN X0.here hx rfl (hb hby d3_0) rfl rfl ?_
  exact k_)
 obtain ⟨T102, X102, e102, st102⟩ := initO X0 hx hZ hown (own_w hw 19 rfl) (own_w hw 20 rfl) (own_w hw 21 rfl) e0 (g := (mkF m 1 #[.val (.ref a1)] [(.ref a1)])) rfl (by rw [hml]; rfl) rfl (hb hby d3_1) (by decide) (W := 0) (by show 2 * 0 + _ ≤ _; exact Nat.le_of_eq rfl) (by decide)
 obtain ⟨fs, hr, hrun, hended, hW, hsame⟩ := X102.leave (v := none) (fun _ => rfl)
 refine ⟨_, _, (gc p101 st102) _ (X102.returnOut hx Bd.returns (hb hby d3_4) hr), hrun, hended, _, _, rfl, ?_, ⟨_, rfl⟩, hW, hsame.mono (by decide) (by decide)⟩
 show Q3 Z a1 h0 n0 _ T102.heap _
 rw [e102]
 exact ⟨rfl, N0, rfl⟩
theorem d2_0 : decode jdk_39_method_1_code 0 = .ok (.aload_n 0, 1) := by decide +kernel
theorem d2_1 : decode jdk_39_method_1_code 1 = .ok (.invokespecial 1, 3) := by decide +kernel
theorem d2_4 : decode jdk_39_method_1_code 4 = .ok (.aload_n 0, 1) := by decide +kernel
theorem d2_5 : decode jdk_39_method_1_code 5 = .ok (.iconst 0, 1) := by decide +kernel
theorem d2_6 : decode jdk_39_method_1_code 6 = .ok (.putfield 7, 3) := by decide +kernel
theorem d2_9 : decode jdk_39_method_1_code 9 = .ok (.return_, 1) := by decide +kernel
theorem pd0 : parseMethodDescriptor "()V" = some ⟨[], none⟩ := by decide +kernel
theorem pn2 : plainFor (⟨"java/util/AbstractList", "<init>", "()V"⟩ : MethodName) = true := plainFor_of_name (by first | (simp [plainName, overriddenIn]; done) | decide +kernel)
theorem ef_rm2 (m : MethodId) (a1 : Addr) : entryFrame m #[(.ref a1)] 1 = mkF m 0 #[.val (.ref a1)] [] := by first | (simp [entryFrame, mkF, argsToLocals, Value.category]; done) | rfl
def Q2 (Z : State) (a1 : Addr) (h0 : Heap) (n0 : Nat) (v : Option Value) (h : Heap) (L : List Loc) : Prop := v = none ∧ Fr n0 L ∧ (Keep h0 h [a1]) ∧ (Exa Z h a1 "java/util/ArrayList") ∧ (Fld Z h a1 "java/util/AbstractList" "modCount" "I" (.int 0)) ∧ (Fld Z h a1 "java/util/ArrayList" "elementData" "[Ljava/lang/Object;" .null) ∧ (Fld Z h a1 "java/util/ArrayList" "size" "I" (.int 0))
set_option maxRecDepth 65536 in
set_option maxHeartbeats 40000000 in
theorem rm2 (l : Launch) (Z : State) (a0 : Array Value) (hw : ∀ d ∈ tables_1, d.before a0 Z = true) (ws : List Jvm.Cond) (a1 : Addr) (h0 : Heap) (n0 : Nat) (Z0 : n0 ≤ h0.size) (F0 : Exa Z h0 a1 "java/util/ArrayList") (F1 : Fld Z h0 a1 "java/util/AbstractList" "modCount" "I" (.int 0)) (F2 : Fld Z h0 a1 "java/util/ArrayList" "elementData" "[Ljava/lang/Object;" .null) (F3 : Fld Z h0 a1 "java/util/ArrayList" "size" "I" (.int 0)) (g1 : n0 ≤ a1) :
  MetFree l oM17 (head1 (Jvm.Cond.code oM17 jdk_39_method_1_code 1 none :: ws) ({ frames := 2, cells := 0, slots := 0, locals := 24 } : Room)) (fun a U => a = #[(.ref a1)] ∧ Z.Warmed39 U.vm ∧ U.heap = h0) (fun _ _ _ _ _ => True) (fun _ U o U' => ∃ v L, o = .returned v ∧ Q2 Z a1 h0 n0 v U'.heap L ∧ FrameEnd U o U' L ({ frames := 2, cells := 0, slots := 0, locals := 24 } : Room).cells ({ frames := 2, cells := 0, slots := 0, locals := 24 } : Room).slots) := by
 refine MetFree.of_bodySF pn2 hisR ?_
 intro p e s m args below meth c s₁ Bd hml0 hP hK
 obtain ⟨rfl, hZ, hh⟩ := hP
 have hx := Bd.exec
 have hby := Bd.bytes
 have hml : c.maxLocals = 1 := hml0
 have hown : s.vm.findClass "java/util/AbstractList" = some m.cls := findClass_of_methodNamed Bd.named
 have hnm := (name_of_methodNamed Bd.named Bd.method).1
 have X0 : Stand p l e ({ frames := 2, cells := 0, slots := 0, locals := 24 } : Room) s m #[(.ref a1)] below meth c s₁ [] 0 0 := Stand.of_body Bd
 have e0 : s₁.heap = h0 := by rw [← hh, Bd.state]; rfl
 have N0 := Fr.nil n0
 have p0 : GF p e below (s₁.setTop (entryFrame m #[(.ref a1)] 1)) s₁ m 0 #[.val (.ref a1)] [] := fun t_ k_ => castTop (ef_rm2 m a1) k_
 have p101 : GF p e below _ s₁ m 1 #[.val (.ref a1)] [(.ref a1)] := fun t_ k_ => p0 t_ (by
  refine XS.aloadN X0.here hx rfl (hb hby d2_0) rfl rfl ?_
  exact k_)
 obtain ⟨_, _, ⟨T102, L102, k102, n102⟩, -, X102, ⟨Lc102, hQ102, l102, y102, z102⟩, st102⟩ := X0.specialBack hx (y := oM16) rfl hown (mvT hZ (own_w hw 13 rfl)) (mvT hZ (own_w hw 14 rfl)) (mvT hZ (own_w hw 18 rfl)) (by decide) (backOf (W := 0) (rm3 l Z a0 hw [] a1 h0 n0 (Nat.le_trans Z0 (Keep.refl h0 [a1]).1) ) hZ (own_w hw 18 rfl) (own_w hw 17 rfl) (by decide) (by decide)) (g := (mkF m 1 #[.val (.ref a1)] [(.ref a1)])) rfl (by rw [hml]; rfl) (Steps.refl _) (a := a1) (argsL := []) (rest := []) (lenOf pd0 rfl) rfl (by show 2 * 0 + _ ≤ _; exact Nat.le_of_eq rfl) (hb hby d2_1) (fun _ _ => ⟨rfl, e0, (by decide : 0 + 0 ≤ _), (by decide : 0 + 0 ≤ _)⟩)
 dsimp only [Pt.U, Pt.locs, Pt.cells, Pt.slots] at X102 l102 y102 z102 st102 hQ102
 subst l102 y102 z102
 obtain ⟨rfl, N102q, q102_hh⟩ := hQ102
 have N102 := Fr.app N0 N102q
 have p103 : GF p e below _ T102 m 6 #[.val (.ref a1)] [(.int 0), (.ref a1)] := fun t_ k_ => (gcT p101 st102) t_ (by
  refine XS.aloadN X102.here hx rfl (hb hby d2_4) rfl rfl ?_
  refine XS.iconst X102.here hx rfl (hb hby d2_5) ?_
  exact k_)
 obtain ⟨T104, h104, X104, e104, W104, st104⟩ := putF X102 hx hZ hown (host := "") (Or.inl (own_w hw 22 rfl)) Via.refl q102_hh F1 F0 (Or.inl (own_w hw 23 rfl)) (own_w hw 2 rfl) (ty := .int) (by decide) rfl rfl (g := (mkF m 6 #[.val (.ref a1)] [(.int 0), (.ref a1)])) rfl rfl (hb hby d2_6)
 have K105 : Keep h0 h104 [a1] := (Keep.refl h0 [a1]).wr W104 (Or.inl (List.mem_of_getElem? (i := 0) rfl))
 have N104 := Fr.snoc X104 N102 g1
 have F104 : Fld Z h104 a1 "java/util/AbstractList" "modCount" "I" (.int 0) := F1.same W104
 have f106 := (F0.wr W104)
 have f107 := (F2.other W104 (Or.inr (slot_ne (Or.inl (own_w hw 26 rfl)) (Or.inl (own_w hw 23 rfl)) (by decide) (t := (.array (.object "java/lang/Object"))) (t' := .int) (by decide) (by decide))))
 have f108 := (F3.other W104 (Or.inr (slot_ne (Or.inl (own_w hw 65 rfl)) (Or.inl (own_w hw 23 rfl)) (by decide) (t := .int) (t' := .int) (by decide) (by decide))))
 obtain ⟨fs, hr, hrun, hended, hW, hsame⟩ := X104.leave (v := none) (fun _ => rfl)
 refine ⟨_, _, (gc p103 st104) _ (X104.returnOut hx Bd.returns (hb hby d2_9) hr), hrun, hended, _, _, rfl, ?_, ⟨_, rfl⟩, hW, hsame.mono (by decide) (by decide)⟩
 show Q2 Z a1 h0 n0 _ T104.heap _
 rw [e104]
 exact ⟨rfl, N104, K105, f106, F104, f107, f108⟩
theorem d1_0 : decode jdk_38_method_2_code 0 = .ok (.aload_n 0, 1) := by decide +kernel
theorem d1_1 : decode jdk_38_method_2_code 1 = .ok (.invokespecial 1, 3) := by decide +kernel
theorem d1_4 : decode jdk_38_method_2_code 4 = .ok (.aload_n 0, 1) := by decide +kernel
theorem d1_5 : decode jdk_38_method_2_code 5 = .ok (.getstatic 39, 3) := by decide +kernel
theorem d1_8 : decode jdk_38_method_2_code 8 = .ok (.putfield 9, 3) := by decide +kernel
theorem d1_11 : decode jdk_38_method_2_code 11 = .ok (.return_, 1) := by decide +kernel
theorem pn1 : plainFor (⟨"java/util/ArrayList", "<init>", "()V"⟩ : MethodName) = true := plainFor_of_name (by first | (simp [plainName, overriddenIn]; done) | decide +kernel)
theorem ef_rm1 (m : MethodId) (a1 : Addr) (de : Addr) (kde : ClassId) (el : Addr) (ea : Addr) (kea : ClassId) (em : Addr) (mr : Addr) : entryFrame m #[(.ref a1)] 1 = mkF m 0 #[.val (.ref a1)] [] := by first | (simp [entryFrame, mkF, argsToLocals, Value.category]; done) | rfl
def Q1 (Z : State) (a1 : Addr) (de : Addr) (kde : ClassId) (el : Addr) (ea : Addr) (kea : ClassId) (em : Addr) (mr : Addr) (h0 : Heap) (n0 : Nat) (v : Option Value) (h : Heap) (L : List Loc) : Prop := v = none ∧ Fr n0 L ∧ (Keep h0 h [a1]) ∧ (Exa Z h a1 "java/util/ArrayList") ∧ (Fld Z h a1 "java/util/AbstractList" "modCount" "I" (.int 0)) ∧ (Fld Z h a1 "java/util/ArrayList" "elementData" "[Ljava/lang/Object;" (.ref de)) ∧ (Fld Z h a1 "java/util/ArrayList" "size" "I" (.int 0))
set_option maxRecDepth 65536 in
set_option maxHeartbeats 40000000 in
theorem rm1 (l : Launch) (Z : State) (a0 : Array Value) (hw : ∀ d ∈ tables_1, d.before a0 Z = true) (ws : List Jvm.Cond) (a1 : Addr) (de : Addr) (kde : ClassId) (el : Addr) (ea : Addr) (kea : ClassId) (em : Addr) (mr : Addr) (h0 : Heap) (n0 : Nat) (Z0 : n0 ≤ h0.size) (O1 : Old Z n0 h0) (G : own_H Z de kde el ea kea em mr) (F0 : Exa Z h0 a1 "java/util/ArrayList") (F1 : Fld Z h0 a1 "java/util/AbstractList" "modCount" "I" (.int 0)) (F2 : Fld Z h0 a1 "java/util/ArrayList" "elementData" "[Ljava/lang/Object;" .null) (F3 : Fld Z h0 a1 "java/util/ArrayList" "size" "I" (.int 0)) (g1 : n0 ≤ a1) :
  MetFree l oM18 (head1 (Jvm.Cond.code oM18 jdk_38_method_2_code 1 none :: ws) ({ frames := 3, cells := 0, slots := 0, locals := 36 } : Room)) (fun a U => a = #[(.ref a1)] ∧ Z.Warmed39 U.vm ∧ U.heap = h0) (fun _ _ _ _ _ => True) (fun _ U o U' => ∃ v L, o = .returned v ∧ Q1 Z a1 de kde el ea kea em mr h0 n0 v U'.heap L ∧ FrameEnd U o U' L ({ frames := 3, cells := 0, slots := 0, locals := 36 } : Room).cells ({ frames := 3, cells := 0, slots := 0, locals := 36 } : Room).slots) := by
 refine MetFree.of_bodySF pn1 hisR ?_
 intro p e s m args below meth c s₁ Bd hml0 hP hK
 obtain ⟨rfl, hZ, hh⟩ := hP
 have hx := Bd.exec
 have hby := Bd.bytes
 have hml : c.maxLocals = 1 := hml0
 have hown : s.vm.findClass "java/util/ArrayList" = some m.cls := findClass_of_methodNamed Bd.named
 have hnm := (name_of_methodNamed Bd.named Bd.method).1
 have X0 : Stand p l e ({ frames := 3, cells := 0, slots := 0, locals := 36 } : Room) s m #[(.ref a1)] below meth c s₁ [] 0 0 := Stand.of_body Bd
 have e0 : s₁.heap = h0 := by rw [← hh, Bd.state]; rfl
 have N0 := Fr.nil n0
 have p0 : GF p e below (s₁.setTop (entryFrame m #[(.ref a1)] 1)) s₁ m 0 #[.val (.ref a1)] [] := fun t_ k_ => castTop (ef_rm1 m a1 de kde el ea kea em mr) k_
 have p101 : GF p e below _ s₁ m 1 #[.val (.ref a1)] [(.ref a1)] := fun t_ k_ => p0 t_ (by
  refine XS.aloadN X0.here hx rfl (hb hby d1_0) rfl rfl ?_
  exact k_)
 obtain ⟨_, _, ⟨T102, L102, k102, n102⟩, -, X102, ⟨Lc102, hQ102, l102, y102, z102⟩, st102⟩ := X0.specialBack hx (y := oM17) rfl hown (mvT hZ (own_w hw 7 rfl)) (mvT hZ (own_w hw 8 rfl)) (mvT hZ (own_w hw 12 rfl)) (by decide) (backOf (W := 0) (rm2 l Z a0 hw [] a1 h0 n0 (Nat.le_trans Z0 (Keep.refl h0 [a1]).1) F0 F1 F2 F3 g1) hZ (own_w hw 12 rfl) (own_w hw 11 rfl) (by decide) (by decide)) (g := (mkF m 1 #[.val (.ref a1)] [(.ref a1)])) rfl (by rw [hml]; rfl) (Steps.refl _) (a := a1) (argsL := []) (rest := []) (lenOf pd0 rfl) rfl (by show 2 * 0 + _ ≤ _; exact Nat.le_of_eq rfl) (hb hby d1_1) (fun _ _ => ⟨rfl, e0, (by decide : 0 + 0 ≤ _), (by decide : 0 + 0 ≤ _)⟩)
 dsimp only [Pt.U, Pt.locs, Pt.cells, Pt.slots] at X102 l102 y102 z102 st102 hQ102
 subst l102 y102 z102
 obtain ⟨rfl, N102q, q102_K, q102_F0, q102_F1, q102_F2, q102_F3⟩ := hQ102
 have N102 := Fr.app N0 N102q
 have K103 : Keep h0 T102.heap [a1] := (Keep.refl h0 [a1]).trans q102_K (allS (Or.inl (List.mem_of_getElem? (i := 0) rfl)) all0)
 have f104 := (O1.keep q102_K (allS g1 all0))
 have p105 : GF p e below _ T102 m 5 #[.val (.ref a1)] [(.ref a1)] := fun t_ k_ => (gcT p101 st102) t_ (by
  refine XS.aloadN X102.here hx rfl (hb hby d1_4) rfl rfl ?_
  exact k_)
 obtain ⟨T106, X106, e106, st106⟩ := getS2 X102 hx hZ hown (host := "") (Or.inl (own_w hw 24 rfl)) Via.refl rfl (G.1.ext f104.2) (g := (mkF m 5 #[.val (.ref a1)] [(.ref a1)])) rfl (hb hby d1_5)
 obtain ⟨T107, h107, X107, e107, W107, st107⟩ := putF X106 hx hZ hown (host := "") (Or.inl (own_w hw 25 rfl)) Via.refl e106 q102_F2 q102_F0 (Or.inl (own_w hw 26 rfl)) (own_w hw 2 rfl) (ty := (.array (.object "java/lang/Object"))) (by decide) rfl rfl (g := (mkF m 8 #[.val (.ref a1)] [(.ref de), (.ref a1)])) rfl rfl (hb hby d1_8)
 have K108 : Keep h0 h107 [a1] := K103.wr W107 (Or.inl (List.mem_of_getElem? (i := 0) rfl))
 have N107 := Fr.snoc X107 N102 g1
 have F107 : Fld Z h107 a1 "java/util/ArrayList" "elementData" "[Ljava/lang/Object;" (.ref de) := q102_F2.same W107
 have f109 := (q102_F0.wr W107)
 have f110 := (q102_F1.other W107 (Or.inr (slot_ne (Or.inl (own_w hw 23 rfl)) (Or.inl (own_w hw 26 rfl)) (by decide) (t := .int) (t' := (.array (.object "java/lang/Object"))) (by decide) (by decide))))
 have f111 := (q102_F3.other W107 (Or.inr (slot_ne (Or.inl (own_w hw 65 rfl)) (Or.inl (own_w hw 26 rfl)) (by decide) (t := .int) (t' := (.array (.object "java/lang/Object"))) (by decide) (by decide))))
 obtain ⟨fs, hr, hrun, hended, hW, hsame⟩ := X107.leave (v := none) (fun _ => rfl)
 refine ⟨_, _, (gc (gc p105 st106) st107) _ (X107.returnOut hx Bd.returns (hb hby d1_11) hr), hrun, hended, _, _, rfl, ?_, ⟨_, rfl⟩, hW, hsame.mono (by decide) (by decide)⟩
 show Q1 Z a1 de kde el ea kea em mr h0 n0 _ T107.heap _
 rw [e107]
 exact ⟨rfl, N107, K108, f109, f110, F107, f111⟩
theorem d10_0 : decode jdk_29_method_65_code 0 = .ok (.iload_n 0, 1) := by decide +kernel
theorem d10_1 : decode jdk_29_method_65_code 1 = .ok (.iload_n 1, 1) := by decide +kernel
theorem d10_2 : decode jdk_29_method_65_code 2 = .ok (.if_icmp .lt 7, 3) := by decide +kernel
theorem d10_5 : decode jdk_29_method_65_code 5 = .ok (.iload_n 0, 1) := by decide +kernel
theorem d10_6 : decode jdk_29_method_65_code 6 = .ok (.goto 4, 3) := by decide +kernel
theorem d10_10 : decode jdk_29_method_65_code 10 = .ok (.ireturn, 1) := by decide +kernel
theorem pn10 : plainFor (⟨"java/lang/Math", "max", "(II)I"⟩ : MethodName) = true := by decide +kernel
theorem ef_rm10 (m : MethodId)  : entryFrame m #[(.int 10), (.int 1)] 2 = mkF m 0 #[.val (.int 10), .val (.int 1)] [] := by first | (simp [entryFrame, mkF, argsToLocals, Value.category]; done) | rfl
def Q10 (Z : State)  (h0 : Heap) (n0 : Nat) (v : Option Value) (h : Heap) (L : List Loc) : Prop := v = some (.int 10) ∧ Fr n0 L ∧ (h = h0)
set_option maxRecDepth 65536 in
set_option maxHeartbeats 40000000 in
theorem rm10 (l : Launch) (Z : State) (a0 : Array Value) (hw : ∀ d ∈ tables_1, d.before a0 Z = true) (ws : List Jvm.Cond)  (h0 : Heap) (n0 : Nat) (Z0 : n0 ≤ h0.size) :
  MetFree l oM14 (head1 (Jvm.Cond.code oM14 jdk_29_method_65_code 2 (some .int) :: ws) ({ frames := 0, cells := 0, slots := 0, locals := 0 } : Room)) (fun a U => a = #[(.int 10), (.int 1)] ∧ Z.Warmed39 U.vm ∧ U.heap = h0) (fun _ _ _ _ _ => True) (fun _ U o U' => ∃ v L, o = .returned v ∧ Q10 Z  h0 n0 v U'.heap L ∧ FrameEnd U o U' L ({ frames := 0, cells := 0, slots := 0, locals := 0 } : Room).cells ({ frames := 0, cells := 0, slots := 0, locals := 0 } : Room).slots) := by
 refine MetFree.of_bodySF pn10 hisR ?_
 intro p e s m args below meth c s₁ Bd hml0 hP hK
 obtain ⟨rfl, hZ, hh⟩ := hP
 have hx := Bd.exec
 have hby := Bd.bytes
 have hml : c.maxLocals = 2 := hml0
 have hown : s.vm.findClass "java/lang/Math" = some m.cls := findClass_of_methodNamed Bd.named
 have hnm := (name_of_methodNamed Bd.named Bd.method).1
 have X0 : Stand p l e ({ frames := 0, cells := 0, slots := 0, locals := 0 } : Room) s m #[(.int 10), (.int 1)] below meth c s₁ [] 0 0 := Stand.of_body Bd
 have e0 : s₁.heap = h0 := by rw [← hh, Bd.state]; rfl
 have N0 := Fr.nil n0
 have p0 : GF p e below (s₁.setTop (entryFrame m #[(.int 10), (.int 1)] 2)) s₁ m 0 #[.val (.int 10), .val (.int 1)] [] := fun t_ k_ => castTop (ef_rm10 m ) k_
 have p101 : GF p e below _ s₁ m 10 #[.val (.int 10), .val (.int 1)] [(.int 10)] := fun t_ k_ => p0 t_ (by
  refine XS.iloadN X0.here hx rfl (hb hby d10_0) rfl ?_
  refine XS.iloadN X0.here hx rfl (hb hby d10_1) rfl ?_
  refine XS.icmpNo X0.here hx rfl (hb hby d10_2) rfl (flt (by decide : ¬ ((10 : Int32) < (1 : Int32)))).1 ?_
  refine XS.iloadN X0.here hx rfl (hb hby d10_5) rfl ?_
  refine XS.goto X0.here hx rfl (pc0 := 6) (pc' := 10) rfl (hb hby d10_6) (by decide) (by decide) ?_
  exact k_)
 obtain ⟨fs, hr, hrun, hended, hW, hsame⟩ := X0.leave (v := some (.int 10)) (fun h => by rw [Bd.returns] at h; cases h)
 refine ⟨_, _, p101 _ (retI X0 hx Bd.returns (hb hby d10_10) hr), hrun, hended, _, _, rfl, ?_, ⟨_, rfl⟩, hW, hsame.mono (by decide) (by decide)⟩
 show Q10 Z  h0 n0 _ s₁.heap _
 rw [e0]
 exact ⟨rfl, N0, rfl⟩
theorem d18_0 : decode jdk_29_method_69_code 0 = .ok (.iload_n 0, 1) := by decide +kernel
theorem d18_1 : decode jdk_29_method_69_code 1 = .ok (.iload_n 1, 1) := by decide +kernel
theorem d18_2 : decode jdk_29_method_69_code 2 = .ok (.if_icmp .gt 7, 3) := by decide +kernel
theorem d18_9 : decode jdk_29_method_69_code 9 = .ok (.iload_n 1, 1) := by decide +kernel
theorem d18_10 : decode jdk_29_method_69_code 10 = .ok (.ireturn, 1) := by decide +kernel
theorem pn18 : plainFor (⟨"java/lang/Math", "min", "(II)I"⟩ : MethodName) = true := by decide +kernel
theorem ef_rm18 (m : MethodId)  : entryFrame m #[(.int 10), (.int 2)] 2 = mkF m 0 #[.val (.int 10), .val (.int 2)] [] := by first | (simp [entryFrame, mkF, argsToLocals, Value.category]; done) | rfl
def Q18 (Z : State)  (h0 : Heap) (n0 : Nat) (v : Option Value) (h : Heap) (L : List Loc) : Prop := v = some (.int 2) ∧ Fr n0 L ∧ (h = h0)
set_option maxRecDepth 65536 in
set_option maxHeartbeats 40000000 in
theorem rm18 (l : Launch) (Z : State) (a0 : Array Value) (hw : ∀ d ∈ tables_1, d.before a0 Z = true) (ws : List Jvm.Cond)  (h0 : Heap) (n0 : Nat) (Z0 : n0 ≤ h0.size) :
  MetFree l oM15 (head1 (Jvm.Cond.code oM15 jdk_29_method_69_code 2 (some .int) :: ws) ({ frames := 0, cells := 0, slots := 0, locals := 0 } : Room)) (fun a U => a = #[(.int 10), (.int 2)] ∧ Z.Warmed39 U.vm ∧ U.heap = h0) (fun _ _ _ _ _ => True) (fun _ U o U' => ∃ v L, o = .returned v ∧ Q18 Z  h0 n0 v U'.heap L ∧ FrameEnd U o U' L ({ frames := 0, cells := 0, slots := 0, locals := 0 } : Room).cells ({ frames := 0, cells := 0, slots := 0, locals := 0 } : Room).slots) := by
 refine MetFree.of_bodySF pn18 hisR ?_
 intro p e s m args below meth c s₁ Bd hml0 hP hK
 obtain ⟨rfl, hZ, hh⟩ := hP
 have hx := Bd.exec
 have hby := Bd.bytes
 have hml : c.maxLocals = 2 := hml0
 have hown : s.vm.findClass "java/lang/Math" = some m.cls := findClass_of_methodNamed Bd.named
 have hnm := (name_of_methodNamed Bd.named Bd.method).1
 have X0 : Stand p l e ({ frames := 0, cells := 0, slots := 0, locals := 0 } : Room) s m #[(.int 10), (.int 2)] below meth c s₁ [] 0 0 := Stand.of_body Bd
 have e0 : s₁.heap = h0 := by rw [← hh, Bd.state]; rfl
 have N0 := Fr.nil n0
 have p0 : GF p e below (s₁.setTop (entryFrame m #[(.int 10), (.int 2)] 2)) s₁ m 0 #[.val (.int 10), .val (.int 2)] [] := fun t_ k_ => castTop (ef_rm18 m ) k_
 have p101 : GF p e below _ s₁ m 10 #[.val (.int 10), .val (.int 2)] [(.int 2)] := fun t_ k_ => p0 t_ (by
  refine XS.iloadN X0.here hx rfl (hb hby d18_0) rfl ?_
  refine XS.iloadN X0.here hx rfl (hb hby d18_1) rfl ?_
  refine XS.icmpYes X0.here hx rfl (pc0 := 2) (pc' := 9) rfl (hb hby d18_2) rfl (tlt (by decide : ((2 : Int32) < (10 : Int32)))).2.2.1 (by decide) (by decide) ?_
  refine XS.iloadN X0.here hx rfl (hb hby d18_9) rfl ?_
  exact k_)
 obtain ⟨fs, hr, hrun, hended, hW, hsame⟩ := X0.leave (v := some (.int 2)) (fun h => by rw [Bd.returns] at h; cases h)
 refine ⟨_, _, p101 _ (retI X0 hx Bd.returns (hb hby d18_10) hr), hrun, hended, _, _, rfl, ?_, ⟨_, rfl⟩, hW, hsame.mono (by decide) (by decide)⟩
 show Q18 Z  h0 n0 _ s₁.heap _
 rw [e0]
 exact ⟨rfl, N0, rfl⟩
theorem d9_0 : decode jdk_38_method_6_code 0 = .ok (.aload_n 0, 1) := by decide +kernel
theorem d9_1 : decode jdk_38_method_6_code 1 = .ok (.getfield 9, 3) := by decide +kernel
theorem d9_4 : decode jdk_38_method_6_code 4 = .ok (.arraylength, 1) := by decide +kernel
theorem d9_5 : decode jdk_38_method_6_code 5 = .ok (.istore_n 2, 1) := by decide +kernel
theorem d9_6 : decode jdk_38_method_6_code 6 = .ok (.iload_n 2, 1) := by decide +kernel
theorem d9_7 : decode jdk_38_method_6_code 7 = .ok (.ifCond .gt 13, 3) := by decide +kernel
theorem d9_10 : decode jdk_38_method_6_code 10 = .ok (.aload_n 0, 1) := by decide +kernel
theorem d9_11 : decode jdk_38_method_6_code 11 = .ok (.getfield 9, 3) := by decide +kernel
theorem d9_14 : decode jdk_38_method_6_code 14 = .ok (.getstatic 39, 3) := by decide +kernel
theorem d9_17 : decode jdk_38_method_6_code 17 = .ok (.if_acmp .eq 28, 3) := by decide +kernel
theorem d9_45 : decode jdk_38_method_6_code 45 = .ok (.aload_n 0, 1) := by decide +kernel
theorem d9_46 : decode jdk_38_method_6_code 46 = .ok (.bipush 10, 2) := by decide +kernel
theorem d9_48 : decode jdk_38_method_6_code 48 = .ok (.iload_n 1, 1) := by decide +kernel
theorem d9_49 : decode jdk_38_method_6_code 49 = .ok (.invokestatic 79, 3) := by decide +kernel
theorem d9_52 : decode jdk_38_method_6_code 52 = .ok (.anewarray 7, 3) := by decide +kernel
theorem d9_55 : decode jdk_38_method_6_code 55 = .ok (.dup_x1, 1) := by decide +kernel
theorem d9_56 : decode jdk_38_method_6_code 56 = .ok (.putfield 9, 3) := by decide +kernel
theorem d9_59 : decode jdk_38_method_6_code 59 = .ok (.areturn, 1) := by decide +kernel
theorem pd1 : parseMethodDescriptor "(II)I" = some ⟨[.int, .int], some .int⟩ := by decide +kernel
theorem pn9 : plainFor (⟨"java/util/ArrayList", "grow", "(I)[Ljava/lang/Object;"⟩ : MethodName) = true := plainFor_of_name (by first | (simp [plainName, overriddenIn]; done) | decide +kernel)
theorem ef_rm9 (m : MethodId) (a1 : Addr) (mc : Int32) (de : Addr) (kde : ClassId) (el : Addr) (ea : Addr) (kea : ClassId) (em : Addr) (mr : Addr) : entryFrame m #[(.ref a1), (.int 1)] 4 = mkF m 0 (oLRIu2 a1 1) [] := by first | (simp [entryFrame, mkF, argsToLocals, Value.category]; done) | rfl
def Q9 (Z : State) (a1 : Addr) (mc : Int32) (de : Addr) (kde : ClassId) (el : Addr) (ea : Addr) (kea : ClassId) (em : Addr) (mr : Addr) (h0 : Heap) (n0 : Nat) (v : Option Value) (h : Heap) (L : List Loc) : Prop := ∃ (b : Addr) (kb : ClassId), v = some (.ref b) ∧ Fr n0 L ∧ (Keep h0 h [a1]) ∧ (Exa Z h a1 "java/util/ArrayList") ∧ (Fld Z h a1 "java/util/AbstractList" "modCount" "I" (.int mc)) ∧ (Fld Z h a1 "java/util/ArrayList" "elementData" "[Ljava/lang/Object;" (.ref b)) ∧ (Fld Z h a1 "java/util/ArrayList" "size" "I" (.int 0)) ∧ (Arv Z h b kb (.object "java/lang/Object") (10 : Int32) [.null, .null, .null, .null, .null, .null, .null, .null, .null, .null] .null) ∧ (Exa Z h b "[Ljava/lang/Object;") ∧ (n0 ≤ b) ∧ (h0.size ≤ b) ∧ (a1 ≠ b) ∧ (Ovr Z kb "java/lang/Object")
set_option maxRecDepth 65536 in
set_option maxHeartbeats 40000000 in
theorem rm9 (l : Launch) (Z : State) (a0 : Array Value) (hw : ∀ d ∈ tables_1, d.before a0 Z = true) (ws : List Jvm.Cond) (a1 : Addr) (mc : Int32) (de : Addr) (kde : ClassId) (el : Addr) (ea : Addr) (kea : ClassId) (em : Addr) (mr : Addr) (h0 : Heap) (n0 : Nat) (Z0 : n0 ≤ h0.size) (O1 : Old Z n0 h0) (G : own_H Z de kde el ea kea em mr) (F0 : Exa Z h0 a1 "java/util/ArrayList") (F1 : Fld Z h0 a1 "java/util/AbstractList" "modCount" "I" (.int mc)) (F2 : Fld Z h0 a1 "java/util/ArrayList" "elementData" "[Ljava/lang/Object;" (.ref de)) (F3 : Fld Z h0 a1 "java/util/ArrayList" "size" "I" (.int 0)) (g1 : n0 ≤ a1) :
  MetFree l oM22 (head1 (Jvm.Cond.code oM22 jdk_38_method_6_code 4 (some (.array (.object "java/lang/Object"))) :: ws) ({ frames := 1, cells := 1, slots := 10, locals := 14 } : Room)) (fun a U => a = #[(.ref a1), (.int 1)] ∧ Z.Warmed39 U.vm ∧ U.heap = h0) (fun _ _ _ _ _ => True) (fun _ U o U' => ∃ v L, o = .returned v ∧ Q9 Z a1 mc de kde el ea kea em mr h0 n0 v U'.heap L ∧ FrameEnd U o U' L ({ frames := 1, cells := 1, slots := 10, locals := 14 } : Room).cells ({ frames := 1, cells := 1, slots := 10, locals := 14 } : Room).slots) := by
 refine MetFree.of_bodySF pn9 hisR ?_
 intro p e s m args below meth c s₁ Bd hml0 hP hK
 obtain ⟨rfl, hZ, hh⟩ := hP
 have hx := Bd.exec
 have hby := Bd.bytes
 have hml : c.maxLocals = 4 := hml0
 have hown : s.vm.findClass "java/util/ArrayList" = some m.cls := findClass_of_methodNamed Bd.named
 have hnm := (name_of_methodNamed Bd.named Bd.method).1
 have X0 : Stand p l e ({ frames := 1, cells := 1, slots := 10, locals := 14 } : Room) s m #[(.ref a1), (.int 1)] below meth c s₁ [] 0 0 := Stand.of_body Bd
 have e0 : s₁.heap = h0 := by rw [← hh, Bd.state]; rfl
 have N0 := Fr.nil n0
 have p0 : GF p e below (s₁.setTop (entryFrame m #[(.ref a1), (.int 1)] 4)) s₁ m 0 (oLRIu2 a1 1) [] := fun t_ k_ => castTop (ef_rm9 m a1 mc de kde el ea kea em mr) k_
 have p101 : GF p e below _ s₁ m 1 (oLRIu2 a1 1) [(.ref a1)] := fun t_ k_ => p0 t_ (by
  refine XS.aloadN X0.here hx rfl (hb hby d9_0) rfl rfl ?_
  exact k_)
 obtain ⟨T102, X102, e102, st102⟩ := getF X0 hx hZ hown (host := "") (Or.inl (own_w hw 25 rfl)) Via.refl e0 F2 (g := (mkF m 1 (oLRIu2 a1 1) [(.ref a1)])) rfl rfl (hb hby d9_1)
 obtain ⟨cl103, Ar103, -, S103, Ng103, -, -⟩ := id (G.2.2.1.ext O1.2)
 have p104 : GF p e below _ T102 m 11 (oLRI2u a1 1 0) [(.ref a1)] := fun t_ k_ => (gc p101 st102) t_ (by
  refine X102.arraylength hx (by rw [e102]; exact Ar103.1) (State.isArrayOf_alike hZ.alike Ar103.2.1) (g := (mkF m 4 (oLRIu2 a1 1) [(.ref de)])) rfl rfl (hb hby d9_4) _ ?_
  rw [len_of S103 Ng103]
  show Steps p.tables e below (T102.setTop (mkF m 5 (oLRIu2 a1 1) [(.int 0)])) _
  refine XS.istoreN X102.here hx rfl (hb hby d9_5) rfl (l' := (oLRI2u a1 1 0)) rfl ?_
  refine XS.iloadN X102.here hx rfl (hb hby d9_6) rfl ?_
  refine XS.ifNo X102.here hx rfl (hb hby d9_7) rfl ((if0 _ _).trans (flt (by decide : ¬ ((0 : Int32) < (0 : Int32)))).2.2.1) ?_
  refine XS.aloadN X102.here hx rfl (hb hby d9_10) rfl rfl ?_
  exact k_)
 obtain ⟨T105, X105, e105, st105⟩ := getF X102 hx hZ hown (host := "") (Or.inl (own_w hw 25 rfl)) Via.refl e102 F2 (g := (mkF m 11 (oLRI2u a1 1 0) [(.ref a1)])) rfl rfl (hb hby d9_11)
 obtain ⟨T106, X106, e106, st106⟩ := getS2 X105 hx hZ hown (host := "") (Or.inl (own_w hw 24 rfl)) Via.refl e105 (G.1.ext O1.2) (g := (mkF m 14 (oLRI2u a1 1 0) [(.ref de)])) rfl (hb hby d9_14)
 have p107 : GF p e below _ T106 m 49 (oLRI2u a1 1 0) [(.int 1), (.int 10), (.ref a1)] := fun t_ k_ => (gc (gc p104 st105) st106) t_ (by
  refine Jvm.RoadKit.acmp (g := (mkF m 17 (oLRI2u a1 1 0) [(.ref de), (.ref de)])) X106 hx rfl rfl rfl (pc0 := 17) (pc' := 45) (same := true) rfl (hb hby d9_17) rfl (decide_eq_true rfl) (by decide) (by decide) ?_
  refine XS.aloadN X106.here hx rfl (hb hby d9_45) rfl rfl ?_
  refine XS.bipush X106.here hx rfl (hb hby d9_46) ?_
  refine XS.iloadN X106.here hx rfl (hb hby d9_48) rfl ?_
  exact k_)
 obtain ⟨_, _, ⟨T108, L108, k108, n108⟩, -, X108, ⟨Lc108, hQ108, l108, y108, z108⟩, st108⟩ := Jvm.LawKit.callS X106 hx (y := oM14) hown (mvT hZ (own_w hw 81 rfl)) (mvT hZ (own_w hw 82 rfl)) (mvT hZ (own_w hw 83 rfl)) (mvT hZ (own_w hw 84 rfl)) (by decide) (backOf (W := 1) (rm10 l Z a0 hw []  h0 n0 (Nat.le_trans Z0 (Keep.refl h0 [a1]).1) ) hZ (own_w hw 84 rfl) (own_w hw 83 rfl) (by decide) (by decide)) (g := (mkF m 49 (oLRI2u a1 1 0) [(.int 1), (.int 10), (.ref a1)])) rfl (by rw [hml]; rfl) (argsL := [(.int 10), (.int 1)]) (rest := [(.ref a1)]) (lenOf pd1 rfl) rfl (by show 2 * 0 + _ ≤ _; exact Nat.le_of_eq rfl) (hb hby d9_49) (fun _ _ => ⟨rfl, e106, (by decide : 0 + 0 ≤ _), (by decide : 0 + 0 ≤ _)⟩)
 dsimp only [Pt.U, Pt.locs, Pt.cells, Pt.slots] at X108 l108 y108 z108 st108 hQ108
 subst l108 y108 z108
 obtain ⟨rfl, N108q, q108_hh⟩ := hQ108
 have N108 := Fr.app N0 N108q
 obtain ⟨T109, h109, k109, X109, e109, E109, A109, AE109, O109, st109⟩ := newRE X108 hx hZ hown (own_w hw 85 rfl) (own_w hw 86 rfl) q108_hh (g := (mkF m 52 (oLRI2u a1 1 0) [(.int 10), (.ref a1)])) rfl (hb hby d9_52) rfl (by decide) (cap := 10) (by decide) (by decide) (by decide) (by decide) (ad := "[Ljava/lang/Object;") (by decide)
 obtain ⟨b109, g109⟩ : ∃ z, z = h0.size := ⟨_, rfl⟩
 rw [← g109] at A109 AE109 st109
 have ne_a1_b109 : a1 ≠ b109 := Nat.ne_of_lt (Nat.lt_of_lt_of_le F0.lt (Nat.le_of_eq g109.symm))
 have ge_b109 : n0 ≤ b109 := Nat.le_trans (Nat.le_trans Z0 (Keep.refl h0 [a1]).1) (Nat.le_of_eq g109.symm)
 have sz_b109 : h0.size ≤ b109 := Nat.le_trans (Keep.refl h0 [a1]).1 (Nat.le_of_eq g109.symm)
 have K110 : Keep h0 h109 [a1] := (Keep.refl h0 [a1]).ext E109
 have V109 : Arv Z h109 b109 k109 (.object "java/lang/Object") (10 : Int32) [.null, .null, .null, .null, .null, .null, .null, .null, .null, .null] .null := (Arv.new A109 (by decide)).pad (pad_rep [] .null 10)
 have p111 : GF p e below _ T109 m 56 (oLRI2u a1 1 0) [(.ref b109), (.ref a1), (.ref b109)] := fun t_ k_ => (gc (gc p107 st108) st109) t_ (by
  refine XS.dupX1 X109.here hx rfl (hb hby d9_55) rfl rfl rfl ?_
  exact k_)
 have f112 := (F2.ext E109)
 have f113 := (F0.ext E109)
 obtain ⟨T114, h114, X114, e114, W114, st114⟩ := putF X109 hx hZ hown (host := "") (Or.inl (own_w hw 25 rfl)) Via.refl e109 f112 f113 (Or.inl (own_w hw 26 rfl)) (own_w hw 2 rfl) (ty := (.array (.object "java/lang/Object"))) (by decide) rfl rfl (g := (mkF m 56 (oLRI2u a1 1 0) [(.ref b109), (.ref a1), (.ref b109)])) rfl rfl (hb hby d9_56)
 have K115 : Keep h0 h114 [a1] := K110.wr W114 (Or.inl (List.mem_of_getElem? (i := 0) rfl))
 have N114 := Fr.snoc X114 N108 g1
 have F114 : Fld Z h114 a1 "java/util/ArrayList" "elementData" "[Ljava/lang/Object;" (.ref b109) := f112.same W114
 have f116 := (f113.wr W114)
 have f117 := ((F1.ext E109).other W114 (Or.inr (slot_ne (Or.inl (own_w hw 23 rfl)) (Or.inl (own_w hw 26 rfl)) (by decide) (t := .int) (t' := (.array (.object "java/lang/Object"))) (by decide) (by decide))))
 have f118 := ((F3.ext E109).other W114 (Or.inr (slot_ne (Or.inl (own_w hw 65 rfl)) (Or.inl (own_w hw 26 rfl)) (by decide) (t := .int) (t' := (.array (.object "java/lang/Object"))) (by decide) (by decide))))
 have f119 := (V109.other W114 (Ne.symm ne_a1_b109))
 have f120 := (AE109.wr W114)
 obtain ⟨fs, hr, hrun, hended, hW, hsame⟩ := X114.leave (v := some (.ref b109)) (fun h => by rw [Bd.returns] at h; cases h)
 refine ⟨_, _, (gc p111 st114) _ (retOut X114 hx (w := (.ref b109)) (i := .areturn) Bd.returns rfl (Or.inr (Or.inr (Or.inr (Or.inr ⟨rfl, rfl, rfl⟩)))) (hb hby d9_59) hr), hrun, hended, _, _, rfl, ?_, ⟨_, rfl⟩, hW, hsame.mono (by decide) (by decide)⟩
 show Q9 Z a1 mc de kde el ea kea em mr h0 n0 _ T114.heap _
 rw [e114]
 exact ⟨b109, k109, rfl, N114, K115, f116, f117, F114, f118, f119, f120, ge_b109, sz_b109, ne_a1_b109, O109⟩
theorem d8_0 : decode jdk_38_method_7_code 0 = .ok (.aload_n 0, 1) := by decide +kernel
theorem d8_1 : decode jdk_38_method_7_code 1 = .ok (.aload_n 0, 1) := by decide +kernel
theorem d8_2 : decode jdk_38_method_7_code 2 = .ok (.getfield 48, 3) := by decide +kernel
theorem d8_5 : decode jdk_38_method_7_code 5 = .ok (.iconst 1, 1) := by decide +kernel
theorem d8_6 : decode jdk_38_method_7_code 6 = .ok (.iadd, 1) := by decide +kernel
theorem d8_7 : decode jdk_38_method_7_code 7 = .ok (.invokevirtual 69, 3) := by decide +kernel
theorem d8_10 : decode jdk_38_method_7_code 10 = .ok (.areturn, 1) := by decide +kernel
theorem pd2 : parseMethodDescriptor "(I)[Ljava/lang/Object;" = some ⟨[.int], some (.array (.object "java/lang/Object"))⟩ := by decide +kernel
theorem pn8 : plainFor (⟨"java/util/ArrayList", "grow", "()[Ljava/lang/Object;"⟩ : MethodName) = true := plainFor_of_name (by first | (simp [plainName, overriddenIn]; done) | decide +kernel)
theorem ef_rm8 (m : MethodId) (a1 : Addr) (mc : Int32) (de : Addr) (kde : ClassId) (el : Addr) (ea : Addr) (kea : ClassId) (em : Addr) (mr : Addr) : entryFrame m #[(.ref a1)] 1 = mkF m 0 #[.val (.ref a1)] [] := by first | (simp [entryFrame, mkF, argsToLocals, Value.category]; done) | rfl
def Q8 (Z : State) (a1 : Addr) (mc : Int32) (de : Addr) (kde : ClassId) (el : Addr) (ea : Addr) (kea : ClassId) (em : Addr) (mr : Addr) (h0 : Heap) (n0 : Nat) (v : Option Value) (h : Heap) (L : List Loc) : Prop := ∃ (b : Addr) (kb : ClassId), v = some (.ref b) ∧ Fr n0 L ∧ (Keep h0 h [a1]) ∧ (Exa Z h a1 "java/util/ArrayList") ∧ (Fld Z h a1 "java/util/AbstractList" "modCount" "I" (.int mc)) ∧ (Fld Z h a1 "java/util/ArrayList" "elementData" "[Ljava/lang/Object;" (.ref b)) ∧ (Fld Z h a1 "java/util/ArrayList" "size" "I" (.int 0)) ∧ (Arv Z h b kb (.object "java/lang/Object") (10 : Int32) [.null, .null, .null, .null, .null, .null, .null, .null, .null, .null] .null) ∧ (Exa Z h b "[Ljava/lang/Object;") ∧ (n0 ≤ b) ∧ (h0.size ≤ b) ∧ (a1 ≠ b) ∧ (Ovr Z kb "java/lang/Object")
set_option maxRecDepth 65536 in
set_option maxHeartbeats 40000000 in
theorem rm8 (l : Launch) (Z : State) (a0 : Array Value) (hw : ∀ d ∈ tables_1, d.before a0 Z = true) (ws : List Jvm.Cond) (a1 : Addr) (mc : Int32) (de : Addr) (kde : ClassId) (el : Addr) (ea : Addr) (kea : ClassId) (em : Addr) (mr : Addr) (h0 : Heap) (n0 : Nat) (Z0 : n0 ≤ h0.size) (O1 : Old Z n0 h0) (G : own_H Z de kde el ea kea em mr) (F0 : Exa Z h0 a1 "java/util/ArrayList") (F1 : Fld Z h0 a1 "java/util/AbstractList" "modCount" "I" (.int mc)) (F2 : Fld Z h0 a1 "java/util/ArrayList" "elementData" "[Ljava/lang/Object;" (.ref de)) (F3 : Fld Z h0 a1 "java/util/ArrayList" "size" "I" (.int 0)) (g1 : n0 ≤ a1) :
  MetFree l oM21 (head1 (Jvm.Cond.code oM21 jdk_38_method_7_code 1 (some (.array (.object "java/lang/Object"))) :: ws) ({ frames := 2, cells := 1, slots := 10, locals := 29 } : Room)) (fun a U => a = #[(.ref a1)] ∧ Z.Warmed39 U.vm ∧ U.heap = h0) (fun _ _ _ _ _ => True) (fun _ U o U' => ∃ v L, o = .returned v ∧ Q8 Z a1 mc de kde el ea kea em mr h0 n0 v U'.heap L ∧ FrameEnd U o U' L ({ frames := 2, cells := 1, slots := 10, locals := 29 } : Room).cells ({ frames := 2, cells := 1, slots := 10, locals := 29 } : Room).slots) := by
 refine MetFree.of_bodySF pn8 hisR ?_
 intro p e s m args below meth c s₁ Bd hml0 hP hK
 obtain ⟨rfl, hZ, hh⟩ := hP
 have hx := Bd.exec
 have hby := Bd.bytes
 have hml : c.maxLocals = 1 := hml0
 have hown : s.vm.findClass "java/util/ArrayList" = some m.cls := findClass_of_methodNamed Bd.named
 have hnm := (name_of_methodNamed Bd.named Bd.method).1
 have X0 : Stand p l e ({ frames := 2, cells := 1, slots := 10, locals := 29 } : Room) s m #[(.ref a1)] below meth c s₁ [] 0 0 := Stand.of_body Bd
 have e0 : s₁.heap = h0 := by rw [← hh, Bd.state]; rfl
 have N0 := Fr.nil n0
 have p0 : GF p e below (s₁.setTop (entryFrame m #[(.ref a1)] 1)) s₁ m 0 #[.val (.ref a1)] [] := fun t_ k_ => castTop (ef_rm8 m a1 mc de kde el ea kea em mr) k_
 have p101 : GF p e below _ s₁ m 2 #[.val (.ref a1)] [(.ref a1), (.ref a1)] := fun t_ k_ => p0 t_ (by
  refine XS.aloadN X0.here hx rfl (hb hby d8_0) rfl rfl ?_
  refine XS.aloadN X0.here hx rfl (hb hby d8_1) rfl rfl ?_
  exact k_)
 obtain ⟨T102, X102, e102, st102⟩ := getF X0 hx hZ hown (host := "") (Or.inl (own_w hw 64 rfl)) Via.refl e0 F3 (g := (mkF m 2 #[.val (.ref a1)] [(.ref a1), (.ref a1)])) rfl rfl (hb hby d8_2)
 have p103 : GF p e below _ T102 m 7 #[.val (.ref a1)] [(.int 1), (.ref a1)] := fun t_ k_ => (gc p101 st102) t_ (by
  refine XS.iconst X102.here hx rfl (hb hby d8_5) ?_
  refine XS.iadd X102.here hx rfl (hb hby d8_6) rfl ?_
  exact k_)
 obtain ⟨cq104, q104, q104'⟩ := F0.cell
 obtain ⟨_, _, ⟨T104, L104, k104, n104⟩, -, X104, ⟨Lc104, hQ104, l104, y104, z104⟩, st104⟩ := X102.privateBack hx (y := oM22) hown (mvT hZ (own_w hw 76 rfl)) (mvT hZ (own_w hw 77 rfl)) (mvT hZ (own_w hw 79 rfl)) (Cond.privateMethod_at (mvP hZ (own_w hw 78 rfl) (args := #[]))) (mvT hZ (own_w hw 80 rfl)) (by decide) (backOf (W := 0) (rm9 l Z a0 hw [] a1 mc de kde el ea kea em mr h0 n0 (Nat.le_trans Z0 (Keep.refl h0 [a1]).1) O1 G F0 F1 F2 F3 g1) hZ (own_w hw 80 rfl) (own_w hw 3 rfl) (by decide) (by decide)) (g := (mkF m 7 #[.val (.ref a1)] [(.int 1), (.ref a1)])) rfl (by rw [hml]; rfl) (Steps.refl _) (a := a1) (by rw [e102]; exact q104) q104' (argsL := [(.int 1)]) (rest := []) (lenOf pd2 rfl) rfl (by show 2 * 0 + _ ≤ _; exact Nat.le_of_eq rfl) (hb hby d8_7) (fun _ _ => ⟨rfl, e102, (by decide : 0 + 1 ≤ _), (by decide : 0 + 10 ≤ _)⟩)
 dsimp only [Pt.U, Pt.locs, Pt.cells, Pt.slots] at X104 l104 y104 z104 st104 hQ104
 subst l104 y104 z104
 obtain ⟨x105, x106, rfl, N104q, q104_K, q104_F0, q104_F1, q104_F2, q104_F3, q104_V, q104_X, q104_g, q104_z, q104_n, q104_o⟩ := hQ104
 have N104 := Fr.app N0 N104q
 have K107 : Keep h0 T104.heap [a1] := (Keep.refl h0 [a1]).trans q104_K (allS (Or.inl (List.mem_of_getElem? (i := 0) rfl)) all0)
 have ne_a1_x105 : a1 ≠ x105 := Nat.ne_of_lt (Nat.lt_of_lt_of_le F0.lt q104_z)
 obtain ⟨fs, hr, hrun, hended, hW, hsame⟩ := X104.leave (v := some (.ref x105)) (fun h => by rw [Bd.returns] at h; cases h)
 refine ⟨_, _, (gcT p103 st104) _ (retOut X104 hx (w := (.ref x105)) (i := .areturn) Bd.returns rfl (Or.inr (Or.inr (Or.inr (Or.inr ⟨rfl, rfl, rfl⟩)))) (hb hby d8_10) hr), hrun, hended, _, _, rfl, ?_, ⟨_, rfl⟩, hW, hsame.mono (by decide) (by decide)⟩
 show Q8 Z a1 mc de kde el ea kea em mr h0 n0 _ T104.heap _
 exact ⟨x105, x106, rfl, N104, K107, q104_F0, q104_F1, q104_F2, q104_F3, q104_V, q104_X, q104_g, (Nat.le_trans (Keep.refl h0 [a1]).1 q104_z), q104_n, q104_o⟩
theorem d7_0 : decode jdk_38_method_24_code 0 = .ok (.iload_n 3, 1) := by decide +kernel
theorem d7_1 : decode jdk_38_method_24_code 1 = .ok (.aload_n 2, 1) := by decide +kernel
theorem d7_2 : decode jdk_38_method_24_code 2 = .ok (.arraylength, 1) := by decide +kernel
theorem d7_3 : decode jdk_38_method_24_code 3 = .ok (.if_icmp .ne 8, 3) := by decide +kernel
theorem d7_6 : decode jdk_38_method_24_code 6 = .ok (.aload_n 0, 1) := by decide +kernel
theorem d7_7 : decode jdk_38_method_24_code 7 = .ok (.invokevirtual 129, 3) := by decide +kernel
theorem d7_10 : decode jdk_38_method_24_code 10 = .ok (.astore_n 2, 1) := by decide +kernel
theorem d7_11 : decode jdk_38_method_24_code 11 = .ok (.aload_n 2, 1) := by decide +kernel
theorem d7_12 : decode jdk_38_method_24_code 12 = .ok (.iload_n 3, 1) := by decide +kernel
theorem d7_13 : decode jdk_38_method_24_code 13 = .ok (.aload_n 1, 1) := by decide +kernel
theorem d7_14 : decode jdk_38_method_24_code 14 = .ok (.aastore, 1) := by decide +kernel
theorem d7_15 : decode jdk_38_method_24_code 15 = .ok (.aload_n 0, 1) := by decide +kernel
theorem d7_16 : decode jdk_38_method_24_code 16 = .ok (.iload_n 3, 1) := by decide +kernel
theorem d7_17 : decode jdk_38_method_24_code 17 = .ok (.iconst 1, 1) := by decide +kernel
theorem d7_18 : decode jdk_38_method_24_code 18 = .ok (.iadd, 1) := by decide +kernel
theorem d7_19 : decode jdk_38_method_24_code 19 = .ok (.putfield 48, 3) := by decide +kernel
theorem d7_22 : decode jdk_38_method_24_code 22 = .ok (.return_, 1) := by decide +kernel
theorem pd3 : parseMethodDescriptor "()[Ljava/lang/Object;" = some ⟨[], some (.array (.object "java/lang/Object"))⟩ := by decide +kernel
theorem pn7 : plainFor (⟨"java/util/ArrayList", "add", "(Ljava/lang/Object;[Ljava/lang/Object;I)V"⟩ : MethodName) = true := plainFor_of_name (by first | (simp [plainName, overriddenIn]; done) | decide +kernel)
theorem ef_rm7_0 (m : MethodId) (a1 : Addr) (a2 : Addr) (mc : Int32) (de : Addr) (kde : ClassId) (el : Addr) (ea : Addr) (kea : ClassId) (em : Addr) (mr : Addr) : entryFrame m #[(.ref a1), (.ref a2), (.ref de), (.int 0)] 4 = mkF m 0 (oLR3I a1 a2 de 0) [] := by first | (simp [entryFrame, mkF, argsToLocals, Value.category]; done) | rfl
def Q7_0 (Z : State) (a1 : Addr) (a2 : Addr) (mc : Int32) (de : Addr) (kde : ClassId) (el : Addr) (ea : Addr) (kea : ClassId) (em : Addr) (mr : Addr) (h0 : Heap) (n0 : Nat) (v : Option Value) (h : Heap) (L : List Loc) : Prop := ∃ (b : Addr) (kb : ClassId), v = none ∧ Fr n0 L ∧ (Keep h0 h [a1]) ∧ (Exa Z h a1 "java/util/ArrayList") ∧ (Fld Z h a1 "java/util/AbstractList" "modCount" "I" (.int mc)) ∧ (Fld Z h a1 "java/util/ArrayList" "elementData" "[Ljava/lang/Object;" (.ref b)) ∧ (Fld Z h a1 "java/util/ArrayList" "size" "I" (.int 1)) ∧ (Arv Z h b kb (.object "java/lang/Object") (10 : Int32) [(.ref a2), .null, .null, .null, .null, .null, .null, .null, .null, .null] .null) ∧ (Exa Z h b "[Ljava/lang/Object;") ∧ (n0 ≤ b) ∧ (h0.size ≤ b) ∧ (a1 ≠ b) ∧ (Ovr Z kb "java/lang/Object")
set_option maxRecDepth 65536 in
set_option maxHeartbeats 40000000 in
theorem rm7_0 (l : Launch) (Z : State) (a0 : Array Value) (hw : ∀ d ∈ tables_1, d.before a0 Z = true) (ws : List Jvm.Cond) (a1 : Addr) (a2 : Addr) (mc : Int32) (de : Addr) (kde : ClassId) (el : Addr) (ea : Addr) (kea : ClassId) (em : Addr) (mr : Addr) (h0 : Heap) (n0 : Nat) (Z0 : n0 ≤ h0.size) (O1 : Old Z n0 h0) (G : own_H Z de kde el ea kea em mr) (F0 : Exa Z h0 a1 "java/util/ArrayList") (F1 : Fld Z h0 a1 "java/util/AbstractList" "modCount" "I" (.int mc)) (F2 : Fld Z h0 a1 "java/util/ArrayList" "elementData" "[Ljava/lang/Object;" (.ref de)) (F3 : Fld Z h0 a1 "java/util/ArrayList" "size" "I" (.int 0)) (g1 : n0 ≤ a1) (X2 : Exa Z h0 a2 "com/example/arcward/arcward/model/Variable") (n2 : a1 ≠ a2) :
  MetFree l oM20 (head1 (Jvm.Cond.code oM20 jdk_38_method_24_code 4 none :: ws) ({ frames := 3, cells := 1, slots := 10, locals := 41 } : Room)) (fun a U => a = #[(.ref a1), (.ref a2), (.ref de), (.int 0)] ∧ Z.Warmed39 U.vm ∧ U.heap = h0) (fun _ _ _ _ _ => True) (fun _ U o U' => ∃ v L, o = .returned v ∧ Q7_0 Z a1 a2 mc de kde el ea kea em mr h0 n0 v U'.heap L ∧ FrameEnd U o U' L ({ frames := 3, cells := 1, slots := 10, locals := 41 } : Room).cells ({ frames := 3, cells := 1, slots := 10, locals := 41 } : Room).slots) := by
 refine MetFree.of_bodySF pn7 hisR ?_
 intro p e s m args below meth c s₁ Bd hml0 hP hK
 obtain ⟨rfl, hZ, hh⟩ := hP
 have hx := Bd.exec
 have hby := Bd.bytes
 have hml : c.maxLocals = 4 := hml0
 have hown : s.vm.findClass "java/util/ArrayList" = some m.cls := findClass_of_methodNamed Bd.named
 have hnm := (name_of_methodNamed Bd.named Bd.method).1
 have X0 : Stand p l e ({ frames := 3, cells := 1, slots := 10, locals := 41 } : Room) s m #[(.ref a1), (.ref a2), (.ref de), (.int 0)] below meth c s₁ [] 0 0 := Stand.of_body Bd
 have e0 : s₁.heap = h0 := by rw [← hh, Bd.state]; rfl
 have N0 := Fr.nil n0
 have p0 : GF p e below (s₁.setTop (entryFrame m #[(.ref a1), (.ref a2), (.ref de), (.int 0)] 4)) s₁ m 0 (oLR3I a1 a2 de 0) [] := fun t_ k_ => castTop (ef_rm7_0 m a1 a2 mc de kde el ea kea em mr) k_
 have p101 : GF p e below _ s₁ m 2 (oLR3I a1 a2 de 0) [(.ref de), (.int 0)] := fun t_ k_ => p0 t_ (by
  refine XS.iloadN X0.here hx rfl (hb hby d7_0) rfl ?_
  refine XS.aloadN X0.here hx rfl (hb hby d7_1) rfl rfl ?_
  exact k_)
 obtain ⟨cl102, Ar102, -, S102, Ng102, -, -⟩ := id (G.2.2.1.ext O1.2)
 have p103 : GF p e below _ s₁ m 7 (oLR3I a1 a2 de 0) [(.ref a1)] := fun t_ k_ => p101 t_ (by
  refine X0.arraylength hx (by rw [e0]; exact Ar102.1) (State.isArrayOf_alike hZ.alike Ar102.2.1) (g := (mkF m 2 (oLR3I a1 a2 de 0) [(.ref de), (.int 0)])) rfl rfl (hb hby d7_2) _ ?_
  rw [len_of S102 Ng102]
  show Steps p.tables e below (s₁.setTop (mkF m 3 (oLR3I a1 a2 de 0) [(.int 0), (.int 0)])) _
  refine XS.icmpNo X0.here hx rfl (hb hby d7_3) rfl (teq (by decide : ((0 : Int32) = (0 : Int32)))).2 ?_
  refine XS.aloadN X0.here hx rfl (hb hby d7_6) rfl rfl ?_
  exact k_)
 obtain ⟨cq104, q104, q104'⟩ := F0.cell
 obtain ⟨_, _, ⟨T104, L104, k104, n104⟩, -, X104, ⟨Lc104, hQ104, l104, y104, z104⟩, st104⟩ := X0.privateBack hx (y := oM21) hown (mvT hZ (own_w hw 71 rfl)) (mvT hZ (own_w hw 72 rfl)) (mvT hZ (own_w hw 74 rfl)) (Cond.privateMethod_at (mvP hZ (own_w hw 73 rfl) (args := #[]))) (mvT hZ (own_w hw 75 rfl)) (by decide) (backOf (W := 0) (rm8 l Z a0 hw [] a1 mc de kde el ea kea em mr h0 n0 (Nat.le_trans Z0 (Keep.refl h0 [a1]).1) O1 G F0 F1 F2 F3 g1) hZ (own_w hw 75 rfl) (own_w hw 3 rfl) (by decide) (by decide)) (g := (mkF m 7 (oLR3I a1 a2 de 0) [(.ref a1)])) rfl (by rw [hml]; rfl) (Steps.refl _) (a := a1) (by rw [e0]; exact q104) q104' (argsL := []) (rest := []) (lenOf pd3 rfl) rfl (by show 2 * 0 + _ ≤ _; exact Nat.le_of_eq rfl) (hb hby d7_7) (fun _ _ => ⟨rfl, e0, (by decide : 0 + 1 ≤ _), (by decide : 0 + 10 ≤ _)⟩)
 dsimp only [Pt.U, Pt.locs, Pt.cells, Pt.slots] at X104 l104 y104 z104 st104 hQ104
 subst l104 y104 z104
 obtain ⟨x105, x106, rfl, N104q, q104_K, q104_F0, q104_F1, q104_F2, q104_F3, q104_V, q104_X, q104_g, q104_z, q104_n, q104_o⟩ := hQ104
 have N104 := Fr.app N0 N104q
 have K107 : Keep h0 T104.heap [a1] := (Keep.refl h0 [a1]).trans q104_K (allS (Or.inl (List.mem_of_getElem? (i := 0) rfl)) all0)
 have ne_a1_x105 : a1 ≠ x105 := Nat.ne_of_lt (Nat.lt_of_lt_of_le F0.lt q104_z)
 have ne_a2_x105 : a2 ≠ x105 := Nat.ne_of_lt (Nat.lt_of_lt_of_le X2.lt q104_z)
 have p108 : GF p e below _ T104 m 14 (oLR3I a1 a2 x105 0) [(.ref a2), (.int 0), (.ref x105)] := fun t_ k_ => (gcT p103 st104) t_ (by
  refine XS.astoreN X104.here hx rfl (hb hby d7_10) rfl rfl (l' := (oLR3I a1 a2 x105 0)) rfl ?_
  refine XS.aloadN X104.here hx rfl (hb hby d7_11) rfl rfl ?_
  refine XS.iloadN X104.here hx rfl (hb hby d7_12) rfl ?_
  refine XS.aloadN X104.here hx rfl (hb hby d7_13) rfl rfl ?_
  exact k_)
 have f109 := (X2.keep q104_K)
 obtain ⟨cl110, Ar110, q110, S110, Ng110, H110, G110⟩ := id q104_V
 have hin110 := inb_of S110 (j := (0 : Int32)) ⟨by decide, by decide⟩
 obtain ⟨T110, h110, X110, e110, W110, st110⟩ := stR X104 hx hZ rfl Ar110 (j := (0 : Int32)) hin110 rfl (Sto.ofV Ar110 q110 q104_o (Ins.of_exa f109 (own_w hw 87 rfl))) (g := (mkF m 14 (oLR3I a1 a2 x105 0) [(.ref a2), (.int 0), (.ref x105)])) rfl rfl (hb hby d7_14)
 have K111 : Keep h0 h110 [a1] := K107.wr W110 (Or.inr (Nat.le_trans (Keep.refl h0 [a1]).1 q104_z))
 have N110 := Fr.snoc X110 N104 q104_g
 have V110 : Arv Z h110 x105 x106 (.object "java/lang/Object") (10 : Int32) [(.ref a2), .null, .null, .null, .null, .null, .null, .null, .null, .null] .null := Arv.set Ar110 q110 S110 Ng110 H110 G110 rfl W110 0 rfl (Nat.le_of_ble_eq_true rfl)
 have p112 : GF p e below _ T110 m 19 (oLR3I a1 a2 x105 0) [(.int 1), (.ref a1)] := fun t_ k_ => (gc p108 st110) t_ (by
  refine XS.aloadN X110.here hx rfl (hb hby d7_15) rfl rfl ?_
  refine XS.iloadN X110.here hx rfl (hb hby d7_16) rfl ?_
  refine XS.iconst X110.here hx rfl (hb hby d7_17) ?_
  refine XS.iadd X110.here hx rfl (hb hby d7_18) rfl ?_
  exact k_)
 have f113 := (q104_F3.other W110 (Or.inl q104_n))
 have f114 := (q104_F0.wr W110)
 obtain ⟨T115, h115, X115, e115, W115, st115⟩ := putF X110 hx hZ hown (host := "") (Or.inl (own_w hw 64 rfl)) Via.refl e110 f113 f114 (Or.inl (own_w hw 65 rfl)) (own_w hw 2 rfl) (ty := .int) (by decide) rfl rfl (g := (mkF m 19 (oLR3I a1 a2 x105 0) [(.int 1), (.ref a1)])) rfl rfl (hb hby d7_19)
 have K116 : Keep h0 h115 [a1] := K111.wr W115 (Or.inl (List.mem_of_getElem? (i := 0) rfl))
 have N115 := Fr.snoc X115 N110 g1
 have F115 : Fld Z h115 a1 "java/util/ArrayList" "size" "I" (.int 1) := f113.same W115
 have f117 := (f114.wr W115)
 have f118 := ((q104_F1.other W110 (Or.inl q104_n)).other W115 (Or.inr (slot_ne (Or.inl (own_w hw 23 rfl)) (Or.inl (own_w hw 65 rfl)) (by decide) (t := .int) (t' := .int) (by decide) (by decide))))
 have f119 := ((q104_F2.other W110 (Or.inl q104_n)).other W115 (Or.inr (slot_ne (Or.inl (own_w hw 26 rfl)) (Or.inl (own_w hw 65 rfl)) (by decide) (t := (.array (.object "java/lang/Object"))) (t' := .int) (by decide) (by decide))))
 have f120 := (V110.other W115 (Ne.symm q104_n))
 have f121 := ((q104_X.wr W110).wr W115)
 obtain ⟨fs, hr, hrun, hended, hW, hsame⟩ := X115.leave (v := none) (fun _ => rfl)
 refine ⟨_, _, (gc p112 st115) _ (X115.returnOut hx Bd.returns (hb hby d7_22) hr), hrun, hended, _, _, rfl, ?_, ⟨_, rfl⟩, hW, hsame.mono (by decide) (by decide)⟩
 show Q7_0 Z a1 a2 mc de kde el ea kea em mr h0 n0 _ T115.heap _
 rw [e115]
 exact ⟨x105, x106, rfl, N115, K116, f117, f118, f119, F115, f120, f121, q104_g, (Nat.le_trans (Keep.refl h0 [a1]).1 q104_z), q104_n, q104_o⟩
theorem d6_0 : decode jdk_38_method_25_code 0 = .ok (.aload_n 0, 1) := by decide +kernel
theorem d6_1 : decode jdk_38_method_25_code 1 = .ok (.dup, 1) := by decide +kernel
theorem d6_2 : decode jdk_38_method_25_code 2 = .ok (.getfield 63, 3) := by decide +kernel
theorem d6_5 : decode jdk_38_method_25_code 5 = .ok (.iconst 1, 1) := by decide +kernel
theorem d6_6 : decode jdk_38_method_25_code 6 = .ok (.iadd, 1) := by decide +kernel
theorem d6_7 : decode jdk_38_method_25_code 7 = .ok (.putfield 63, 3) := by decide +kernel
theorem d6_10 : decode jdk_38_method_25_code 10 = .ok (.aload_n 0, 1) := by decide +kernel
theorem d6_11 : decode jdk_38_method_25_code 11 = .ok (.aload_n 1, 1) := by decide +kernel
theorem d6_12 : decode jdk_38_method_25_code 12 = .ok (.aload_n 0, 1) := by decide +kernel
theorem d6_13 : decode jdk_38_method_25_code 13 = .ok (.getfield 9, 3) := by decide +kernel
theorem d6_16 : decode jdk_38_method_25_code 16 = .ok (.aload_n 0, 1) := by decide +kernel
theorem d6_17 : decode jdk_38_method_25_code 17 = .ok (.getfield 48, 3) := by decide +kernel
theorem d6_20 : decode jdk_38_method_25_code 20 = .ok (.invokevirtual 131, 3) := by decide +kernel
theorem d6_23 : decode jdk_38_method_25_code 23 = .ok (.iconst 1, 1) := by decide +kernel
theorem d6_24 : decode jdk_38_method_25_code 24 = .ok (.ireturn, 1) := by decide +kernel
theorem pd4 : parseMethodDescriptor "(Ljava/lang/Object;[Ljava/lang/Object;I)V" = some ⟨[(.object "java/lang/Object"), (.array (.object "java/lang/Object")), .int], none⟩ := by decide +kernel
theorem pn6 : plainFor (⟨"java/util/ArrayList", "add", "(Ljava/lang/Object;)Z"⟩ : MethodName) = true := plainFor_of_name (by first | (simp [plainName, overriddenIn]; done) | decide +kernel)
theorem ef_rm6_0 (m : MethodId) (a1 : Addr) (a2 : Addr) (mc : Int32) (de : Addr) (kde : ClassId) (el : Addr) (ea : Addr) (kea : ClassId) (em : Addr) (mr : Addr) : entryFrame m #[(.ref a1), (.ref a2)] 2 = mkF m 0 #[.val (.ref a1), .val (.ref a2)] [] := by first | (simp [entryFrame, mkF, argsToLocals, Value.category]; done) | rfl
def Q6_0 (Z : State) (a1 : Addr) (a2 : Addr) (mc : Int32) (de : Addr) (kde : ClassId) (el : Addr) (ea : Addr) (kea : ClassId) (em : Addr) (mr : Addr) (h0 : Heap) (n0 : Nat) (v : Option Value) (h : Heap) (L : List Loc) : Prop := ∃ (b : Addr) (kb : ClassId), v = some (.int 1) ∧ Fr n0 L ∧ (Keep h0 h [a1]) ∧ (Exa Z h a1 "java/util/ArrayList") ∧ (Fld Z h a1 "java/util/AbstractList" "modCount" "I" (.int (mc + (1 : Int32)))) ∧ (Fld Z h a1 "java/util/ArrayList" "elementData" "[Ljava/lang/Object;" (.ref b)) ∧ (Fld Z h a1 "java/util/ArrayList" "size" "I" (.int 1)) ∧ (Arv Z h b kb (.object "java/lang/Object") (10 : Int32) [(.ref a2), .null, .null, .null, .null, .null, .null, .null, .null, .null] .null) ∧ (Exa Z h b "[Ljava/lang/Object;") ∧ (n0 ≤ b) ∧ (h0.size ≤ b) ∧ (a1 ≠ b) ∧ (Ovr Z kb "java/lang/Object")
set_option maxRecDepth 65536 in
set_option maxHeartbeats 40000000 in
theorem rm6_0 (l : Launch) (Z : State) (a0 : Array Value) (hw : ∀ d ∈ tables_1, d.before a0 Z = true) (ws : List Jvm.Cond) (a1 : Addr) (a2 : Addr) (mc : Int32) (de : Addr) (kde : ClassId) (el : Addr) (ea : Addr) (kea : ClassId) (em : Addr) (mr : Addr) (h0 : Heap) (n0 : Nat) (Z0 : n0 ≤ h0.size) (O1 : Old Z n0 h0) (G : own_H Z de kde el ea kea em mr) (F0 : Exa Z h0 a1 "java/util/ArrayList") (F1 : Fld Z h0 a1 "java/util/AbstractList" "modCount" "I" (.int mc)) (F2 : Fld Z h0 a1 "java/util/ArrayList" "elementData" "[Ljava/lang/Object;" (.ref de)) (F3 : Fld Z h0 a1 "java/util/ArrayList" "size" "I" (.int 0)) (g1 : n0 ≤ a1) (X2 : Exa Z h0 a2 "com/example/arcward/arcward/model/Variable") (n2 : a1 ≠ a2) :
  MetFree l oM19 (head1 (Jvm.Cond.code oM19 jdk_38_method_25_code 2 (some .boolean) :: ws) ({ frames := 4, cells := 1, slots := 10, locals := 56 } : Room)) (fun a U => a = #[(.ref a1), (.ref a2)] ∧ Z.Warmed39 U.vm ∧ U.heap = h0) (fun _ _ _ _ _ => True) (fun _ U o U' => ∃ v L, o = .returned v ∧ Q6_0 Z a1 a2 mc de kde el ea kea em mr h0 n0 v U'.heap L ∧ FrameEnd U o U' L ({ frames := 4, cells := 1, slots := 10, locals := 56 } : Room).cells ({ frames := 4, cells := 1, slots := 10, locals := 56 } : Room).slots) := by
 refine MetFree.of_bodySF pn6 hisR ?_
 intro p e s m args below meth c s₁ Bd hml0 hP hK
 obtain ⟨rfl, hZ, hh⟩ := hP
 have hx := Bd.exec
 have hby := Bd.bytes
 have hml : c.maxLocals = 2 := hml0
 have hown : s.vm.findClass "java/util/ArrayList" = some m.cls := findClass_of_methodNamed Bd.named
 have hnm := (name_of_methodNamed Bd.named Bd.method).1
 have X0 : Stand p l e ({ frames := 4, cells := 1, slots := 10, locals := 56 } : Room) s m #[(.ref a1), (.ref a2)] below meth c s₁ [] 0 0 := Stand.of_body Bd
 have e0 : s₁.heap = h0 := by rw [← hh, Bd.state]; rfl
 have N0 := Fr.nil n0
 have p0 : GF p e below (s₁.setTop (entryFrame m #[(.ref a1), (.ref a2)] 2)) s₁ m 0 #[.val (.ref a1), .val (.ref a2)] [] := fun t_ k_ => castTop (ef_rm6_0 m a1 a2 mc de kde el ea kea em mr) k_
 have p101 : GF p e below _ s₁ m 2 #[.val (.ref a1), .val (.ref a2)] [(.ref a1), (.ref a1)] := fun t_ k_ => p0 t_ (by
  refine XS.aloadN X0.here hx rfl (hb hby d6_0) rfl rfl ?_
  refine XS.dup X0.here hx rfl (hb hby d6_1) rfl rfl ?_
  exact k_)
 obtain ⟨T102, X102, e102, st102⟩ := getF X0 hx hZ hown (host := "") (Or.inl (own_w hw 62 rfl)) (Via.of (own_w hw 63 rfl)) e0 F1 (g := (mkF m 2 #[.val (.ref a1), .val (.ref a2)] [(.ref a1), (.ref a1)])) rfl rfl (hb hby d6_2)
 have p103 : GF p e below _ T102 m 7 #[.val (.ref a1), .val (.ref a2)] [(.int (mc + (1 : Int32))), (.ref a1)] := fun t_ k_ => (gc p101 st102) t_ (by
  refine XS.iconst X102.here hx rfl (hb hby d6_5) ?_
  refine XS.iadd X102.here hx rfl (hb hby d6_6) rfl ?_
  exact k_)
 obtain ⟨T104, h104, X104, e104, W104, st104⟩ := putF X102 hx hZ hown (host := "") (Or.inl (own_w hw 62 rfl)) (Via.of (own_w hw 63 rfl)) e102 F1 F0 (Or.inl (own_w hw 23 rfl)) (own_w hw 2 rfl) (ty := .int) (by decide) rfl rfl (g := (mkF m 7 #[.val (.ref a1), .val (.ref a2)] [(.int (mc + (1 : Int32))), (.ref a1)])) rfl rfl (hb hby d6_7)
 have K105 : Keep h0 h104 [a1] := (Keep.refl h0 [a1]).wr W104 (Or.inl (List.mem_of_getElem? (i := 0) rfl))
 have N104 := Fr.snoc X104 N0 g1
 have F104 : Fld Z h104 a1 "java/util/AbstractList" "modCount" "I" (.int (mc + (1 : Int32))) := F1.same W104
 have p106 : GF p e below _ T104 m 13 #[.val (.ref a1), .val (.ref a2)] [(.ref a1), (.ref a2), (.ref a1)] := fun t_ k_ => (gc p103 st104) t_ (by
  refine XS.aloadN X104.here hx rfl (hb hby d6_10) rfl rfl ?_
  refine XS.aloadN X104.here hx rfl (hb hby d6_11) rfl rfl ?_
  refine XS.aloadN X104.here hx rfl (hb hby d6_12) rfl rfl ?_
  exact k_)
 have f107 := (F2.other W104 (Or.inr (slot_ne (Or.inl (own_w hw 26 rfl)) (Or.inl (own_w hw 23 rfl)) (by decide) (t := (.array (.object "java/lang/Object"))) (t' := .int) (by decide) (by decide))))
 obtain ⟨T108, X108, e108, st108⟩ := getF X104 hx hZ hown (host := "") (Or.inl (own_w hw 25 rfl)) Via.refl e104 f107 (g := (mkF m 13 #[.val (.ref a1), .val (.ref a2)] [(.ref a1), (.ref a2), (.ref a1)])) rfl rfl (hb hby d6_13)
 have p109 : GF p e below _ T108 m 17 #[.val (.ref a1), .val (.ref a2)] [(.ref a1), (.ref de), (.ref a2), (.ref a1)] := fun t_ k_ => (gc p106 st108) t_ (by
  refine XS.aloadN X108.here hx rfl (hb hby d6_16) rfl rfl ?_
  exact k_)
 have f110 := (F3.other W104 (Or.inr (slot_ne (Or.inl (own_w hw 65 rfl)) (Or.inl (own_w hw 23 rfl)) (by decide) (t := .int) (t' := .int) (by decide) (by decide))))
 obtain ⟨T111, X111, e111, st111⟩ := getF X108 hx hZ hown (host := "") (Or.inl (own_w hw 64 rfl)) Via.refl e108 f110 (g := (mkF m 17 #[.val (.ref a1), .val (.ref a2)] [(.ref a1), (.ref de), (.ref a2), (.ref a1)])) rfl rfl (hb hby d6_17)
 have f112 := (F0.wr W104)
 have f113 := (X2.wr W104)
 have f114 := (O1.wr W104 g1)
 obtain ⟨cq115, q115, q115'⟩ := f112.cell
 obtain ⟨_, _, ⟨T115, L115, k115, n115⟩, -, X115, ⟨Lc115, hQ115, l115, y115, z115⟩, st115⟩ := X111.privateBack hx (y := oM20) hown (mvT hZ (own_w hw 66 rfl)) (mvT hZ (own_w hw 67 rfl)) (mvT hZ (own_w hw 69 rfl)) (Cond.privateMethod_at (mvP hZ (own_w hw 68 rfl) (args := #[]))) (mvT hZ (own_w hw 70 rfl)) (by decide) (backOf (W := 0) (rm7_0 l Z a0 hw [] a1 a2 (mc + (1 : Int32)) de kde el ea kea em mr h104 n0 (Nat.le_trans Z0 K105.1) f114 G f112 F104 f107 f110 g1 f113 n2) hZ (own_w hw 70 rfl) (own_w hw 3 rfl) (by decide) (by decide)) (g := (mkF m 20 #[.val (.ref a1), .val (.ref a2)] [(.int 0), (.ref de), (.ref a2), (.ref a1)])) rfl (by rw [hml]; rfl) (Steps.refl _) (a := a1) (by rw [e111]; exact q115) q115' (argsL := [(.ref a2), (.ref de), (.int 0)]) (rest := []) (lenOf pd4 rfl) rfl (by show 2 * 0 + _ ≤ _; exact Nat.le_of_eq rfl) (hb hby d6_20) (fun _ _ => ⟨rfl, e111, (by decide : 0 + 1 ≤ _), (by decide : 0 + 10 ≤ _)⟩)
 dsimp only [Pt.U, Pt.locs, Pt.cells, Pt.slots] at X115 l115 y115 z115 st115 hQ115
 subst l115 y115 z115
 obtain ⟨x116, x117, rfl, N115q, q115_K, q115_F0, q115_F1, q115_F2, q115_F3, q115_V, q115_X, q115_g, q115_z, q115_n, q115_o⟩ := hQ115
 have N115 := Fr.app N104 N115q
 have K118 : Keep h0 T115.heap [a1] := K105.trans q115_K (allS (Or.inl (List.mem_of_getElem? (i := 0) rfl)) all0)
 have ne_a1_x116 : a1 ≠ x116 := Nat.ne_of_lt (Nat.lt_of_lt_of_le f112.lt q115_z)
 have ne_a2_x116 : a2 ≠ x116 := Nat.ne_of_lt (Nat.lt_of_lt_of_le f113.lt q115_z)
 have p119 : GF p e below _ T115 m 24 #[.val (.ref a1), .val (.ref a2)] [(.int 1)] := fun t_ k_ => (gcT (gc p109 st111) st115) t_ (by
  refine XS.iconst X115.here hx rfl (hb hby d6_23) ?_
  exact k_)
 obtain ⟨fs, hr, hrun, hended, hW, hsame⟩ := X115.leave (v := some (.int 1)) (fun h => by rw [Bd.returns] at h; cases h)
 refine ⟨_, _, p119 _ (retN X115 hx (t := .boolean) Bd.returns (by simp) (hb hby d6_24) hr), hrun, hended, _, _, rfl, ?_, ⟨_, rfl⟩, hW, hsame.mono (by decide) (by decide)⟩
 show Q6_0 Z a1 a2 mc de kde el ea kea em mr h0 n0 _ T115.heap _
 exact ⟨x116, x117, rfl, N115, K118, q115_F0, q115_F1, q115_F2, q115_F3, q115_V, q115_X, q115_g, (Nat.le_trans K105.1 q115_z), q115_n, q115_o⟩
theorem ef_rm7_1 (m : MethodId) (a1 : Addr) (a2 : Addr) (mc : Int32) (b : Addr) (kb : ClassId) (x0 : Addr) : entryFrame m #[(.ref a1), (.ref a2), (.ref b), (.int 1)] 4 = mkF m 0 (oLR3I a1 a2 b 1) [] := by first | (simp [entryFrame, mkF, argsToLocals, Value.category]; done) | rfl
def Q7_1 (Z : State) (a1 : Addr) (a2 : Addr) (mc : Int32) (b : Addr) (kb : ClassId) (x0 : Addr) (h0 : Heap) (n0 : Nat) (v : Option Value) (h : Heap) (L : List Loc) : Prop := v = none ∧ Fr n0 L ∧ (Keep h0 h [a1, b]) ∧ (Exa Z h a1 "java/util/ArrayList") ∧ (Fld Z h a1 "java/util/AbstractList" "modCount" "I" (.int mc)) ∧ (Fld Z h a1 "java/util/ArrayList" "elementData" "[Ljava/lang/Object;" (.ref b)) ∧ (Fld Z h a1 "java/util/ArrayList" "size" "I" (.int 2)) ∧ (Arv Z h b kb (.object "java/lang/Object") (10 : Int32) [(.ref x0), (.ref a2), .null, .null, .null, .null, .null, .null, .null, .null] .null) ∧ (Exa Z h b "[Ljava/lang/Object;")
set_option maxRecDepth 65536 in
set_option maxHeartbeats 40000000 in
theorem rm7_1 (l : Launch) (Z : State) (a0 : Array Value) (hw : ∀ d ∈ tables_1, d.before a0 Z = true) (ws : List Jvm.Cond) (a1 : Addr) (a2 : Addr) (mc : Int32) (b : Addr) (kb : ClassId) (x0 : Addr) (h0 : Heap) (n0 : Nat) (Z0 : n0 ≤ h0.size) (F0 : Exa Z h0 a1 "java/util/ArrayList") (F1 : Fld Z h0 a1 "java/util/AbstractList" "modCount" "I" (.int mc)) (F2 : Fld Z h0 a1 "java/util/ArrayList" "elementData" "[Ljava/lang/Object;" (.ref b)) (F3 : Fld Z h0 a1 "java/util/ArrayList" "size" "I" (.int 1)) (F4 : Arv Z h0 b kb (.object "java/lang/Object") (10 : Int32) [(.ref x0), .null, .null, .null, .null, .null, .null, .null, .null, .null] .null) (F5 : Exa Z h0 b "[Ljava/lang/Object;") (g1 : n0 ≤ a1) (g2 : n0 ≤ b) (n1 : a1 ≠ b) (n3 : a2 ≠ b) (o : Ovr Z kb "java/lang/Object") (X2 : Exa Z h0 a2 "com/example/arcward/arcward/model/Variable") (n2 : a1 ≠ a2) :
  MetFree l oM20 (head1 (Jvm.Cond.code oM20 jdk_38_method_24_code 4 none :: ws) ({ frames := 0, cells := 0, slots := 0, locals := 0 } : Room)) (fun a U => a = #[(.ref a1), (.ref a2), (.ref b), (.int 1)] ∧ Z.Warmed39 U.vm ∧ U.heap = h0) (fun _ _ _ _ _ => True) (fun _ U o U' => ∃ v L, o = .returned v ∧ Q7_1 Z a1 a2 mc b kb x0 h0 n0 v U'.heap L ∧ FrameEnd U o U' L ({ frames := 0, cells := 0, slots := 0, locals := 0 } : Room).cells ({ frames := 0, cells := 0, slots := 0, locals := 0 } : Room).slots) := by
 refine MetFree.of_bodySF pn7 hisR ?_
 intro p e s m args below meth c s₁ Bd hml0 hP hK
 obtain ⟨rfl, hZ, hh⟩ := hP
 have hx := Bd.exec
 have hby := Bd.bytes
 have hml : c.maxLocals = 4 := hml0
 have hown : s.vm.findClass "java/util/ArrayList" = some m.cls := findClass_of_methodNamed Bd.named
 have hnm := (name_of_methodNamed Bd.named Bd.method).1
 have X0 : Stand p l e ({ frames := 0, cells := 0, slots := 0, locals := 0 } : Room) s m #[(.ref a1), (.ref a2), (.ref b), (.int 1)] below meth c s₁ [] 0 0 := Stand.of_body Bd
 have e0 : s₁.heap = h0 := by rw [← hh, Bd.state]; rfl
 have N0 := Fr.nil n0
 have p0 : GF p e below (s₁.setTop (entryFrame m #[(.ref a1), (.ref a2), (.ref b), (.int 1)] 4)) s₁ m 0 (oLR3I a1 a2 b 1) [] := fun t_ k_ => castTop (ef_rm7_1 m a1 a2 mc b kb x0) k_
 have p101 : GF p e below _ s₁ m 2 (oLR3I a1 a2 b 1) [(.ref b), (.int 1)] := fun t_ k_ => p0 t_ (by
  refine XS.iloadN X0.here hx rfl (hb hby d7_0) rfl ?_
  refine XS.aloadN X0.here hx rfl (hb hby d7_1) rfl rfl ?_
  exact k_)
 obtain ⟨cl102, Ar102, -, S102, Ng102, -, -⟩ := id F4
 have p103 : GF p e below _ s₁ m 14 (oLR3I a1 a2 b 1) [(.ref a2), (.int 1), (.ref b)] := fun t_ k_ => p101 t_ (by
  refine X0.arraylength hx (by rw [e0]; exact Ar102.1) (State.isArrayOf_alike hZ.alike Ar102.2.1) (g := (mkF m 2 (oLR3I a1 a2 b 1) [(.ref b), (.int 1)])) rfl rfl (hb hby d7_2) _ ?_
  rw [len_of S102 Ng102]
  show Steps p.tables e below (s₁.setTop (mkF m 3 (oLR3I a1 a2 b 1) [(.int 10), (.int 1)])) _
  refine XS.icmpYes X0.here hx rfl (pc0 := 3) (pc' := 11) rfl (hb hby d7_3) rfl (feq (by decide : ¬ ((1 : Int32) = (10 : Int32)))).2 (by decide) (by decide) ?_
  refine XS.aloadN X0.here hx rfl (hb hby d7_11) rfl rfl ?_
  refine XS.iloadN X0.here hx rfl (hb hby d7_12) rfl ?_
  refine XS.aloadN X0.here hx rfl (hb hby d7_13) rfl rfl ?_
  exact k_)
 obtain ⟨cl104, Ar104, q104, S104, Ng104, H104, G104⟩ := id F4
 have hin104 := inb_of S104 (j := (1 : Int32)) ⟨by decide, by decide⟩
 obtain ⟨T104, h104, X104, e104, W104, st104⟩ := stR X0 hx hZ e0 Ar104 (j := (1 : Int32)) hin104 rfl (Sto.ofV Ar104 q104 o (Ins.of_exa X2 (own_w hw 87 rfl))) (g := (mkF m 14 (oLR3I a1 a2 b 1) [(.ref a2), (.int 1), (.ref b)])) rfl rfl (hb hby d7_14)
 have K105 : Keep h0 h104 [a1, b] := (Keep.refl h0 [a1, b]).wr W104 (Or.inl (List.mem_of_getElem? (i := 1) rfl))
 have N104 := Fr.snoc X104 N0 g2
 have V104 : Arv Z h104 b kb (.object "java/lang/Object") (10 : Int32) [(.ref x0), (.ref a2), .null, .null, .null, .null, .null, .null, .null, .null] .null := Arv.set Ar104 q104 S104 Ng104 H104 G104 rfl W104 1 rfl (Nat.le_of_ble_eq_true rfl)
 have p106 : GF p e below _ T104 m 19 (oLR3I a1 a2 b 1) [(.int 2), (.ref a1)] := fun t_ k_ => (gc p103 st104) t_ (by
  refine XS.aloadN X104.here hx rfl (hb hby d7_15) rfl rfl ?_
  refine XS.iloadN X104.here hx rfl (hb hby d7_16) rfl ?_
  refine XS.iconst X104.here hx rfl (hb hby d7_17) ?_
  refine XS.iadd X104.here hx rfl (hb hby d7_18) rfl ?_
  exact k_)
 have f107 := (F3.other W104 (Or.inl n1))
 have f108 := (F0.wr W104)
 obtain ⟨T109, h109, X109, e109, W109, st109⟩ := putF X104 hx hZ hown (host := "") (Or.inl (own_w hw 64 rfl)) Via.refl e104 f107 f108 (Or.inl (own_w hw 65 rfl)) (own_w hw 2 rfl) (ty := .int) (by decide) rfl rfl (g := (mkF m 19 (oLR3I a1 a2 b 1) [(.int 2), (.ref a1)])) rfl rfl (hb hby d7_19)
 have K110 : Keep h0 h109 [a1, b] := K105.wr W109 (Or.inl (List.mem_of_getElem? (i := 0) rfl))
 have N109 := Fr.snoc X109 N104 g1
 have F109 : Fld Z h109 a1 "java/util/ArrayList" "size" "I" (.int 2) := f107.same W109
 have f111 := (f108.wr W109)
 have f112 := ((F1.other W104 (Or.inl n1)).other W109 (Or.inr (slot_ne (Or.inl (own_w hw 23 rfl)) (Or.inl (own_w hw 65 rfl)) (by decide) (t := .int) (t' := .int) (by decide) (by decide))))
 have f113 := ((F2.other W104 (Or.inl n1)).other W109 (Or.inr (slot_ne (Or.inl (own_w hw 26 rfl)) (Or.inl (own_w hw 65 rfl)) (by decide) (t := (.array (.object "java/lang/Object"))) (t' := .int) (by decide) (by decide))))
 have f114 := (V104.other W109 (Ne.symm n1))
 have f115 := ((F5.wr W104).wr W109)
 obtain ⟨fs, hr, hrun, hended, hW, hsame⟩ := X109.leave (v := none) (fun _ => rfl)
 refine ⟨_, _, (gc p106 st109) _ (X109.returnOut hx Bd.returns (hb hby d7_22) hr), hrun, hended, _, _, rfl, ?_, ⟨_, rfl⟩, hW, hsame.mono (by decide) (by decide)⟩
 show Q7_1 Z a1 a2 mc b kb x0 h0 n0 _ T109.heap _
 rw [e109]
 exact ⟨rfl, N109, K110, f111, f112, f113, F109, f114, f115⟩
theorem ef_rm6_1 (m : MethodId) (a1 : Addr) (a2 : Addr) (mc : Int32) (b : Addr) (kb : ClassId) (x0 : Addr) : entryFrame m #[(.ref a1), (.ref a2)] 2 = mkF m 0 #[.val (.ref a1), .val (.ref a2)] [] := by first | (simp [entryFrame, mkF, argsToLocals, Value.category]; done) | rfl
def Q6_1 (Z : State) (a1 : Addr) (a2 : Addr) (mc : Int32) (b : Addr) (kb : ClassId) (x0 : Addr) (h0 : Heap) (n0 : Nat) (v : Option Value) (h : Heap) (L : List Loc) : Prop := v = some (.int 1) ∧ Fr n0 L ∧ (Keep h0 h [a1, b]) ∧ (Exa Z h a1 "java/util/ArrayList") ∧ (Fld Z h a1 "java/util/AbstractList" "modCount" "I" (.int (mc + (1 : Int32)))) ∧ (Fld Z h a1 "java/util/ArrayList" "elementData" "[Ljava/lang/Object;" (.ref b)) ∧ (Fld Z h a1 "java/util/ArrayList" "size" "I" (.int 2)) ∧ (Arv Z h b kb (.object "java/lang/Object") (10 : Int32) [(.ref x0), (.ref a2), .null, .null, .null, .null, .null, .null, .null, .null] .null) ∧ (Exa Z h b "[Ljava/lang/Object;")
set_option maxRecDepth 65536 in
set_option maxHeartbeats 40000000 in
theorem rm6_1 (l : Launch) (Z : State) (a0 : Array Value) (hw : ∀ d ∈ tables_1, d.before a0 Z = true) (ws : List Jvm.Cond) (a1 : Addr) (a2 : Addr) (mc : Int32) (b : Addr) (kb : ClassId) (x0 : Addr) (h0 : Heap) (n0 : Nat) (Z0 : n0 ≤ h0.size) (F0 : Exa Z h0 a1 "java/util/ArrayList") (F1 : Fld Z h0 a1 "java/util/AbstractList" "modCount" "I" (.int mc)) (F2 : Fld Z h0 a1 "java/util/ArrayList" "elementData" "[Ljava/lang/Object;" (.ref b)) (F3 : Fld Z h0 a1 "java/util/ArrayList" "size" "I" (.int 1)) (F4 : Arv Z h0 b kb (.object "java/lang/Object") (10 : Int32) [(.ref x0), .null, .null, .null, .null, .null, .null, .null, .null, .null] .null) (F5 : Exa Z h0 b "[Ljava/lang/Object;") (g1 : n0 ≤ a1) (g2 : n0 ≤ b) (n1 : a1 ≠ b) (n3 : a2 ≠ b) (o : Ovr Z kb "java/lang/Object") (X2 : Exa Z h0 a2 "com/example/arcward/arcward/model/Variable") (n2 : a1 ≠ a2) :
  MetFree l oM19 (head1 (Jvm.Cond.code oM19 jdk_38_method_25_code 2 (some .boolean) :: ws) ({ frames := 1, cells := 0, slots := 0, locals := 15 } : Room)) (fun a U => a = #[(.ref a1), (.ref a2)] ∧ Z.Warmed39 U.vm ∧ U.heap = h0) (fun _ _ _ _ _ => True) (fun _ U o U' => ∃ v L, o = .returned v ∧ Q6_1 Z a1 a2 mc b kb x0 h0 n0 v U'.heap L ∧ FrameEnd U o U' L ({ frames := 1, cells := 0, slots := 0, locals := 15 } : Room).cells ({ frames := 1, cells := 0, slots := 0, locals := 15 } : Room).slots) := by
 refine MetFree.of_bodySF pn6 hisR ?_
 intro p e s m args below meth c s₁ Bd hml0 hP hK
 obtain ⟨rfl, hZ, hh⟩ := hP
 have hx := Bd.exec
 have hby := Bd.bytes
 have hml : c.maxLocals = 2 := hml0
 have hown : s.vm.findClass "java/util/ArrayList" = some m.cls := findClass_of_methodNamed Bd.named
 have hnm := (name_of_methodNamed Bd.named Bd.method).1
 have X0 : Stand p l e ({ frames := 1, cells := 0, slots := 0, locals := 15 } : Room) s m #[(.ref a1), (.ref a2)] below meth c s₁ [] 0 0 := Stand.of_body Bd
 have e0 : s₁.heap = h0 := by rw [← hh, Bd.state]; rfl
 have N0 := Fr.nil n0
 have p0 : GF p e below (s₁.setTop (entryFrame m #[(.ref a1), (.ref a2)] 2)) s₁ m 0 #[.val (.ref a1), .val (.ref a2)] [] := fun t_ k_ => castTop (ef_rm6_1 m a1 a2 mc b kb x0) k_
 have p101 : GF p e below _ s₁ m 2 #[.val (.ref a1), .val (.ref a2)] [(.ref a1), (.ref a1)] := fun t_ k_ => p0 t_ (by
  refine XS.aloadN X0.here hx rfl (hb hby d6_0) rfl rfl ?_
  refine XS.dup X0.here hx rfl (hb hby d6_1) rfl rfl ?_
  exact k_)
 obtain ⟨T102, X102, e102, st102⟩ := getF X0 hx hZ hown (host := "") (Or.inl (own_w hw 62 rfl)) (Via.of (own_w hw 63 rfl)) e0 F1 (g := (mkF m 2 #[.val (.ref a1), .val (.ref a2)] [(.ref a1), (.ref a1)])) rfl rfl (hb hby d6_2)
 have p103 : GF p e below _ T102 m 7 #[.val (.ref a1), .val (.ref a2)] [(.int (mc + (1 : Int32))), (.ref a1)] := fun t_ k_ => (gc p101 st102) t_ (by
  refine XS.iconst X102.here hx rfl (hb hby d6_5) ?_
  refine XS.iadd X102.here hx rfl (hb hby d6_6) rfl ?_
  exact k_)
 obtain ⟨T104, h104, X104, e104, W104, st104⟩ := putF X102 hx hZ hown (host := "") (Or.inl (own_w hw 62 rfl)) (Via.of (own_w hw 63 rfl)) e102 F1 F0 (Or.inl (own_w hw 23 rfl)) (own_w hw 2 rfl) (ty := .int) (by decide) rfl rfl (g := (mkF m 7 #[.val (.ref a1), .val (.ref a2)] [(.int (mc + (1 : Int32))), (.ref a1)])) rfl rfl (hb hby d6_7)
 have K105 : Keep h0 h104 [a1, b] := (Keep.refl h0 [a1, b]).wr W104 (Or.inl (List.mem_of_getElem? (i := 0) rfl))
 have N104 := Fr.snoc X104 N0 g1
 have F104 : Fld Z h104 a1 "java/util/AbstractList" "modCount" "I" (.int (mc + (1 : Int32))) := F1.same W104
 have p106 : GF p e below _ T104 m 13 #[.val (.ref a1), .val (.ref a2)] [(.ref a1), (.ref a2), (.ref a1)] := fun t_ k_ => (gc p103 st104) t_ (by
  refine XS.aloadN X104.here hx rfl (hb hby d6_10) rfl rfl ?_
  refine XS.aloadN X104.here hx rfl (hb hby d6_11) rfl rfl ?_
  refine XS.aloadN X104.here hx rfl (hb hby d6_12) rfl rfl ?_
  exact k_)
 have f107 := (F2.other W104 (Or.inr (slot_ne (Or.inl (own_w hw 26 rfl)) (Or.inl (own_w hw 23 rfl)) (by decide) (t := (.array (.object "java/lang/Object"))) (t' := .int) (by decide) (by decide))))
 obtain ⟨T108, X108, e108, st108⟩ := getF X104 hx hZ hown (host := "") (Or.inl (own_w hw 25 rfl)) Via.refl e104 f107 (g := (mkF m 13 #[.val (.ref a1), .val (.ref a2)] [(.ref a1), (.ref a2), (.ref a1)])) rfl rfl (hb hby d6_13)
 have p109 : GF p e below _ T108 m 17 #[.val (.ref a1), .val (.ref a2)] [(.ref a1), (.ref b), (.ref a2), (.ref a1)] := fun t_ k_ => (gc p106 st108) t_ (by
  refine XS.aloadN X108.here hx rfl (hb hby d6_16) rfl rfl ?_
  exact k_)
 have f110 := (F3.other W104 (Or.inr (slot_ne (Or.inl (own_w hw 65 rfl)) (Or.inl (own_w hw 23 rfl)) (by decide) (t := .int) (t' := .int) (by decide) (by decide))))
 obtain ⟨T111, X111, e111, st111⟩ := getF X108 hx hZ hown (host := "") (Or.inl (own_w hw 64 rfl)) Via.refl e108 f110 (g := (mkF m 17 #[.val (.ref a1), .val (.ref a2)] [(.ref a1), (.ref b), (.ref a2), (.ref a1)])) rfl rfl (hb hby d6_17)
 have f112 := (F0.wr W104)
 have f113 := (F4.other W104 (Ne.symm n1))
 have f114 := (F5.wr W104)
 have f115 := (X2.wr W104)
 obtain ⟨cq116, q116, q116'⟩ := f112.cell
 obtain ⟨_, _, ⟨T116, L116, k116, n116⟩, -, X116, ⟨Lc116, hQ116, l116, y116, z116⟩, st116⟩ := X111.privateBack hx (y := oM20) hown (mvT hZ (own_w hw 66 rfl)) (mvT hZ (own_w hw 67 rfl)) (mvT hZ (own_w hw 69 rfl)) (Cond.privateMethod_at (mvP hZ (own_w hw 68 rfl) (args := #[]))) (mvT hZ (own_w hw 70 rfl)) (by decide) (backOf (W := 0) (rm7_1 l Z a0 hw [] a1 a2 (mc + (1 : Int32)) b kb x0 h104 n0 (Nat.le_trans Z0 K105.1) f112 F104 f107 f110 f113 f114 g1 g2 n1 n3 o f115 n2) hZ (own_w hw 70 rfl) (own_w hw 3 rfl) (by decide) (by decide)) (g := (mkF m 20 #[.val (.ref a1), .val (.ref a2)] [(.int 1), (.ref b), (.ref a2), (.ref a1)])) rfl (by rw [hml]; rfl) (Steps.refl _) (a := a1) (by rw [e111]; exact q116) q116' (argsL := [(.ref a2), (.ref b), (.int 1)]) (rest := []) (lenOf pd4 rfl) rfl (by show 2 * 0 + _ ≤ _; exact Nat.le_of_eq rfl) (hb hby d6_20) (fun _ _ => ⟨rfl, e111, (by decide : 0 + 0 ≤ _), (by decide : 0 + 0 ≤ _)⟩)
 dsimp only [Pt.U, Pt.locs, Pt.cells, Pt.slots] at X116 l116 y116 z116 st116 hQ116
 subst l116 y116 z116
 obtain ⟨rfl, N116q, q116_K, q116_F0, q116_F1, q116_F2, q116_F3, q116_F4, q116_F5⟩ := hQ116
 have N116 := Fr.app N104 N116q
 have K117 : Keep h0 T116.heap [a1, b] := K105.trans q116_K (allS (Or.inl (List.mem_of_getElem? (i := 0) rfl)) (allS (Or.inl (List.mem_of_getElem? (i := 1) rfl)) all0))
 have p118 : GF p e below _ T116 m 24 #[.val (.ref a1), .val (.ref a2)] [(.int 1)] := fun t_ k_ => (gcT (gc p109 st111) st116) t_ (by
  refine XS.iconst X116.here hx rfl (hb hby d6_23) ?_
  exact k_)
 obtain ⟨fs, hr, hrun, hended, hW, hsame⟩ := X116.leave (v := some (.int 1)) (fun h => by rw [Bd.returns] at h; cases h)
 refine ⟨_, _, p118 _ (retN X116 hx (t := .boolean) Bd.returns (by simp) (hb hby d6_24) hr), hrun, hended, _, _, rfl, ?_, ⟨_, rfl⟩, hW, hsame.mono (by decide) (by decide)⟩
 show Q6_1 Z a1 a2 mc b kb x0 h0 n0 _ T116.heap _
 exact ⟨rfl, N116, K117, q116_F0, q116_F1, q116_F2, q116_F3, q116_F4, q116_F5⟩
theorem d17_0 : decode jdk_65_method_120_code 0 = .ok (.aload_n 2, 1) := by decide +kernel
theorem d17_1 : decode jdk_65_method_120_code 1 = .ok (.ldc 110, 2) := by decide +kernel
theorem d17_3 : decode jdk_65_method_120_code 3 = .ok (.if_acmp .ne 10, 3) := by decide +kernel
theorem d17_6 : decode jdk_65_method_120_code 6 = .ok (.iload_n 1, 1) := by decide +kernel
theorem d17_7 : decode jdk_65_method_120_code 7 = .ok (.anewarray 2, 3) := by decide +kernel
theorem d17_10 : decode jdk_65_method_120_code 10 = .ok (.goto 14, 3) := by decide +kernel
theorem d17_24 : decode jdk_65_method_120_code 24 = .ok (.astore_n 3, 1) := by decide +kernel
theorem d17_25 : decode jdk_65_method_120_code 25 = .ok (.aload_n 0, 1) := by decide +kernel
theorem d17_26 : decode jdk_65_method_120_code 26 = .ok (.iconst 0, 1) := by decide +kernel
theorem d17_27 : decode jdk_65_method_120_code 27 = .ok (.aload_n 3, 1) := by decide +kernel
theorem d17_28 : decode jdk_65_method_120_code 28 = .ok (.iconst 0, 1) := by decide +kernel
theorem d17_29 : decode jdk_65_method_120_code 29 = .ok (.aload_n 0, 1) := by decide +kernel
theorem d17_30 : decode jdk_65_method_120_code 30 = .ok (.arraylength, 1) := by decide +kernel
theorem d17_31 : decode jdk_65_method_120_code 31 = .ok (.iload_n 1, 1) := by decide +kernel
theorem d17_32 : decode jdk_65_method_120_code 32 = .ok (.invokestatic 304, 3) := by decide +kernel
theorem d17_35 : decode jdk_65_method_120_code 35 = .ok (.invokestatic 150, 3) := by decide +kernel
theorem d17_38 : decode jdk_65_method_120_code 38 = .ok (.aload_n 3, 1) := by decide +kernel
theorem d17_39 : decode jdk_65_method_120_code 39 = .ok (.areturn, 1) := by decide +kernel
theorem pn17 : plainFor (⟨"java/util/Arrays", "copyOf", "([Ljava/lang/Object;ILjava/lang/Class;)[Ljava/lang/Object;"⟩ : MethodName) = true := plainFor_of_name (by first | (simp [plainName, overriddenIn]; done) | decide +kernel)
theorem ef_rm17 (m : MethodId) (ed : Addr) (kd : ClassId) (x0 : Addr) (x1 : Addr) (de : Addr) (kde : ClassId) (el : Addr) (ea : Addr) (kea : ClassId) (em : Addr) (mr : Addr) : entryFrame m #[(.ref ed), (.int 2), (.ref mr)] 4 = mkF m 0 (oLRIRu ed 2 mr) [] := by first | (simp [entryFrame, mkF, argsToLocals, Value.category]; done) | rfl
def Q17 (Z : State) (ed : Addr) (kd : ClassId) (x0 : Addr) (x1 : Addr) (de : Addr) (kde : ClassId) (el : Addr) (ea : Addr) (kea : ClassId) (em : Addr) (mr : Addr) (h0 : Heap) (n0 : Nat) (v : Option Value) (h : Heap) (L : List Loc) : Prop := ∃ (b : Addr) (kb : ClassId), v = some (.ref b) ∧ Fr n0 L ∧ (Keep h0 h []) ∧ (Arv Z h b kb (.object "java/lang/Object") (2 : Int32) [(.ref x0), (.ref x1)] .null) ∧ (n0 ≤ b) ∧ (h0.size ≤ b)
set_option maxRecDepth 65536 in
set_option maxHeartbeats 40000000 in
theorem rm17 (l : Launch) (Z : State) (a0 : Array Value) (hw : ∀ d ∈ tables_1, d.before a0 Z = true) (ws : List Jvm.Cond) (ed : Addr) (kd : ClassId) (x0 : Addr) (x1 : Addr) (de : Addr) (kde : ClassId) (el : Addr) (ea : Addr) (kea : ClassId) (em : Addr) (mr : Addr) (h0 : Heap) (n0 : Nat) (Z0 : n0 ≤ h0.size) (O1 : Old Z n0 h0) (G : own_H Z de kde el ea kea em mr) (D0 : Arv Z h0 ed kd (.object "java/lang/Object") (10 : Int32) [(.ref x0), (.ref x1), .null, .null, .null, .null, .null, .null, .null, .null] .null) (D1 : Exa Z h0 ed "[Ljava/lang/Object;") (D2 : Exa Z h0 x0 "com/example/arcward/arcward/model/Variable") (D3 : Exa Z h0 x1 "com/example/arcward/arcward/model/Variable") :
  MetFree l oM26 (head1 (Jvm.Cond.code oM26 jdk_65_method_120_code 4 (some (.array (.object "java/lang/Object"))) :: ws) ({ frames := 1, cells := 1, slots := 2, locals := 18 } : Room)) (fun a U => a = #[(.ref ed), (.int 2), (.ref mr)] ∧ Z.Warmed39 U.vm ∧ U.heap = h0) (fun _ _ _ _ _ => True) (fun _ U o U' => ∃ v L, o = .returned v ∧ Q17 Z ed kd x0 x1 de kde el ea kea em mr h0 n0 v U'.heap L ∧ FrameEnd U o U' L ({ frames := 1, cells := 1, slots := 2, locals := 18 } : Room).cells ({ frames := 1, cells := 1, slots := 2, locals := 18 } : Room).slots) := by
 refine MetFree.of_bodySF pn17 hisR ?_
 intro p e s m args below meth c s₁ Bd hml0 hP hK
 obtain ⟨rfl, hZ, hh⟩ := hP
 have hx := Bd.exec
 have hby := Bd.bytes
 have hml : c.maxLocals = 4 := hml0
 have hown : s.vm.findClass "java/util/Arrays" = some m.cls := findClass_of_methodNamed Bd.named
 have hnm := (name_of_methodNamed Bd.named Bd.method).1
 have X0 : Stand p l e ({ frames := 1, cells := 1, slots := 2, locals := 18 } : Room) s m #[(.ref ed), (.int 2), (.ref mr)] below meth c s₁ [] 0 0 := Stand.of_body Bd
 have e0 : s₁.heap = h0 := by rw [← hh, Bd.state]; rfl
 have N0 := Fr.nil n0
 have p0 : GF p e below (s₁.setTop (entryFrame m #[(.ref ed), (.int 2), (.ref mr)] 4)) s₁ m 0 (oLRIRu ed 2 mr) [] := fun t_ k_ => castTop (ef_rm17 m ed kd x0 x1 de kde el ea kea em mr) k_
 have p101 : GF p e below _ s₁ m 1 (oLRIRu ed 2 mr) [(.ref mr)] := fun t_ k_ => p0 t_ (by
  refine XS.aloadN X0.here hx rfl (hb hby d17_0) rfl rfl ?_
  exact k_)
 obtain ⟨T102, X102, e102, st102⟩ := ldcM X0 hx hZ hown (own_w hw 143 rfl) G.2.2.2.2.2.2.2.2.2 e0 (g := (mkF m 1 (oLRIRu ed 2 mr) [(.ref mr)])) rfl (hb hby d17_1)
 have p103 : GF p e below _ T102 m 7 (oLRIRu ed 2 mr) [(.int 2)] := fun t_ k_ => (gc p101 st102) t_ (by
  refine Jvm.RoadKit.acmp (g := (mkF m 3 (oLRIRu ed 2 mr) [(.ref mr), (.ref mr)])) X102 hx rfl rfl rfl (pc0 := 3) (pc' := 6) (same := true) rfl (hb hby d17_3) rfl (decide_eq_true rfl) (by decide) (by decide) ?_
  refine XS.iloadN X102.here hx rfl (hb hby d17_6) rfl ?_
  exact k_)
 obtain ⟨T104, h104, k104, X104, e104, E104, A104, AE104, O104, st104⟩ := newRE X102 hx hZ hown (own_w hw 144 rfl) (own_w hw 86 rfl) e102 (g := (mkF m 7 (oLRIRu ed 2 mr) [(.int 2)])) rfl (hb hby d17_7) rfl (by decide) (cap := 2) (by decide) (by decide) (by decide) (by decide) (ad := "[Ljava/lang/Object;") (by decide)
 obtain ⟨b104, g104⟩ : ∃ z, z = h0.size := ⟨_, rfl⟩
 rw [← g104] at A104 AE104 st104
 have ne_ed_b104 : ed ≠ b104 := Nat.ne_of_lt (Nat.lt_of_lt_of_le D0.lt (Nat.le_of_eq g104.symm))
 have ne_x0_b104 : x0 ≠ b104 := Nat.ne_of_lt (Nat.lt_of_lt_of_le D2.lt (Nat.le_of_eq g104.symm))
 have ne_x1_b104 : x1 ≠ b104 := Nat.ne_of_lt (Nat.lt_of_lt_of_le D3.lt (Nat.le_of_eq g104.symm))
 have ge_b104 : n0 ≤ b104 := Nat.le_trans (Nat.le_trans Z0 (Keep.refl h0 []).1) (Nat.le_of_eq g104.symm)
 have sz_b104 : h0.size ≤ b104 := Nat.le_trans (Keep.refl h0 []).1 (Nat.le_of_eq g104.symm)
 have K105 : Keep h0 h104 [] := (Keep.refl h0 []).ext E104
 have V104 : Arv Z h104 b104 k104 (.object "java/lang/Object") (2 : Int32) [.null, .null] .null := (Arv.new A104 (by decide)).pad (pad_rep [] .null 2)
 have p106 : GF p e below _ T104 m 30 (oLRIR2 ed 2 mr b104) [(.ref ed), (.int 0), (.ref b104), (.int 0), (.ref ed)] := fun t_ k_ => (gc p103 st104) t_ (by
  refine XS.goto X104.here hx rfl (pc0 := 10) (pc' := 24) rfl (hb hby d17_10) (by decide) (by decide) ?_
  refine XS.astoreN X104.here hx rfl (hb hby d17_24) rfl rfl (l' := (oLRIR2 ed 2 mr b104)) rfl ?_
  refine XS.aloadN X104.here hx rfl (hb hby d17_25) rfl rfl ?_
  refine XS.iconst X104.here hx rfl (hb hby d17_26) ?_
  refine XS.aloadN X104.here hx rfl (hb hby d17_27) rfl rfl ?_
  refine XS.iconst X104.here hx rfl (hb hby d17_28) ?_
  refine XS.aloadN X104.here hx rfl (hb hby d17_29) rfl rfl ?_
  exact k_)
 have f108 := (D0.ext E104)
 obtain ⟨cl107, Ar107, -, S107, Ng107, -, -⟩ := id f108
 have p109 : GF p e below _ T104 m 32 (oLRIR2 ed 2 mr b104) [(.int 2), (.int 10), (.int 0), (.ref b104), (.int 0), (.ref ed)] := fun t_ k_ => p106 t_ (by
  refine X104.arraylength hx (by rw [e104]; exact Ar107.1) (State.isArrayOf_alike hZ.alike Ar107.2.1) (g := (mkF m 30 (oLRIR2 ed 2 mr b104) [(.ref ed), (.int 0), (.ref b104), (.int 0), (.ref ed)])) rfl rfl (hb hby d17_30) _ ?_
  rw [len_of S107 Ng107]
  show Steps p.tables e below (T104.setTop (mkF m 31 (oLRIR2 ed 2 mr b104) [(.int 10), (.int 0), (.ref b104), (.int 0), (.ref ed)])) _
  refine XS.iloadN X104.here hx rfl (hb hby d17_31) rfl ?_
  exact k_)
 obtain ⟨_, _, ⟨T110, L110, k110, n110⟩, -, X110, ⟨Lc110, hQ110, l110, y110, z110⟩, st110⟩ := Jvm.LawKit.callS X104 hx (y := oM15) hown (mvT hZ (own_w hw 145 rfl)) (mvT hZ (own_w hw 146 rfl)) (mvT hZ (own_w hw 83 rfl)) (mvT hZ (own_w hw 147 rfl)) (by decide) (backOf (W := 4) (rm18 l Z a0 hw []  h104 n0 (Nat.le_trans Z0 K105.1) ) hZ (own_w hw 147 rfl) (own_w hw 83 rfl) (by decide) (by decide)) (g := (mkF m 32 (oLRIR2 ed 2 mr b104) [(.int 2), (.int 10), (.int 0), (.ref b104), (.int 0), (.ref ed)])) rfl (by rw [hml]; rfl) (argsL := [(.int 10), (.int 2)]) (rest := [(.int 0), (.ref b104), (.int 0), (.ref ed)]) (lenOf pd1 rfl) rfl (by show 2 * 0 + _ ≤ _; exact Nat.le_of_eq rfl) (hb hby d17_32) (fun _ _ => ⟨rfl, e104, (by decide : 1 + 0 ≤ _), (by decide : 2 + 0 ≤ _)⟩)
 dsimp only [Pt.U, Pt.locs, Pt.cells, Pt.slots] at X110 l110 y110 z110 st110 hQ110
 subst l110 y110 z110
 obtain ⟨rfl, N110q, q110_hh⟩ := hQ110
 have N110 := Fr.app N0 N110q
 obtain ⟨cl111, Ar111, q111, -, -, -, -⟩ := id V104
 have f112 := (D3.ext E104)
 have f113 := (D2.ext E104)
 obtain ⟨T111, h111, L111, X111, e111, N111, Kc111, V111, st111⟩ := cpA X110 hx hZ hown (own_w hw 148 rfl) (own_w hw 151 rfl) (own_w hw 149 rfl) (own_w hw 150 rfl) q110_hh f108 V104 (us := [(.ref x0), (.ref x1)]) (Or.inr ⟨rfl, rfl, ⟨Sto.ofV Ar111 q111 O104 (Ins.of_exa f113 (own_w hw 87 rfl)), ⟨Sto.ofV Ar111 q111 O104 (Ins.of_exa f112 (own_w hw 87 rfl)), trivial⟩⟩⟩) (by decide) (by decide) (by decide) (by decide) (by decide) rfl (by decide) N110 ge_b104 (g := (mkF m 35 (oLRIR2 ed 2 mr b104) [(.int 2), (.int 0), (.ref b104), (.int 0), (.ref ed)])) rfl (by rw [hml]; rfl) rfl (hb hby d17_35) (by decide) (W := 0) (by show 2 * 0 + _ ≤ _; exact Nat.le_of_eq rfl) (by decide)
 have K114 : Keep h0 h111 [] := K105.trans Kc111 (allS (Or.inr sz_b104) all0)
 have VV111 : Arv Z h111 b104 k104 (.object "java/lang/Object") (2 : Int32) [(.ref x0), (.ref x1)] .null := V111
 have p115 : GF p e below _ T111 m 39 (oLRIR2 ed 2 mr b104) [(.ref b104)] := fun t_ k_ => (gc (gc p109 st110) st111) t_ (by
  refine XS.aloadN X111.here hx rfl (hb hby d17_38) rfl rfl ?_
  exact k_)
 obtain ⟨fs, hr, hrun, hended, hW, hsame⟩ := X111.leave (v := some (.ref b104)) (fun h => by rw [Bd.returns] at h; cases h)
 refine ⟨_, _, p115 _ (retOut X111 hx (w := (.ref b104)) (i := .areturn) Bd.returns rfl (Or.inr (Or.inr (Or.inr (Or.inr ⟨rfl, rfl, rfl⟩)))) (hb hby d17_39) hr), hrun, hended, _, _, rfl, ?_, ⟨_, rfl⟩, hW, hsame.mono (by decide) (by decide)⟩
 show Q17 Z ed kd x0 x1 de kde el ea kea em mr h0 n0 _ T111.heap _
 rw [e111]
 exact ⟨b104, k104, rfl, N111, K114, VV111, ge_b104, sz_b104⟩
theorem d16_0 : decode jdk_65_method_119_code 0 = .ok (.aload_n 0, 1) := by decide +kernel
theorem d16_1 : decode jdk_65_method_119_code 1 = .ok (.iload_n 1, 1) := by decide +kernel
theorem d16_2 : decode jdk_65_method_119_code 2 = .ok (.aload_n 0, 1) := by decide +kernel
theorem d16_3 : decode jdk_65_method_119_code 3 = .ok (.invokevirtual 86, 3) := by decide +kernel
theorem d16_6 : decode jdk_65_method_119_code 6 = .ok (.invokestatic 300, 3) := by decide +kernel
theorem d16_9 : decode jdk_65_method_119_code 9 = .ok (.areturn, 1) := by decide +kernel
theorem pd5 : parseMethodDescriptor "([Ljava/lang/Object;ILjava/lang/Class;)[Ljava/lang/Object;" = some ⟨[(.array (.object "java/lang/Object")), .int, (.object "java/lang/Class")], some (.array (.object "java/lang/Object"))⟩ := by decide +kernel
theorem pn16 : plainFor (⟨"java/util/Arrays", "copyOf", "([Ljava/lang/Object;I)[Ljava/lang/Object;"⟩ : MethodName) = true := plainFor_of_name (by first | (simp [plainName, overriddenIn]; done) | decide +kernel)
theorem ef_rm16 (m : MethodId) (ed : Addr) (kd : ClassId) (x0 : Addr) (x1 : Addr) (de : Addr) (kde : ClassId) (el : Addr) (ea : Addr) (kea : ClassId) (em : Addr) (mr : Addr) : entryFrame m #[(.ref ed), (.int 2)] 2 = mkF m 0 #[.val (.ref ed), .val (.int 2)] [] := by first | (simp [entryFrame, mkF, argsToLocals, Value.category]; done) | rfl
def Q16 (Z : State) (ed : Addr) (kd : ClassId) (x0 : Addr) (x1 : Addr) (de : Addr) (kde : ClassId) (el : Addr) (ea : Addr) (kea : ClassId) (em : Addr) (mr : Addr) (h0 : Heap) (n0 : Nat) (v : Option Value) (h : Heap) (L : List Loc) : Prop := ∃ (b : Addr) (kb : ClassId), v = some (.ref b) ∧ Fr n0 L ∧ (Keep h0 h []) ∧ (Arv Z h b kb (.object "java/lang/Object") (2 : Int32) [(.ref x0), (.ref x1)] .null) ∧ (n0 ≤ b) ∧ (h0.size ≤ b)
set_option maxRecDepth 65536 in
set_option maxHeartbeats 40000000 in
theorem rm16 (l : Launch) (Z : State) (a0 : Array Value) (hw : ∀ d ∈ tables_1, d.before a0 Z = true) (ws : List Jvm.Cond) (ed : Addr) (kd : ClassId) (x0 : Addr) (x1 : Addr) (de : Addr) (kde : ClassId) (el : Addr) (ea : Addr) (kea : ClassId) (em : Addr) (mr : Addr) (h0 : Heap) (n0 : Nat) (Z0 : n0 ≤ h0.size) (O1 : Old Z n0 h0) (G : own_H Z de kde el ea kea em mr) (D0 : Arv Z h0 ed kd (.object "java/lang/Object") (10 : Int32) [(.ref x0), (.ref x1), .null, .null, .null, .null, .null, .null, .null, .null] .null) (D1 : Exa Z h0 ed "[Ljava/lang/Object;") (D2 : Exa Z h0 x0 "com/example/arcward/arcward/model/Variable") (D3 : Exa Z h0 x1 "com/example/arcward/arcward/model/Variable") :
  MetFree l oM25 (head1 (Jvm.Cond.code oM25 jdk_65_method_119_code 2 (some (.array (.object "java/lang/Object"))) :: ws) ({ frames := 2, cells := 1, slots := 2, locals := 33 } : Room)) (fun a U => a = #[(.ref ed), (.int 2)] ∧ Z.Warmed39 U.vm ∧ U.heap = h0) (fun _ _ _ _ _ => True) (fun _ U o U' => ∃ v L, o = .returned v ∧ Q16 Z ed kd x0 x1 de kde el ea kea em mr h0 n0 v U'.heap L ∧ FrameEnd U o U' L ({ frames := 2, cells := 1, slots := 2, locals := 33 } : Room).cells ({ frames := 2, cells := 1, slots := 2, locals := 33 } : Room).slots) := by
 refine MetFree.of_bodySF pn16 hisR ?_
 intro p e s m args below meth c s₁ Bd hml0 hP hK
 obtain ⟨rfl, hZ, hh⟩ := hP
 have hx := Bd.exec
 have hby := Bd.bytes
 have hml : c.maxLocals = 2 := hml0
 have hown : s.vm.findClass "java/util/Arrays" = some m.cls := findClass_of_methodNamed Bd.named
 have hnm := (name_of_methodNamed Bd.named Bd.method).1
 have X0 : Stand p l e ({ frames := 2, cells := 1, slots := 2, locals := 33 } : Room) s m #[(.ref ed), (.int 2)] below meth c s₁ [] 0 0 := Stand.of_body Bd
 have e0 : s₁.heap = h0 := by rw [← hh, Bd.state]; rfl
 have N0 := Fr.nil n0
 have p0 : GF p e below (s₁.setTop (entryFrame m #[(.ref ed), (.int 2)] 2)) s₁ m 0 #[.val (.ref ed), .val (.int 2)] [] := fun t_ k_ => castTop (ef_rm16 m ed kd x0 x1 de kde el ea kea em mr) k_
 have p101 : GF p e below _ s₁ m 3 #[.val (.ref ed), .val (.int 2)] [(.ref ed), (.int 2), (.ref ed)] := fun t_ k_ => p0 t_ (by
  refine XS.aloadN X0.here hx rfl (hb hby d16_0) rfl rfl ?_
  refine XS.iloadN X0.here hx rfl (hb hby d16_1) rfl ?_
  refine XS.aloadN X0.here hx rfl (hb hby d16_2) rfl rfl ?_
  exact k_)
 obtain ⟨T102, X102, e102, st102⟩ := gcls X0 hx hZ hown (own_w hw 134 rfl) (own_w hw 135 rfl) (own_w hw 111 rfl) (own_w hw 137 rfl) (own_w hw 136 rfl) (own_w hw 138 rfl) e0 D1 G.2.2.2.2.2.2.2.2.2 (g := (mkF m 3 #[.val (.ref ed), .val (.int 2)] [(.ref ed), (.int 2), (.ref ed)])) rfl (by rw [hml]; rfl) rfl (hb hby d16_3) (by decide) (W := 2) (by show 2 * 0 + _ ≤ _; exact Nat.le_of_eq rfl) (by decide)
 obtain ⟨_, _, ⟨T103, L103, k103, n103⟩, -, X103, ⟨Lc103, hQ103, l103, y103, z103⟩, st103⟩ := Jvm.LawKit.callS X102 hx (y := oM26) hown (mvT hZ (own_w hw 140 rfl)) (mvT hZ (own_w hw 141 rfl)) (mvT hZ (own_w hw 132 rfl)) (mvT hZ (own_w hw 142 rfl)) (by decide) (backOf (W := 0) (rm17 l Z a0 hw [] ed kd x0 x1 de kde el ea kea em mr h0 n0 (Nat.le_trans Z0 (Keep.refl h0 []).1) O1 G D0 D1 D2 D3) hZ (own_w hw 142 rfl) (own_w hw 132 rfl) (by decide) (by decide)) (g := (mkF m 6 #[.val (.ref ed), .val (.int 2)] [(.ref mr), (.int 2), (.ref ed)])) rfl (by rw [hml]; rfl) (argsL := [(.ref ed), (.int 2), (.ref mr)]) (rest := []) (lenOf pd5 rfl) rfl (by show 2 * 0 + _ ≤ _; exact Nat.le_of_eq rfl) (hb hby d16_6) (fun _ _ => ⟨rfl, e102, (by decide : 0 + 1 ≤ _), (by decide : 0 + 2 ≤ _)⟩)
 dsimp only [Pt.U, Pt.locs, Pt.cells, Pt.slots] at X103 l103 y103 z103 st103 hQ103
 subst l103 y103 z103
 obtain ⟨x104, x105, rfl, N103q, q103_K, q103_V, q103_g, q103_z⟩ := hQ103
 have N103 := Fr.app N0 N103q
 have K106 : Keep h0 T103.heap [] := (Keep.refl h0 []).trans q103_K all0
 have ne_ed_x104 : ed ≠ x104 := Nat.ne_of_lt (Nat.lt_of_lt_of_le D0.lt q103_z)
 have ne_x0_x104 : x0 ≠ x104 := Nat.ne_of_lt (Nat.lt_of_lt_of_le D2.lt q103_z)
 have ne_x1_x104 : x1 ≠ x104 := Nat.ne_of_lt (Nat.lt_of_lt_of_le D3.lt q103_z)
 obtain ⟨fs, hr, hrun, hended, hW, hsame⟩ := X103.leave (v := some (.ref x104)) (fun h => by rw [Bd.returns] at h; cases h)
 refine ⟨_, _, (gc (gc p101 st102) st103) _ (retOut X103 hx (w := (.ref x104)) (i := .areturn) Bd.returns rfl (Or.inr (Or.inr (Or.inr (Or.inr ⟨rfl, rfl, rfl⟩)))) (hb hby d16_9) hr), hrun, hended, _, _, rfl, ?_, ⟨_, rfl⟩, hW, hsame.mono (by decide) (by decide)⟩
 show Q16 Z ed kd x0 x1 de kde el ea kea em mr h0 n0 _ T103.heap _
 exact ⟨x104, x105, rfl, N103, K106, q103_V, q103_g, (Nat.le_trans (Keep.refl h0 []).1 q103_z)⟩
theorem d15_0 : decode jdk_38_method_16_code 0 = .ok (.aload_n 0, 1) := by decide +kernel
theorem d15_1 : decode jdk_38_method_16_code 1 = .ok (.getfield 9, 3) := by decide +kernel
theorem d15_4 : decode jdk_38_method_16_code 4 = .ok (.aload_n 0, 1) := by decide +kernel
theorem d15_5 : decode jdk_38_method_16_code 5 = .ok (.getfield 48, 3) := by decide +kernel
theorem d15_8 : decode jdk_38_method_16_code 8 = .ok (.invokestatic 66, 3) := by decide +kernel
theorem d15_11 : decode jdk_38_method_16_code 11 = .ok (.areturn, 1) := by decide +kernel
theorem pd6 : parseMethodDescriptor "([Ljava/lang/Object;I)[Ljava/lang/Object;" = some ⟨[(.array (.object "java/lang/Object")), .int], some (.array (.object "java/lang/Object"))⟩ := by decide +kernel
theorem pn15 : plainFor (⟨"java/util/ArrayList", "toArray", "()[Ljava/lang/Object;"⟩ : MethodName) = true := plainFor_of_name (by first | (simp [plainName, overriddenIn]; done) | decide +kernel)
theorem ef_rm15 (m : MethodId) (a1 : Addr) (mc : Int32) (ed : Addr) (kd : ClassId) (x0 : Addr) (x1 : Addr) (de : Addr) (kde : ClassId) (el : Addr) (ea : Addr) (kea : ClassId) (em : Addr) (mr : Addr) : entryFrame m #[(.ref a1)] 1 = mkF m 0 #[.val (.ref a1)] [] := by first | (simp [entryFrame, mkF, argsToLocals, Value.category]; done) | rfl
def Q15 (Z : State) (a1 : Addr) (mc : Int32) (ed : Addr) (kd : ClassId) (x0 : Addr) (x1 : Addr) (de : Addr) (kde : ClassId) (el : Addr) (ea : Addr) (kea : ClassId) (em : Addr) (mr : Addr) (h0 : Heap) (n0 : Nat) (v : Option Value) (h : Heap) (L : List Loc) : Prop := ∃ (b : Addr) (kb : ClassId), v = some (.ref b) ∧ Fr n0 L ∧ (Keep h0 h []) ∧ (Arv Z h b kb (.object "java/lang/Object") (2 : Int32) [(.ref x0), (.ref x1)] .null) ∧ (n0 ≤ b) ∧ (h0.size ≤ b)
set_option maxRecDepth 65536 in
set_option maxHeartbeats 40000000 in
theorem rm15 (l : Launch) (Z : State) (a0 : Array Value) (hw : ∀ d ∈ tables_1, d.before a0 Z = true) (ws : List Jvm.Cond) (a1 : Addr) (mc : Int32) (ed : Addr) (kd : ClassId) (x0 : Addr) (x1 : Addr) (de : Addr) (kde : ClassId) (el : Addr) (ea : Addr) (kea : ClassId) (em : Addr) (mr : Addr) (h0 : Heap) (n0 : Nat) (Z0 : n0 ≤ h0.size) (O1 : Old Z n0 h0) (G : own_H Z de kde el ea kea em mr) (A0 : Exa Z h0 a1 "java/util/ArrayList") (A1 : Fld Z h0 a1 "java/util/AbstractList" "modCount" "I" (.int mc)) (A2 : Fld Z h0 a1 "java/util/ArrayList" "elementData" "[Ljava/lang/Object;" (.ref ed)) (A3 : Fld Z h0 a1 "java/util/ArrayList" "size" "I" (.int 2)) (A4 : Arv Z h0 ed kd (.object "java/lang/Object") (10 : Int32) [(.ref x0), (.ref x1), .null, .null, .null, .null, .null, .null, .null, .null] .null) (A5 : Exa Z h0 ed "[Ljava/lang/Object;") (A6 : Exa Z h0 x0 "com/example/arcward/arcward/model/Variable") (A7 : Exa Z h0 x1 "com/example/arcward/arcward/model/Variable") :
  MetFree l oM24 (head1 (Jvm.Cond.code oM24 jdk_38_method_16_code 1 (some (.array (.object "java/lang/Object"))) :: ws) ({ frames := 3, cells := 1, slots := 2, locals := 46 } : Room)) (fun a U => a = #[(.ref a1)] ∧ Z.Warmed39 U.vm ∧ U.heap = h0) (fun _ _ _ _ _ => True) (fun _ U o U' => ∃ v L, o = .returned v ∧ Q15 Z a1 mc ed kd x0 x1 de kde el ea kea em mr h0 n0 v U'.heap L ∧ FrameEnd U o U' L ({ frames := 3, cells := 1, slots := 2, locals := 46 } : Room).cells ({ frames := 3, cells := 1, slots := 2, locals := 46 } : Room).slots) := by
 refine MetFree.of_bodySF pn15 hisR ?_
 intro p e s m args below meth c s₁ Bd hml0 hP hK
 obtain ⟨rfl, hZ, hh⟩ := hP
 have hx := Bd.exec
 have hby := Bd.bytes
 have hml : c.maxLocals = 1 := hml0
 have hown : s.vm.findClass "java/util/ArrayList" = some m.cls := findClass_of_methodNamed Bd.named
 have hnm := (name_of_methodNamed Bd.named Bd.method).1
 have X0 : Stand p l e ({ frames := 3, cells := 1, slots := 2, locals := 46 } : Room) s m #[(.ref a1)] below meth c s₁ [] 0 0 := Stand.of_body Bd
 have e0 : s₁.heap = h0 := by rw [← hh, Bd.state]; rfl
 have N0 := Fr.nil n0
 have p0 : GF p e below (s₁.setTop (entryFrame m #[(.ref a1)] 1)) s₁ m 0 #[.val (.ref a1)] [] := fun t_ k_ => castTop (ef_rm15 m a1 mc ed kd x0 x1 de kde el ea kea em mr) k_
 have p101 : GF p e below _ s₁ m 1 #[.val (.ref a1)] [(.ref a1)] := fun t_ k_ => p0 t_ (by
  refine XS.aloadN X0.here hx rfl (hb hby d15_0) rfl rfl ?_
  exact k_)
 obtain ⟨T102, X102, e102, st102⟩ := getF X0 hx hZ hown (host := "") (Or.inl (own_w hw 25 rfl)) Via.refl e0 A2 (g := (mkF m 1 #[.val (.ref a1)] [(.ref a1)])) rfl rfl (hb hby d15_1)
 have p103 : GF p e below _ T102 m 5 #[.val (.ref a1)] [(.ref a1), (.ref ed)] := fun t_ k_ => (gc p101 st102) t_ (by
  refine XS.aloadN X102.here hx rfl (hb hby d15_4) rfl rfl ?_
  exact k_)
 obtain ⟨T104, X104, e104, st104⟩ := getF X102 hx hZ hown (host := "") (Or.inl (own_w hw 64 rfl)) Via.refl e102 A3 (g := (mkF m 5 #[.val (.ref a1)] [(.ref a1), (.ref ed)])) rfl rfl (hb hby d15_5)
 obtain ⟨_, _, ⟨T105, L105, k105, n105⟩, -, X105, ⟨Lc105, hQ105, l105, y105, z105⟩, st105⟩ := Jvm.LawKit.callS X104 hx (y := oM25) hown (mvT hZ (own_w hw 130 rfl)) (mvT hZ (own_w hw 131 rfl)) (mvT hZ (own_w hw 132 rfl)) (mvT hZ (own_w hw 133 rfl)) (by decide) (backOf (W := 0) (rm16 l Z a0 hw [] ed kd x0 x1 de kde el ea kea em mr h0 n0 (Nat.le_trans Z0 (Keep.refl h0 []).1) O1 G A4 A5 A6 A7) hZ (own_w hw 133 rfl) (own_w hw 132 rfl) (by decide) (by decide)) (g := (mkF m 8 #[.val (.ref a1)] [(.int 2), (.ref ed)])) rfl (by rw [hml]; rfl) (argsL := [(.ref ed), (.int 2)]) (rest := []) (lenOf pd6 rfl) rfl (by show 2 * 0 + _ ≤ _; exact Nat.le_of_eq rfl) (hb hby d15_8) (fun _ _ => ⟨rfl, e104, (by decide : 0 + 1 ≤ _), (by decide : 0 + 2 ≤ _)⟩)
 dsimp only [Pt.U, Pt.locs, Pt.cells, Pt.slots] at X105 l105 y105 z105 st105 hQ105
 subst l105 y105 z105
 obtain ⟨x106, x107, rfl, N105q, q105_K, q105_V, q105_g, q105_z⟩ := hQ105
 have N105 := Fr.app N0 N105q
 have K108 : Keep h0 T105.heap [] := (Keep.refl h0 []).trans q105_K all0
 have ne_a1_x106 : a1 ≠ x106 := Nat.ne_of_lt (Nat.lt_of_lt_of_le A0.lt q105_z)
 have ne_ed_x106 : ed ≠ x106 := Nat.ne_of_lt (Nat.lt_of_lt_of_le A4.lt q105_z)
 have ne_x0_x106 : x0 ≠ x106 := Nat.ne_of_lt (Nat.lt_of_lt_of_le A6.lt q105_z)
 have ne_x1_x106 : x1 ≠ x106 := Nat.ne_of_lt (Nat.lt_of_lt_of_le A7.lt q105_z)
 obtain ⟨fs, hr, hrun, hended, hW, hsame⟩ := X105.leave (v := some (.ref x106)) (fun h => by rw [Bd.returns] at h; cases h)
 refine ⟨_, _, (gc (gc p103 st104) st105) _ (retOut X105 hx (w := (.ref x106)) (i := .areturn) Bd.returns rfl (Or.inr (Or.inr (Or.inr (Or.inr ⟨rfl, rfl, rfl⟩)))) (hb hby d15_11) hr), hrun, hended, _, _, rfl, ?_, ⟨_, rfl⟩, hW, hsame.mono (by decide) (by decide)⟩
 show Q15 Z a1 mc ed kd x0 x1 de kde el ea kea em mr h0 n0 _ T105.heap _
 exact ⟨x106, x107, rfl, N105, K108, q105_V, q105_g, (Nat.le_trans (Keep.refl h0 []).1 q105_z)⟩
theorem d14_0 : decode jdk_38_method_9_code 0 = .ok (.aload_n 0, 1) := by decide +kernel
theorem d14_1 : decode jdk_38_method_9_code 1 = .ok (.getfield 48, 3) := by decide +kernel
theorem d14_4 : decode jdk_38_method_9_code 4 = .ok (.ifCond .ne 7, 3) := by decide +kernel
theorem d14_11 : decode jdk_38_method_9_code 11 = .ok (.iconst 0, 1) := by decide +kernel
theorem d14_12 : decode jdk_38_method_9_code 12 = .ok (.ireturn, 1) := by decide +kernel
theorem pn14 : plainFor (⟨"java/util/ArrayList", "isEmpty", "()Z"⟩ : MethodName) = true := plainFor_of_name (by first | (simp [plainName, overriddenIn]; done) | decide +kernel)
theorem ef_rm14_2 (m : MethodId) (a1 : Addr) : entryFrame m #[(.ref a1)] 1 = mkF m 0 #[.val (.ref a1)] [] := by first | (simp [entryFrame, mkF, argsToLocals, Value.category]; done) | rfl
def Q14_2 (Z : State) (a1 : Addr) (h0 : Heap) (n0 : Nat) (v : Option Value) (h : Heap) (L : List Loc) : Prop := v = some (.int 0) ∧ Fr n0 L ∧ (h = h0)
set_option maxRecDepth 65536 in
set_option maxHeartbeats 40000000 in
theorem rm14_2 (l : Launch) (Z : State) (a0 : Array Value) (hw : ∀ d ∈ tables_1, d.before a0 Z = true) (ws : List Jvm.Cond) (a1 : Addr) (h0 : Heap) (n0 : Nat) (Z0 : n0 ≤ h0.size) (Fs : Fld Z h0 a1 "java/util/ArrayList" "size" "I" (.int 2)) :
  MetFree l oM23 (head1 (Jvm.Cond.code oM23 jdk_38_method_9_code 1 (some .boolean) :: ws) ({ frames := 0, cells := 0, slots := 0, locals := 0 } : Room)) (fun a U => a = #[(.ref a1)] ∧ Z.Warmed39 U.vm ∧ U.heap = h0) (fun _ _ _ _ _ => True) (fun _ U o U' => ∃ v L, o = .returned v ∧ Q14_2 Z a1 h0 n0 v U'.heap L ∧ FrameEnd U o U' L ({ frames := 0, cells := 0, slots := 0, locals := 0 } : Room).cells ({ frames := 0, cells := 0, slots := 0, locals := 0 } : Room).slots) := by
 refine MetFree.of_bodySF pn14 hisR ?_
 intro p e s m args below meth c s₁ Bd hml0 hP hK
 obtain ⟨rfl, hZ, hh⟩ := hP
 have hx := Bd.exec
 have hby := Bd.bytes
 have hml : c.maxLocals = 1 := hml0
 have hown : s.vm.findClass "java/util/ArrayList" = some m.cls := findClass_of_methodNamed Bd.named
 have hnm := (name_of_methodNamed Bd.named Bd.method).1
 have X0 : Stand p l e ({ frames := 0, cells := 0, slots := 0, locals := 0 } : Room) s m #[(.ref a1)] below meth c s₁ [] 0 0 := Stand.of_body Bd
 have e0 : s₁.heap = h0 := by rw [← hh, Bd.state]; rfl
 have N0 := Fr.nil n0
 have p0 : GF p e below (s₁.setTop (entryFrame m #[(.ref a1)] 1)) s₁ m 0 #[.val (.ref a1)] [] := fun t_ k_ => castTop (ef_rm14_2 m a1) k_
 have p101 : GF p e below _ s₁ m 1 #[.val (.ref a1)] [(.ref a1)] := fun t_ k_ => p0 t_ (by
  refine XS.aloadN X0.here hx rfl (hb hby d14_0) rfl rfl ?_
  exact k_)
 obtain ⟨T102, X102, e102, st102⟩ := getF X0 hx hZ hown (host := "") (Or.inl (own_w hw 64 rfl)) Via.refl e0 Fs (g := (mkF m 1 #[.val (.ref a1)] [(.ref a1)])) rfl rfl (hb hby d14_1)
 have p103 : GF p e below _ T102 m 12 #[.val (.ref a1)] [(.int 0)] := fun t_ k_ => (gc p101 st102) t_ (by
  refine XS.ifYes X102.here hx rfl (pc0 := 4) (pc' := 11) rfl (hb hby d14_4) rfl ((if0 _ _).trans (feq (by decide : ¬ ((2 : Int32) = (0 : Int32)))).2) (by decide) (by decide) ?_
  refine XS.iconst X102.here hx rfl (hb hby d14_11) ?_
  exact k_)
 obtain ⟨fs, hr, hrun, hended, hW, hsame⟩ := X102.leave (v := some (.int 0)) (fun h => by rw [Bd.returns] at h; cases h)
 refine ⟨_, _, p103 _ (retN X102 hx (t := .boolean) Bd.returns (by simp) (hb hby d14_12) hr), hrun, hended, _, _, rfl, ?_, ⟨_, rfl⟩, hW, hsame.mono (by decide) (by decide)⟩
 show Q14_2 Z a1 h0 n0 _ T102.heap _
 rw [e102]
 exact ⟨rfl, N0, rfl⟩
theorem d14_7 : decode jdk_38_method_9_code 7 = .ok (.iconst 1, 1) := by decide +kernel
theorem d14_8 : decode jdk_38_method_9_code 8 = .ok (.goto 4, 3) := by decide +kernel
theorem ef_rm14_0 (m : MethodId) (a1 : Addr) : entryFrame m #[(.ref a1)] 1 = mkF m 0 #[.val (.ref a1)] [] := by first | (simp [entryFrame, mkF, argsToLocals, Value.category]; done) | rfl
def Q14_0 (Z : State) (a1 : Addr) (h0 : Heap) (n0 : Nat) (v : Option Value) (h : Heap) (L : List Loc) : Prop := v = some (.int 1) ∧ Fr n0 L ∧ (h = h0)
set_option maxRecDepth 65536 in
set_option maxHeartbeats 40000000 in
theorem rm14_0 (l : Launch) (Z : State) (a0 : Array Value) (hw : ∀ d ∈ tables_1, d.before a0 Z = true) (ws : List Jvm.Cond) (a1 : Addr) (h0 : Heap) (n0 : Nat) (Z0 : n0 ≤ h0.size) (Fs : Fld Z h0 a1 "java/util/ArrayList" "size" "I" (.int 0)) :
  MetFree l oM23 (head1 (Jvm.Cond.code oM23 jdk_38_method_9_code 1 (some .boolean) :: ws) ({ frames := 0, cells := 0, slots := 0, locals := 0 } : Room)) (fun a U => a = #[(.ref a1)] ∧ Z.Warmed39 U.vm ∧ U.heap = h0) (fun _ _ _ _ _ => True) (fun _ U o U' => ∃ v L, o = .returned v ∧ Q14_0 Z a1 h0 n0 v U'.heap L ∧ FrameEnd U o U' L ({ frames := 0, cells := 0, slots := 0, locals := 0 } : Room).cells ({ frames := 0, cells := 0, slots := 0, locals := 0 } : Room).slots) := by
 refine MetFree.of_bodySF pn14 hisR ?_
 intro p e s m args below meth c s₁ Bd hml0 hP hK
 obtain ⟨rfl, hZ, hh⟩ := hP
 have hx := Bd.exec
 have hby := Bd.bytes
 have hml : c.maxLocals = 1 := hml0
 have hown : s.vm.findClass "java/util/ArrayList" = some m.cls := findClass_of_methodNamed Bd.named
 have hnm := (name_of_methodNamed Bd.named Bd.method).1
 have X0 : Stand p l e ({ frames := 0, cells := 0, slots := 0, locals := 0 } : Room) s m #[(.ref a1)] below meth c s₁ [] 0 0 := Stand.of_body Bd
 have e0 : s₁.heap = h0 := by rw [← hh, Bd.state]; rfl
 have N0 := Fr.nil n0
 have p0 : GF p e below (s₁.setTop (entryFrame m #[(.ref a1)] 1)) s₁ m 0 #[.val (.ref a1)] [] := fun t_ k_ => castTop (ef_rm14_0 m a1) k_
 have p101 : GF p e below _ s₁ m 1 #[.val (.ref a1)] [(.ref a1)] := fun t_ k_ => p0 t_ (by
  refine XS.aloadN X0.here hx rfl (hb hby d14_0) rfl rfl ?_
  exact k_)
 obtain ⟨T102, X102, e102, st102⟩ := getF X0 hx hZ hown (host := "") (Or.inl (own_w hw 64 rfl)) Via.refl e0 Fs (g := (mkF m 1 #[.val (.ref a1)] [(.ref a1)])) rfl rfl (hb hby d14_1)
 have p103 : GF p e below _ T102 m 12 #[.val (.ref a1)] [(.int 1)] := fun t_ k_ => (gc p101 st102) t_ (by
  refine XS.ifNo X102.here hx rfl (hb hby d14_4) rfl ((if0 _ _).trans (teq (by decide : ((0 : Int32) = (0 : Int32)))).2) ?_
  refine XS.iconst X102.here hx rfl (hb hby d14_7) ?_
  refine XS.goto X102.here hx rfl (pc0 := 8) (pc' := 12) rfl (hb hby d14_8) (by decide) (by decide) ?_
  exact k_)
 obtain ⟨fs, hr, hrun, hended, hW, hsame⟩ := X102.leave (v := some (.int 1)) (fun h => by rw [Bd.returns] at h; cases h)
 refine ⟨_, _, p103 _ (retN X102 hx (t := .boolean) Bd.returns (by simp) (hb hby d14_12) hr), hrun, hended, _, _, rfl, ?_, ⟨_, rfl⟩, hW, hsame.mono (by decide) (by decide)⟩
 show Q14_0 Z a1 h0 n0 _ T102.heap _
 rw [e102]
 exact ⟨rfl, N0, rfl⟩
theorem d22_0 : decode jdk_47_method_1_code 0 = .ok (.aload_n 0, 1) := by decide +kernel
theorem d22_1 : decode jdk_47_method_1_code 1 = .ok (.invokespecial 1, 3) := by decide +kernel
theorem d22_4 : decode jdk_47_method_1_code 4 = .ok (.return_, 1) := by decide +kernel
theorem pn22 : plainFor (⟨"java/util/ImmutableCollections$AbstractImmutableCollection", "<init>", "()V"⟩ : MethodName) = true := plainFor_of_name (by first | (simp [plainName, overriddenIn]; done) | decide +kernel)
theorem ef_rm22 (m : MethodId) (a1 : Addr) : entryFrame m #[(.ref a1)] 1 = mkF m 0 #[.val (.ref a1)] [] := by first | (simp [entryFrame, mkF, argsToLocals, Value.category]; done) | rfl
def Q22 (Z : State) (a1 : Addr) (h0 : Heap) (n0 : Nat) (v : Option Value) (h : Heap) (L : List Loc) : Prop := v = none ∧ Fr n0 L ∧ (h = h0)
set_option maxRecDepth 65536 in
set_option maxHeartbeats 40000000 in
theorem rm22 (l : Launch) (Z : State) (a0 : Array Value) (hw : ∀ d ∈ tables_1, d.before a0 Z = true) (ws : List Jvm.Cond) (a1 : Addr) (h0 : Heap) (n0 : Nat) (Z0 : n0 ≤ h0.size) :
  MetFree l oM29 (head1 (Jvm.Cond.code oM29 jdk_47_method_1_code 1 none :: ws) ({ frames := 2, cells := 0, slots := 0, locals := 24 } : Room)) (fun a U => a = #[(.ref a1)] ∧ Z.Warmed39 U.vm ∧ U.heap = h0) (fun _ _ _ _ _ => True) (fun _ U o U' => ∃ v L, o = .returned v ∧ Q22 Z a1 h0 n0 v U'.heap L ∧ FrameEnd U o U' L ({ frames := 2, cells := 0, slots := 0, locals := 24 } : Room).cells ({ frames := 2, cells := 0, slots := 0, locals := 24 } : Room).slots) := by
 refine MetFree.of_bodySF pn22 hisR ?_
 intro p e s m args below meth c s₁ Bd hml0 hP hK
 obtain ⟨rfl, hZ, hh⟩ := hP
 have hx := Bd.exec
 have hby := Bd.bytes
 have hml : c.maxLocals = 1 := hml0
 have hown : s.vm.findClass "java/util/ImmutableCollections$AbstractImmutableCollection" = some m.cls := findClass_of_methodNamed Bd.named
 have hnm := (name_of_methodNamed Bd.named Bd.method).1
 have X0 : Stand p l e ({ frames := 2, cells := 0, slots := 0, locals := 24 } : Room) s m #[(.ref a1)] below meth c s₁ [] 0 0 := Stand.of_body Bd
 have e0 : s₁.heap = h0 := by rw [← hh, Bd.state]; rfl
 have N0 := Fr.nil n0
 have p0 : GF p e below (s₁.setTop (entryFrame m #[(.ref a1)] 1)) s₁ m 0 #[.val (.ref a1)] [] := fun t_ k_ => castTop (ef_rm22 m a1) k_
 have p101 : GF p e below _ s₁ m 1 #[.val (.ref a1)] [(.ref a1)] := fun t_ k_ => p0 t_ (by
  refine XS.aloadN X0.here hx rfl (hb hby d22_0) rfl rfl ?_
  exact k_)
 obtain ⟨_, _, ⟨T102, L102, k102, n102⟩, -, X102, ⟨Lc102, hQ102, l102, y102, z102⟩, st102⟩ := X0.specialBack hx (y := oM16) rfl hown (mvT hZ (own_w hw 174 rfl)) (mvT hZ (own_w hw 14 rfl)) (mvT hZ (own_w hw 18 rfl)) (by decide) (backOf (W := 0) (rm3 l Z a0 hw [] a1 h0 n0 (Nat.le_trans Z0 (Keep.refl h0 []).1) ) hZ (own_w hw 18 rfl) (own_w hw 17 rfl) (by decide) (by decide)) (g := (mkF m 1 #[.val (.ref a1)] [(.ref a1)])) rfl (by rw [hml]; rfl) (Steps.refl _) (a := a1) (argsL := []) (rest := []) (lenOf pd0 rfl) rfl (by show 2 * 0 + _ ≤ _; exact Nat.le_of_eq rfl) (hb hby d22_1) (fun _ _ => ⟨rfl, e0, (by decide : 0 + 0 ≤ _), (by decide : 0 + 0 ≤ _)⟩)
 dsimp only [Pt.U, Pt.locs, Pt.cells, Pt.slots] at X102 l102 y102 z102 st102 hQ102
 subst l102 y102 z102
 obtain ⟨rfl, N102q, q102_hh⟩ := hQ102
 have N102 := Fr.app N0 N102q
 obtain ⟨fs, hr, hrun, hended, hW, hsame⟩ := X102.leave (v := none) (fun _ => rfl)
 refine ⟨_, _, (gcT p101 st102) _ (X102.returnOut hx Bd.returns (hb hby d22_4) hr), hrun, hended, _, _, rfl, ?_, ⟨_, rfl⟩, hW, hsame.mono (by decide) (by decide)⟩
 show Q22 Z a1 h0 n0 _ T102.heap _
 rw [q102_hh]
 exact ⟨rfl, N102, rfl⟩
theorem d21_0 : decode jdk_46_method_1_code 0 = .ok (.aload_n 0, 1) := by decide +kernel
theorem d21_1 : decode jdk_46_method_1_code 1 = .ok (.invokespecial 1, 3) := by decide +kernel
theorem d21_4 : decode jdk_46_method_1_code 4 = .ok (.return_, 1) := by decide +kernel
theorem pn21 : plainFor (⟨"java/util/ImmutableCollections$AbstractImmutableList", "<init>", "()V"⟩ : MethodName) = true := plainFor_of_name (by first | (simp [plainName, overriddenIn]; done) | decide +kernel)
theorem ef_rm21 (m : MethodId) (a1 : Addr) : entryFrame m #[(.ref a1)] 1 = mkF m 0 #[.val (.ref a1)] [] := by first | (simp [entryFrame, mkF, argsToLocals, Value.category]; done) | rfl
def Q21 (Z : State) (a1 : Addr) (h0 : Heap) (n0 : Nat) (v : Option Value) (h : Heap) (L : List Loc) : Prop := v = none ∧ Fr n0 L ∧ (h = h0)
set_option maxRecDepth 65536 in
set_option maxHeartbeats 40000000 in
theorem rm21 (l : Launch) (Z : State) (a0 : Array Value) (hw : ∀ d ∈ tables_1, d.before a0 Z = true) (ws : List Jvm.Cond) (a1 : Addr) (h0 : Heap) (n0 : Nat) (Z0 : n0 ≤ h0.size) :
  MetFree l oM30 (head1 (Jvm.Cond.code oM30 jdk_46_method_1_code 1 none :: ws) ({ frames := 3, cells := 0, slots := 0, locals := 36 } : Room)) (fun a U => a = #[(.ref a1)] ∧ Z.Warmed39 U.vm ∧ U.heap = h0) (fun _ _ _ _ _ => True) (fun _ U o U' => ∃ v L, o = .returned v ∧ Q21 Z a1 h0 n0 v U'.heap L ∧ FrameEnd U o U' L ({ frames := 3, cells := 0, slots := 0, locals := 36 } : Room).cells ({ frames := 3, cells := 0, slots := 0, locals := 36 } : Room).slots) := by
 refine MetFree.of_bodySF pn21 hisR ?_
 intro p e s m args below meth c s₁ Bd hml0 hP hK
 obtain ⟨rfl, hZ, hh⟩ := hP
 have hx := Bd.exec
 have hby := Bd.bytes
 have hml : c.maxLocals = 1 := hml0
 have hown : s.vm.findClass "java/util/ImmutableCollections$AbstractImmutableList" = some m.cls := findClass_of_methodNamed Bd.named
 have hnm := (name_of_methodNamed Bd.named Bd.method).1
 have X0 : Stand p l e ({ frames := 3, cells := 0, slots := 0, locals := 36 } : Room) s m #[(.ref a1)] below meth c s₁ [] 0 0 := Stand.of_body Bd
 have e0 : s₁.heap = h0 := by rw [← hh, Bd.state]; rfl
 have N0 := Fr.nil n0
 have p0 : GF p e below (s₁.setTop (entryFrame m #[(.ref a1)] 1)) s₁ m 0 #[.val (.ref a1)] [] := fun t_ k_ => castTop (ef_rm21 m a1) k_
 have p101 : GF p e below _ s₁ m 1 #[.val (.ref a1)] [(.ref a1)] := fun t_ k_ => p0 t_ (by
  refine XS.aloadN X0.here hx rfl (hb hby d21_0) rfl rfl ?_
  exact k_)
 obtain ⟨_, _, ⟨T102, L102, k102, n102⟩, -, X102, ⟨Lc102, hQ102, l102, y102, z102⟩, st102⟩ := X0.specialBack hx (y := oM29) rfl hown (mvT hZ (own_w hw 168 rfl)) (mvT hZ (own_w hw 169 rfl)) (mvT hZ (own_w hw 173 rfl)) (by decide) (backOf (W := 0) (rm22 l Z a0 hw [] a1 h0 n0 (Nat.le_trans Z0 (Keep.refl h0 []).1) ) hZ (own_w hw 173 rfl) (own_w hw 172 rfl) (by decide) (by decide)) (g := (mkF m 1 #[.val (.ref a1)] [(.ref a1)])) rfl (by rw [hml]; rfl) (Steps.refl _) (a := a1) (argsL := []) (rest := []) (lenOf pd0 rfl) rfl (by show 2 * 0 + _ ≤ _; exact Nat.le_of_eq rfl) (hb hby d21_1) (fun _ _ => ⟨rfl, e0, (by decide : 0 + 0 ≤ _), (by decide : 0 + 0 ≤ _)⟩)
 dsimp only [Pt.U, Pt.locs, Pt.cells, Pt.slots] at X102 l102 y102 z102 st102 hQ102
 subst l102 y102 z102
 obtain ⟨rfl, N102q, q102_hh⟩ := hQ102
 have N102 := Fr.app N0 N102q
 obtain ⟨fs, hr, hrun, hended, hW, hsame⟩ := X102.leave (v := none) (fun _ => rfl)
 refine ⟨_, _, (gcT p101 st102) _ (X102.returnOut hx Bd.returns (hb hby d21_4) hr), hrun, hended, _, _, rfl, ?_, ⟨_, rfl⟩, hW, hsame.mono (by decide) (by decide)⟩
 show Q21 Z a1 h0 n0 _ T102.heap _
 rw [q102_hh]
 exact ⟨rfl, N102, rfl⟩
theorem d23_0 : decode jdk_31_method_10_code 0 = .ok (.aload_n 0, 1) := by decide +kernel
theorem d23_1 : decode jdk_31_method_10_code 1 = .ok (.ifnonnull 11, 3) := by decide +kernel
theorem d23_12 : decode jdk_31_method_10_code 12 = .ok (.aload_n 0, 1) := by decide +kernel
theorem d23_13 : decode jdk_31_method_10_code 13 = .ok (.areturn, 1) := by decide +kernel
theorem pn23 : plainFor (⟨"java/util/Objects", "requireNonNull", "(Ljava/lang/Object;)Ljava/lang/Object;"⟩ : MethodName) = true := plainFor_of_name (by first | (simp [plainName, overriddenIn]; done) | decide +kernel)
theorem ef_rm23 (m : MethodId) (a1 : Addr) : entryFrame m #[(.ref a1)] 1 = mkF m 0 #[.val (.ref a1)] [] := by first | (simp [entryFrame, mkF, argsToLocals, Value.category]; done) | rfl
def Q23 (Z : State) (a1 : Addr) (h0 : Heap) (n0 : Nat) (v : Option Value) (h : Heap) (L : List Loc) : Prop := v = some (.ref a1) ∧ Fr n0 L ∧ (h = h0)
set_option maxRecDepth 65536 in
set_option maxHeartbeats 40000000 in
theorem rm23 (l : Launch) (Z : State) (a0 : Array Value) (hw : ∀ d ∈ tables_1, d.before a0 Z = true) (ws : List Jvm.Cond) (a1 : Addr) (h0 : Heap) (n0 : Nat) (Z0 : n0 ≤ h0.size) :
  MetFree l oM43 (head1 (Jvm.Cond.code oM43 jdk_31_method_10_code 1 (some (.object "java/lang/Object")) :: ws) ({ frames := 0, cells := 0, slots := 0, locals := 0 } : Room)) (fun a U => a = #[(.ref a1)] ∧ Z.Warmed39 U.vm ∧ U.heap = h0) (fun _ _ _ _ _ => True) (fun _ U o U' => ∃ v L, o = .returned v ∧ Q23 Z a1 h0 n0 v U'.heap L ∧ FrameEnd U o U' L ({ frames := 0, cells := 0, slots := 0, locals := 0 } : Room).cells ({ frames := 0, cells := 0, slots := 0, locals := 0 } : Room).slots) := by
 refine MetFree.of_bodySF pn23 hisR ?_
 intro p e s m args below meth c s₁ Bd hml0 hP hK
 obtain ⟨rfl, hZ, hh⟩ := hP
 have hx := Bd.exec
 have hby := Bd.bytes
 have hml : c.maxLocals = 1 := hml0
 have hown : s.vm.findClass "java/util/Objects" = some m.cls := findClass_of_methodNamed Bd.named
 have hnm := (name_of_methodNamed Bd.named Bd.method).1
 have X0 : Stand p l e ({ frames := 0, cells := 0, slots := 0, locals := 0 } : Room) s m #[(.ref a1)] below meth c s₁ [] 0 0 := Stand.of_body Bd
 have e0 : s₁.heap = h0 := by rw [← hh, Bd.state]; rfl
 have N0 := Fr.nil n0
 have p0 : GF p e below (s₁.setTop (entryFrame m #[(.ref a1)] 1)) s₁ m 0 #[.val (.ref a1)] [] := fun t_ k_ => castTop (ef_rm23 m a1) k_
 have p101 : GF p e below _ s₁ m 13 #[.val (.ref a1)] [(.ref a1)] := fun t_ k_ => p0 t_ (by
  refine XS.aloadN X0.here hx rfl (hb hby d23_0) rfl rfl ?_
  refine XS.ifnonnullYes X0.here hx rfl (pc0 := 1) (pc' := 12) rfl (hb hby d23_1) rfl (by decide) (by decide) ?_
  refine XS.aloadN X0.here hx rfl (hb hby d23_12) rfl rfl ?_
  exact k_)
 obtain ⟨fs, hr, hrun, hended, hW, hsame⟩ := X0.leave (v := some (.ref a1)) (fun h => by rw [Bd.returns] at h; cases h)
 refine ⟨_, _, p101 _ (retOut X0 hx (w := (.ref a1)) (i := .areturn) Bd.returns rfl (Or.inr (Or.inr (Or.inr (Or.inr ⟨rfl, rfl, rfl⟩)))) (hb hby d23_13) hr), hrun, hended, _, _, rfl, ?_, ⟨_, rfl⟩, hW, hsame.mono (by decide) (by decide)⟩
 show Q23 Z a1 h0 n0 _ s₁.heap _
 rw [e0]
 exact ⟨rfl, N0, rfl⟩
theorem d20_0 : decode jdk_44_method_2_code 0 = .ok (.aload_n 0, 1) := by decide +kernel
theorem d20_1 : decode jdk_44_method_2_code 1 = .ok (.invokespecial 1, 3) := by decide +kernel
theorem d20_4 : decode jdk_44_method_2_code 4 = .ok (.aload_n 0, 1) := by decide +kernel
theorem d20_5 : decode jdk_44_method_2_code 5 = .ok (.aload_n 1, 1) := by decide +kernel
theorem d20_6 : decode jdk_44_method_2_code 6 = .ok (.invokestatic 7, 3) := by decide +kernel
theorem d20_9 : decode jdk_44_method_2_code 9 = .ok (.putfield 13, 3) := by decide +kernel
theorem d20_12 : decode jdk_44_method_2_code 12 = .ok (.aload_n 0, 1) := by decide +kernel
theorem d20_13 : decode jdk_44_method_2_code 13 = .ok (.aload_n 2, 1) := by decide +kernel
theorem d20_14 : decode jdk_44_method_2_code 14 = .ok (.invokestatic 7, 3) := by decide +kernel
theorem d20_17 : decode jdk_44_method_2_code 17 = .ok (.putfield 24, 3) := by decide +kernel
theorem d20_20 : decode jdk_44_method_2_code 20 = .ok (.return_, 1) := by decide +kernel
theorem pd7 : parseMethodDescriptor "(Ljava/lang/Object;)Ljava/lang/Object;" = some ⟨[(.object "java/lang/Object")], some (.object "java/lang/Object")⟩ := by decide +kernel
theorem pn20 : plainFor (⟨"java/util/ImmutableCollections$List12", "<init>", "(Ljava/lang/Object;Ljava/lang/Object;)V"⟩ : MethodName) = true := plainFor_of_name (by first | (simp [plainName, overriddenIn]; done) | decide +kernel)
theorem ef_rm20 (m : MethodId) (a1 : Addr) (x0 : Addr) (x1 : Addr) : entryFrame m #[(.ref a1), (.ref x0), (.ref x1)] 3 = mkF m 0 #[.val (.ref a1), .val (.ref x0), .val (.ref x1)] [] := by first | (simp [entryFrame, mkF, argsToLocals, Value.category]; done) | rfl
def Q20 (Z : State) (a1 : Addr) (x0 : Addr) (x1 : Addr) (h0 : Heap) (n0 : Nat) (v : Option Value) (h : Heap) (L : List Loc) : Prop := v = none ∧ Fr n0 L ∧ (Keep h0 h [a1]) ∧ (Exa Z h a1 "java/util/ImmutableCollections$List12") ∧ (Fld Z h a1 "java/util/ImmutableCollections$List12" "e0" "Ljava/lang/Object;" (.ref x0)) ∧ (Fld Z h a1 "java/util/ImmutableCollections$List12" "e1" "Ljava/lang/Object;" (.ref x1))
set_option maxRecDepth 65536 in
set_option maxHeartbeats 40000000 in
theorem rm20 (l : Launch) (Z : State) (a0 : Array Value) (hw : ∀ d ∈ tables_1, d.before a0 Z = true) (ws : List Jvm.Cond) (a1 : Addr) (x0 : Addr) (x1 : Addr) (h0 : Heap) (n0 : Nat) (Z0 : n0 ≤ h0.size) (F0 : Exa Z h0 a1 "java/util/ImmutableCollections$List12") (F1 : Fld Z h0 a1 "java/util/ImmutableCollections$List12" "e0" "Ljava/lang/Object;" .null) (F2 : Fld Z h0 a1 "java/util/ImmutableCollections$List12" "e1" "Ljava/lang/Object;" .null) (g1 : n0 ≤ a1) :
  MetFree l oM32 (head1 (Jvm.Cond.code oM32 jdk_44_method_2_code 3 none :: ws) ({ frames := 4, cells := 0, slots := 0, locals := 48 } : Room)) (fun a U => a = #[(.ref a1), (.ref x0), (.ref x1)] ∧ Z.Warmed39 U.vm ∧ U.heap = h0) (fun _ _ _ _ _ => True) (fun _ U o U' => ∃ v L, o = .returned v ∧ Q20 Z a1 x0 x1 h0 n0 v U'.heap L ∧ FrameEnd U o U' L ({ frames := 4, cells := 0, slots := 0, locals := 48 } : Room).cells ({ frames := 4, cells := 0, slots := 0, locals := 48 } : Room).slots) := by
 refine MetFree.of_bodySF pn20 hisR ?_
 intro p e s m args below meth c s₁ Bd hml0 hP hK
 obtain ⟨rfl, hZ, hh⟩ := hP
 have hx := Bd.exec
 have hby := Bd.bytes
 have hml : c.maxLocals = 3 := hml0
 have hown : s.vm.findClass "java/util/ImmutableCollections$List12" = some m.cls := findClass_of_methodNamed Bd.named
 have hnm := (name_of_methodNamed Bd.named Bd.method).1
 have X0 : Stand p l e ({ frames := 4, cells := 0, slots := 0, locals := 48 } : Room) s m #[(.ref a1), (.ref x0), (.ref x1)] below meth c s₁ [] 0 0 := Stand.of_body Bd
 have e0 : s₁.heap = h0 := by rw [← hh, Bd.state]; rfl
 have N0 := Fr.nil n0
 have p0 : GF p e below (s₁.setTop (entryFrame m #[(.ref a1), (.ref x0), (.ref x1)] 3)) s₁ m 0 #[.val (.ref a1), .val (.ref x0), .val (.ref x1)] [] := fun t_ k_ => castTop (ef_rm20 m a1 x0 x1) k_
 have p101 : GF p e below _ s₁ m 1 #[.val (.ref a1), .val (.ref x0), .val (.ref x1)] [(.ref a1)] := fun t_ k_ => p0 t_ (by
  refine XS.aloadN X0.here hx rfl (hb hby d20_0) rfl rfl ?_
  exact k_)
 obtain ⟨_, _, ⟨T102, L102, k102, n102⟩, -, X102, ⟨Lc102, hQ102, l102, y102, z102⟩, st102⟩ := X0.specialBack hx (y := oM30) rfl hown (mvT hZ (own_w hw 162 rfl)) (mvT hZ (own_w hw 163 rfl)) (mvT hZ (own_w hw 167 rfl)) (by decide) (backOf (W := 0) (rm21 l Z a0 hw [] a1 h0 n0 (Nat.le_trans Z0 (Keep.refl h0 [a1]).1) ) hZ (own_w hw 167 rfl) (own_w hw 166 rfl) (by decide) (by decide)) (g := (mkF m 1 #[.val (.ref a1), .val (.ref x0), .val (.ref x1)] [(.ref a1)])) rfl (by rw [hml]; rfl) (Steps.refl _) (a := a1) (argsL := []) (rest := []) (lenOf pd0 rfl) rfl (by show 2 * 0 + _ ≤ _; exact Nat.le_of_eq rfl) (hb hby d20_1) (fun _ _ => ⟨rfl, e0, (by decide : 0 + 0 ≤ _), (by decide : 0 + 0 ≤ _)⟩)
 dsimp only [Pt.U, Pt.locs, Pt.cells, Pt.slots] at X102 l102 y102 z102 st102 hQ102
 subst l102 y102 z102
 obtain ⟨rfl, N102q, q102_hh⟩ := hQ102
 have N102 := Fr.app N0 N102q
 have p103 : GF p e below _ T102 m 6 #[.val (.ref a1), .val (.ref x0), .val (.ref x1)] [(.ref x0), (.ref a1)] := fun t_ k_ => (gcT p101 st102) t_ (by
  refine XS.aloadN X102.here hx rfl (hb hby d20_4) rfl rfl ?_
  refine XS.aloadN X102.here hx rfl (hb hby d20_5) rfl rfl ?_
  exact k_)
 obtain ⟨_, _, ⟨T104, L104, k104, n104⟩, -, X104, ⟨Lc104, hQ104, l104, y104, z104⟩, st104⟩ := Jvm.LawKit.callS X102 hx (y := oM43) hown (mvT hZ (own_w hw 176 rfl)) (mvT hZ (own_w hw 177 rfl)) (mvT hZ (own_w hw 178 rfl)) (mvT hZ (own_w hw 179 rfl)) (by decide) (backOf (W := 1) (rm23 l Z a0 hw [] x0 h0 n0 (Nat.le_trans Z0 (Keep.refl h0 [a1]).1) ) hZ (own_w hw 179 rfl) (own_w hw 178 rfl) (by decide) (by decide)) (g := (mkF m 6 #[.val (.ref a1), .val (.ref x0), .val (.ref x1)] [(.ref x0), (.ref a1)])) rfl (by rw [hml]; rfl) (argsL := [(.ref x0)]) (rest := [(.ref a1)]) (lenOf pd7 rfl) rfl (by show 2 * 0 + _ ≤ _; exact Nat.le_of_eq rfl) (hb hby d20_6) (fun _ _ => ⟨rfl, q102_hh, (by decide : 0 + 0 ≤ _), (by decide : 0 + 0 ≤ _)⟩)
 dsimp only [Pt.U, Pt.locs, Pt.cells, Pt.slots] at X104 l104 y104 z104 st104 hQ104
 subst l104 y104 z104
 obtain ⟨rfl, N104q, q104_hh⟩ := hQ104
 have N104 := Fr.app N102 N104q
 obtain ⟨T105, h105, X105, e105, W105, st105⟩ := putF X104 hx hZ hown (host := "") (Or.inl (own_w hw 180 rfl)) Via.refl q104_hh F1 F0 (Or.inr ⟨(own_w hw 181 rfl), rfl, hnm⟩) (own_w hw 156 rfl) (ty := (.object "java/lang/Object")) (by decide) rfl rfl (g := (mkF m 9 #[.val (.ref a1), .val (.ref x0), .val (.ref x1)] [(.ref x0), (.ref a1)])) rfl rfl (hb hby d20_9)
 have K106 : Keep h0 h105 [a1] := (Keep.refl h0 [a1]).wr W105 (Or.inl (List.mem_of_getElem? (i := 0) rfl))
 have N105 := Fr.snoc X105 N104 g1
 have F105 : Fld Z h105 a1 "java/util/ImmutableCollections$List12" "e0" "Ljava/lang/Object;" (.ref x0) := F1.same W105
 have p107 : GF p e below _ T105 m 14 #[.val (.ref a1), .val (.ref x0), .val (.ref x1)] [(.ref x1), (.ref a1)] := fun t_ k_ => (gc (gc p103 st104) st105) t_ (by
  refine XS.aloadN X105.here hx rfl (hb hby d20_12) rfl rfl ?_
  refine XS.aloadN X105.here hx rfl (hb hby d20_13) rfl rfl ?_
  exact k_)
 obtain ⟨_, _, ⟨T108, L108, k108, n108⟩, -, X108, ⟨Lc108, hQ108, l108, y108, z108⟩, st108⟩ := Jvm.LawKit.callS X105 hx (y := oM43) hown (mvT hZ (own_w hw 176 rfl)) (mvT hZ (own_w hw 177 rfl)) (mvT hZ (own_w hw 178 rfl)) (mvT hZ (own_w hw 179 rfl)) (by decide) (backOf (W := 1) (rm23 l Z a0 hw [] x1 h105 n0 (Nat.le_trans Z0 K106.1) ) hZ (own_w hw 179 rfl) (own_w hw 178 rfl) (by decide) (by decide)) (g := (mkF m 14 #[.val (.ref a1), .val (.ref x0), .val (.ref x1)] [(.ref x1), (.ref a1)])) rfl (by rw [hml]; rfl) (argsL := [(.ref x1)]) (rest := [(.ref a1)]) (lenOf pd7 rfl) rfl (by show 2 * 0 + _ ≤ _; exact Nat.le_of_eq rfl) (hb hby d20_14) (fun _ _ => ⟨rfl, e105, (by decide : 0 + 0 ≤ _), (by decide : 0 + 0 ≤ _)⟩)
 dsimp only [Pt.U, Pt.locs, Pt.cells, Pt.slots] at X108 l108 y108 z108 st108 hQ108
 subst l108 y108 z108
 obtain ⟨rfl, N108q, q108_hh⟩ := hQ108
 have N108 := Fr.app N105 N108q
 have f109 := (F2.other W105 (Or.inr (slot_ne (Or.inr (own_w hw 183 rfl)) (Or.inr (own_w hw 181 rfl)) (by decide) (t := (.object "java/lang/Object")) (t' := (.object "java/lang/Object")) (by decide) (by decide))))
 have f110 := (F0.wr W105)
 obtain ⟨T111, h111, X111, e111, W111, st111⟩ := putF X108 hx hZ hown (host := "") (Or.inl (own_w hw 182 rfl)) Via.refl q108_hh f109 f110 (Or.inr ⟨(own_w hw 183 rfl), rfl, hnm⟩) (own_w hw 156 rfl) (ty := (.object "java/lang/Object")) (by decide) rfl rfl (g := (mkF m 17 #[.val (.ref a1), .val (.ref x0), .val (.ref x1)] [(.ref x1), (.ref a1)])) rfl rfl (hb hby d20_17)
 have K112 : Keep h0 h111 [a1] := K106.wr W111 (Or.inl (List.mem_of_getElem? (i := 0) rfl))
 have N111 := Fr.snoc X111 N108 g1
 have F111 : Fld Z h111 a1 "java/util/ImmutableCollections$List12" "e1" "Ljava/lang/Object;" (.ref x1) := f109.same W111
 have f113 := (f110.wr W111)
 have f114 := (F105.other W111 (Or.inr (slot_ne (Or.inr (own_w hw 181 rfl)) (Or.inr (own_w hw 183 rfl)) (by decide) (t := (.object "java/lang/Object")) (t' := (.object "java/lang/Object")) (by decide) (by decide))))
 obtain ⟨fs, hr, hrun, hended, hW, hsame⟩ := X111.leave (v := none) (fun _ => rfl)
 refine ⟨_, _, (gc (gc p107 st108) st111) _ (X111.returnOut hx Bd.returns (hb hby d20_20) hr), hrun, hended, _, _, rfl, ?_, ⟨_, rfl⟩, hW, hsame.mono (by decide) (by decide)⟩
 show Q20 Z a1 x0 x1 h0 n0 _ T111.heap _
 rw [e111]
 exact ⟨rfl, N111, K112, f113, f114, F111⟩
theorem d19_0 : decode jdk_40_method_47_code 0 = .ok (.aload_n 0, 1) := by decide +kernel
theorem d19_1 : decode jdk_40_method_47_code 1 = .ok (.arraylength, 1) := by decide +kernel
theorem d19_2 : decode jdk_40_method_47_code 2 = .ok (.tableswitch 57 0 2 #[26, 32, 43], 26) := by decide +kernel
theorem d19_45 : decode jdk_40_method_47_code 45 = .ok (.new 96, 3) := by decide +kernel
theorem d19_48 : decode jdk_40_method_47_code 48 = .ok (.dup, 1) := by decide +kernel
theorem d19_49 : decode jdk_40_method_47_code 49 = .ok (.aload_n 0, 1) := by decide +kernel
theorem d19_50 : decode jdk_40_method_47_code 50 = .ok (.iconst 0, 1) := by decide +kernel
theorem d19_51 : decode jdk_40_method_47_code 51 = .ok (.aaload, 1) := by decide +kernel
theorem d19_52 : decode jdk_40_method_47_code 52 = .ok (.aload_n 0, 1) := by decide +kernel
theorem d19_53 : decode jdk_40_method_47_code 53 = .ok (.iconst 1, 1) := by decide +kernel
theorem d19_54 : decode jdk_40_method_47_code 54 = .ok (.aaload, 1) := by decide +kernel
theorem d19_55 : decode jdk_40_method_47_code 55 = .ok (.invokespecial 100, 3) := by decide +kernel
theorem d19_58 : decode jdk_40_method_47_code 58 = .ok (.areturn, 1) := by decide +kernel
theorem pd8 : parseMethodDescriptor "(Ljava/lang/Object;Ljava/lang/Object;)V" = some ⟨[(.object "java/lang/Object"), (.object "java/lang/Object")], none⟩ := by decide +kernel
theorem pn19 : plainFor (⟨"java/util/List", "of", "([Ljava/lang/Object;)Ljava/util/List;"⟩ : MethodName) = true := plainFor_of_name (by first | (simp [plainName, overriddenIn]; done) | decide +kernel)
theorem ef_rm19 (m : MethodId) (a1 : Addr) (k1 : ClassId) (x0 : Addr) (x1 : Addr) : entryFrame m #[(.ref a1)] 2 = mkF m 0 #[.val (.ref a1), .unset] [] := by first | (simp [entryFrame, mkF, argsToLocals, Value.category]; done) | rfl
def Q19 (Z : State) (a1 : Addr) (k1 : ClassId) (x0 : Addr) (x1 : Addr) (h0 : Heap) (n0 : Nat) (v : Option Value) (h : Heap) (L : List Loc) : Prop := ∃ (b : Addr), v = some (.ref b) ∧ Fr n0 L ∧ (Keep h0 h []) ∧ (Exa Z h b "java/util/ImmutableCollections$List12") ∧ (Fld Z h b "java/util/ImmutableCollections$List12" "e0" "Ljava/lang/Object;" (.ref x0)) ∧ (Fld Z h b "java/util/ImmutableCollections$List12" "e1" "Ljava/lang/Object;" (.ref x1)) ∧ (n0 ≤ b) ∧ (h0.size ≤ b)
set_option maxRecDepth 65536 in
set_option maxHeartbeats 40000000 in
theorem rm19 (l : Launch) (Z : State) (a0 : Array Value) (hw : ∀ d ∈ tables_1, d.before a0 Z = true) (ws : List Jvm.Cond) (a1 : Addr) (k1 : ClassId) (x0 : Addr) (x1 : Addr) (h0 : Heap) (n0 : Nat) (Z0 : n0 ≤ h0.size) (V1 : Arv Z h0 a1 k1 (.object "java/lang/Object") (2 : Int32) [(.ref x0), (.ref x1)] .null) :
  MetFree l oM41 (head1 (Jvm.Cond.code oM41 jdk_40_method_47_code 2 (some (.object "java/util/List")) :: ws) ({ frames := 5, cells := 1, slots := 2, locals := 63 } : Room)) (fun a U => a = #[(.ref a1)] ∧ Z.Warmed39 U.vm ∧ U.heap = h0) (fun _ _ _ _ _ => True) (fun _ U o U' => ∃ v L, o = .returned v ∧ Q19 Z a1 k1 x0 x1 h0 n0 v U'.heap L ∧ FrameEnd U o U' L ({ frames := 5, cells := 1, slots := 2, locals := 63 } : Room).cells ({ frames := 5, cells := 1, slots := 2, locals := 63 } : Room).slots) := by
 refine MetFree.of_bodySF pn19 hisR ?_
 intro p e s m args below meth c s₁ Bd hml0 hP hK
 obtain ⟨rfl, hZ, hh⟩ := hP
 have hx := Bd.exec
 have hby := Bd.bytes
 have hml : c.maxLocals = 2 := hml0
 have hown : s.vm.findClass "java/util/List" = some m.cls := findClass_of_methodNamed Bd.named
 have hnm := (name_of_methodNamed Bd.named Bd.method).1
 have X0 : Stand p l e ({ frames := 5, cells := 1, slots := 2, locals := 63 } : Room) s m #[(.ref a1)] below meth c s₁ [] 0 0 := Stand.of_body Bd
 have e0 : s₁.heap = h0 := by rw [← hh, Bd.state]; rfl
 have N0 := Fr.nil n0
 have p0 : GF p e below (s₁.setTop (entryFrame m #[(.ref a1)] 2)) s₁ m 0 #[.val (.ref a1), .unset] [] := fun t_ k_ => castTop (ef_rm19 m a1 k1 x0 x1) k_
 have p101 : GF p e below _ s₁ m 1 #[.val (.ref a1), .unset] [(.ref a1)] := fun t_ k_ => p0 t_ (by
  refine XS.aloadN X0.here hx rfl (hb hby d19_0) rfl rfl ?_
  exact k_)
 obtain ⟨cl102, Ar102, -, S102, Ng102, -, -⟩ := id V1
 have p103 : GF p e below _ s₁ m 45 #[.val (.ref a1), .unset] [] := fun t_ k_ => p101 t_ (by
  refine X0.arraylength hx (by rw [e0]; exact Ar102.1) (State.isArrayOf_alike hZ.alike Ar102.2.1) (g := (mkF m 1 #[.val (.ref a1), .unset] [(.ref a1)])) rfl rfl (hb hby d19_1) _ ?_
  rw [len_of S102 Ng102]
  show Steps p.tables e below (s₁.setTop (mkF m 2 #[.val (.ref a1), .unset] [(.int 2)])) _
  refine XS.tswIn X0.here hx rfl (pc0 := 2) (pc' := 45) rfl (hb hby d19_2) rfl (by decide) rfl (by decide) (by decide) ?_
  exact k_)
 obtain ⟨T104, h104, X104, e104, E104, A104, D104, -, st104⟩ := newO X0 hx hZ hown (own_w hw 155 rfl) (own_w hw 156 rfl) (own_w hw 157 rfl) e0 (g := (mkF m 45 #[.val (.ref a1), .unset] [])) rfl (hb hby d19_45) (by decide) (by decide)
 obtain ⟨b104, g104⟩ : ∃ z, z = h0.size := ⟨_, rfl⟩
 rw [← g104] at A104 D104 st104
 have ne_a1_b104 : a1 ≠ b104 := Nat.ne_of_lt (Nat.lt_of_lt_of_le V1.lt (Nat.le_of_eq g104.symm))
 have ge_b104 : n0 ≤ b104 := Nat.le_trans (Nat.le_trans Z0 (Keep.refl h0 []).1) (Nat.le_of_eq g104.symm)
 have sz_b104 : h0.size ≤ b104 := Nat.le_trans (Keep.refl h0 []).1 (Nat.le_of_eq g104.symm)
 have K105 : Keep h0 h104 [] := (Keep.refl h0 []).ext E104
 have F104_e0 : Fld Z h104 b104 "java/util/ImmutableCollections$List12" "e0" "Ljava/lang/Object;" .null := D104 (Or.inr (own_w hw 181 rfl)) (ty := (.object "java/lang/Object")) (by decide)
 have F104_e1 : Fld Z h104 b104 "java/util/ImmutableCollections$List12" "e1" "Ljava/lang/Object;" .null := D104 (Or.inr (own_w hw 183 rfl)) (ty := (.object "java/lang/Object")) (by decide)
 have p106 : GF p e below _ T104 m 51 #[.val (.ref a1), .unset] [(.int 0), (.ref a1), (.ref b104), (.ref b104)] := fun t_ k_ => (gc p103 st104) t_ (by
  refine XS.dup X104.here hx rfl (hb hby d19_48) rfl rfl ?_
  refine XS.aloadN X104.here hx rfl (hb hby d19_49) rfl rfl ?_
  refine XS.iconst X104.here hx rfl (hb hby d19_50) ?_
  exact k_)
 have f108 := (V1.ext E104)
 obtain ⟨cl107, Ar107, q107, S107, Ng107, H107, G107⟩ := id f108
 have hin107 := inb_of S107 (j := (0 : Int32)) ⟨by decide, by decide⟩
 have hat107 := H107.at (v := (.ref x0)) hin107 rfl
 have p109 : GF p e below _ T104 m 54 #[.val (.ref a1), .unset] [(.int 1), (.ref a1), (.ref x0), (.ref b104), (.ref b104)] := fun t_ k_ => p106 t_ (by
  refine X104.aaload hx (j := (0 : Int32)) (v := (.ref x0)) (by rw [e104]; exact Ar107.1) (State.isArrayOf_alike hZ.alike Ar107.2.1) rfl Ar107.2.2 hin107 hat107 (g := (mkF m 51 #[.val (.ref a1), .unset] [(.int 0), (.ref a1), (.ref b104), (.ref b104)])) rfl rfl (hb hby d19_51) _ ?_
  refine XS.aloadN X104.here hx rfl (hb hby d19_52) rfl rfl ?_
  refine XS.iconst X104.here hx rfl (hb hby d19_53) ?_
  exact k_)
 obtain ⟨cl110, Ar110, q110, S110, Ng110, H110, G110⟩ := id f108
 have hin110 := inb_of S110 (j := (1 : Int32)) ⟨by decide, by decide⟩
 have hat110 := H110.at (v := (.ref x1)) hin110 rfl
 have p111 : GF p e below _ T104 m 55 #[.val (.ref a1), .unset] [(.ref x1), (.ref x0), (.ref b104), (.ref b104)] := fun t_ k_ => p109 t_ (by
  refine X104.aaload hx (j := (1 : Int32)) (v := (.ref x1)) (by rw [e104]; exact Ar110.1) (State.isArrayOf_alike hZ.alike Ar110.2.1) rfl Ar110.2.2 hin110 hat110 (g := (mkF m 54 #[.val (.ref a1), .unset] [(.int 1), (.ref a1), (.ref x0), (.ref b104), (.ref b104)])) rfl rfl (hb hby d19_54) _ ?_
  exact k_)
 obtain ⟨_, _, ⟨T112, L112, k112, n112⟩, -, X112, ⟨Lc112, hQ112, l112, y112, z112⟩, st112⟩ := X104.specialBack hx (y := oM32) rfl hown (mvT hZ (own_w hw 158 rfl)) (mvT hZ (own_w hw 159 rfl)) (mvT hZ (own_w hw 161 rfl)) (by decide) (backOf (W := 1) (rm20 l Z a0 hw [] b104 x0 x1 h104 n0 (Nat.le_trans Z0 K105.1) A104 F104_e0 F104_e1 ge_b104) hZ (own_w hw 161 rfl) (own_w hw 157 rfl) (by decide) (by decide)) (g := (mkF m 55 #[.val (.ref a1), .unset] [(.ref x1), (.ref x0), (.ref b104), (.ref b104)])) rfl (by rw [hml]; rfl) (Steps.refl _) (a := b104) (argsL := [(.ref x0), (.ref x1)]) (rest := [(.ref b104)]) (lenOf pd8 rfl) rfl (by show 2 * 0 + _ ≤ _; exact Nat.le_of_eq rfl) (hb hby d19_55) (fun _ _ => ⟨rfl, e104, (by decide : 1 + 0 ≤ _), (by decide : 2 + 0 ≤ _)⟩)
 dsimp only [Pt.U, Pt.locs, Pt.cells, Pt.slots] at X112 l112 y112 z112 st112 hQ112
 subst l112 y112 z112
 obtain ⟨rfl, N112q, q112_K, q112_F0, q112_F1, q112_F2⟩ := hQ112
 have N112 := Fr.app N0 N112q
 have K113 : Keep h0 T112.heap [] := K105.trans q112_K (allS (Or.inr sz_b104) all0)
 obtain ⟨fs, hr, hrun, hended, hW, hsame⟩ := X112.leave (v := some (.ref b104)) (fun h => by rw [Bd.returns] at h; cases h)
 refine ⟨_, _, (gcT p111 st112) _ (retOut X112 hx (w := (.ref b104)) (i := .areturn) Bd.returns rfl (Or.inr (Or.inr (Or.inr (Or.inr ⟨rfl, rfl, rfl⟩)))) (hb hby d19_58) hr), hrun, hended, _, _, rfl, ?_, ⟨_, rfl⟩, hW, hsame.mono (by decide) (by decide)⟩
 show Q19 Z a1 k1 x0 x1 h0 n0 _ T112.heap _
 exact ⟨b104, rfl, N112, K113, q112_F0, q112_F1, q112_F2, ge_b104, sz_b104⟩
theorem d24_0 : decode jdk_40_method_36_code 0 = .ok (.getstatic 90, 3) := by decide +kernel
theorem d24_3 : decode jdk_40_method_36_code 3 = .ok (.areturn, 1) := by decide +kernel
theorem pn24 : plainFor (⟨"java/util/List", "of", "()Ljava/util/List;"⟩ : MethodName) = true := plainFor_of_name (by first | (simp [plainName, overriddenIn]; done) | decide +kernel)
theorem ef_rm24 (m : MethodId) (de : Addr) (kde : ClassId) (el : Addr) (ea : Addr) (kea : ClassId) (em : Addr) (mr : Addr) : entryFrame m #[] 0 = mkF m 0 #[] [] := by first | (simp [entryFrame, mkF, argsToLocals, Value.category]; done) | rfl
def Q24 (Z : State) (de : Addr) (kde : ClassId) (el : Addr) (ea : Addr) (kea : ClassId) (em : Addr) (mr : Addr) (h0 : Heap) (n0 : Nat) (v : Option Value) (h : Heap) (L : List Loc) : Prop := v = some (.ref el) ∧ Fr n0 L ∧ (h = h0)
set_option maxRecDepth 65536 in
set_option maxHeartbeats 40000000 in
theorem rm24 (l : Launch) (Z : State) (a0 : Array Value) (hw : ∀ d ∈ tables_1, d.before a0 Z = true) (ws : List Jvm.Cond) (de : Addr) (kde : ClassId) (el : Addr) (ea : Addr) (kea : ClassId) (em : Addr) (mr : Addr) (h0 : Heap) (n0 : Nat) (Z0 : n0 ≤ h0.size) (O1 : Old Z n0 h0) (G : own_H Z de kde el ea kea em mr) :
  MetFree l oM40 (head1 (Jvm.Cond.code oM40 jdk_40_method_36_code 0 (some (.object "java/util/List")) :: ws) ({ frames := 0, cells := 0, slots := 0, locals := 0 } : Room)) (fun a U => a = #[] ∧ Z.Warmed39 U.vm ∧ U.heap = h0) (fun _ _ _ _ _ => True) (fun _ U o U' => ∃ v L, o = .returned v ∧ Q24 Z de kde el ea kea em mr h0 n0 v U'.heap L ∧ FrameEnd U o U' L ({ frames := 0, cells := 0, slots := 0, locals := 0 } : Room).cells ({ frames := 0, cells := 0, slots := 0, locals := 0 } : Room).slots) := by
 refine MetFree.of_bodySF pn24 hisR ?_
 intro p e s m args below meth c s₁ Bd hml0 hP hK
 obtain ⟨rfl, hZ, hh⟩ := hP
 have hx := Bd.exec
 have hby := Bd.bytes
 have hml : c.maxLocals = 0 := hml0
 have hown : s.vm.findClass "java/util/List" = some m.cls := findClass_of_methodNamed Bd.named
 have hnm := (name_of_methodNamed Bd.named Bd.method).1
 have X0 : Stand p l e ({ frames := 0, cells := 0, slots := 0, locals := 0 } : Room) s m #[] below meth c s₁ [] 0 0 := Stand.of_body Bd
 have e0 : s₁.heap = h0 := by rw [← hh, Bd.state]; rfl
 have N0 := Fr.nil n0
 have p0 : GF p e below (s₁.setTop (entryFrame m #[] 0)) s₁ m 0 #[] [] := fun t_ k_ => castTop (ef_rm24 m de kde el ea kea em mr) k_
 obtain ⟨T101, X101, e101, st101⟩ := getS2 X0 hx hZ hown (host := "") (Or.inl (own_w hw 189 rfl)) Via.refl e0 (G.2.2.2.1.ext O1.2) (g := (mkF m 0 #[] [])) rfl (hb hby d24_0)
 obtain ⟨fs, hr, hrun, hended, hW, hsame⟩ := X101.leave (v := some (.ref el)) (fun h => by rw [Bd.returns] at h; cases h)
 refine ⟨_, _, (gc p0 st101) _ (retOut X101 hx (w := (.ref el)) (i := .areturn) Bd.returns rfl (Or.inr (Or.inr (Or.inr (Or.inr ⟨rfl, rfl, rfl⟩)))) (hb hby d24_3) hr), hrun, hended, _, _, rfl, ?_, ⟨_, rfl⟩, hW, hsame.mono (by decide) (by decide)⟩
 show Q24 Z de kde el ea kea em mr h0 n0 _ T101.heap _
 rw [e101]
 exact ⟨rfl, N0, rfl⟩
theorem d13_0 : decode jdk_56_method_3_code 0 = .ok (.aload_n 0, 1) := by decide +kernel
theorem d13_1 : decode jdk_56_method_3_code 1 = .ok (.instanceof 10, 3) := by decide +kernel
theorem d13_4 : decode jdk_56_method_3_code 4 = .ok (.ifCond .ne 22, 3) := by decide +kernel
theorem d13_7 : decode jdk_56_method_3_code 7 = .ok (.aload_n 0, 1) := by decide +kernel
theorem d13_8 : decode jdk_56_method_3_code 8 = .ok (.instanceof 12, 3) := by decide +kernel
theorem d13_11 : decode jdk_56_method_3_code 11 = .ok (.ifCond .eq 20, 3) := by decide +kernel
theorem d13_31 : decode jdk_56_method_3_code 31 = .ok (.aload_n 0, 1) := by decide +kernel
theorem d13_32 : decode jdk_56_method_3_code 32 = .ok (.invokeinterface 20 1, 5) := by decide +kernel
theorem d13_37 : decode jdk_56_method_3_code 37 = .ok (.ifCond .eq 7, 3) := by decide +kernel
theorem d13_44 : decode jdk_56_method_3_code 44 = .ok (.aload_n 0, 1) := by decide +kernel
theorem d13_45 : decode jdk_56_method_3_code 45 = .ok (.invokeinterface 30 1, 5) := by decide +kernel
theorem d13_50 : decode jdk_56_method_3_code 50 = .ok (.invokestatic 34, 3) := by decide +kernel
theorem d13_53 : decode jdk_56_method_3_code 53 = .ok (.areturn, 1) := by decide +kernel
theorem pd9 : parseMethodDescriptor "()Z" = some ⟨[], some .boolean⟩ := by decide +kernel
theorem pd10 : parseMethodDescriptor "([Ljava/lang/Object;)Ljava/util/List;" = some ⟨[(.array (.object "java/lang/Object"))], some (.object "java/util/List")⟩ := by decide +kernel
theorem pn13 : plainFor (⟨"java/util/ImmutableCollections", "listCopy", "(Ljava/util/Collection;)Ljava/util/List;"⟩ : MethodName) = true := plainFor_of_name (by first | (simp [plainName, overriddenIn]; done) | decide +kernel)
theorem ef_rm13_2 (m : MethodId) (a1 : Addr) (mc : Int32) (ed : Addr) (kd : ClassId) (x0 : Addr) (x1 : Addr) (de : Addr) (kde : ClassId) (el : Addr) (ea : Addr) (kea : ClassId) (em : Addr) (mr : Addr) : entryFrame m #[(.ref a1)] 2 = mkF m 0 #[.val (.ref a1), .unset] [] := by first | (simp [entryFrame, mkF, argsToLocals, Value.category]; done) | rfl
def Q13_2 (Z : State) (a1 : Addr) (mc : Int32) (ed : Addr) (kd : ClassId) (x0 : Addr) (x1 : Addr) (de : Addr) (kde : ClassId) (el : Addr) (ea : Addr) (kea : ClassId) (em : Addr) (mr : Addr) (h0 : Heap) (n0 : Nat) (v : Option Value) (h : Heap) (L : List Loc) : Prop := ∃ (b : Addr), v = some (.ref b) ∧ Fr n0 L ∧ (Keep h0 h []) ∧ (Exa Z h b "java/util/ImmutableCollections$List12") ∧ (Fld Z h b "java/util/ImmutableCollections$List12" "e0" "Ljava/lang/Object;" (.ref x0)) ∧ (Fld Z h b "java/util/ImmutableCollections$List12" "e1" "Ljava/lang/Object;" (.ref x1)) ∧ (n0 ≤ b) ∧ (h0.size ≤ b)
set_option maxRecDepth 65536 in
set_option maxHeartbeats 40000000 in
theorem rm13_2 (l : Launch) (Z : State) (a0 : Array Value) (hw : ∀ d ∈ tables_1, d.before a0 Z = true) (ws : List Jvm.Cond) (a1 : Addr) (mc : Int32) (ed : Addr) (kd : ClassId) (x0 : Addr) (x1 : Addr) (de : Addr) (kde : ClassId) (el : Addr) (ea : Addr) (kea : ClassId) (em : Addr) (mr : Addr) (h0 : Heap) (n0 : Nat) (Z0 : n0 ≤ h0.size) (O1 : Old Z n0 h0) (G : own_H Z de kde el ea kea em mr) (A0 : Exa Z h0 a1 "java/util/ArrayList") (A1 : Fld Z h0 a1 "java/util/AbstractList" "modCount" "I" (.int mc)) (A2 : Fld Z h0 a1 "java/util/ArrayList" "elementData" "[Ljava/lang/Object;" (.ref ed)) (A3 : Fld Z h0 a1 "java/util/ArrayList" "size" "I" (.int 2)) (A4 : Arv Z h0 ed kd (.object "java/lang/Object") (10 : Int32) [(.ref x0), (.ref x1), .null, .null, .null, .null, .null, .null, .null, .null] .null) (A5 : Exa Z h0 ed "[Ljava/lang/Object;") (A6 : Exa Z h0 x0 "com/example/arcward/arcward/model/Variable") (A7 : Exa Z h0 x1 "com/example/arcward/arcward/model/Variable") :
  MetFree l oM28 (head1 (Jvm.Cond.code oM28 jdk_56_method_3_code 2 (some (.object "java/util/List")) :: ws) ({ frames := 6, cells := 2, slots := 4, locals := 76 } : Room)) (fun a U => a = #[(.ref a1)] ∧ Z.Warmed39 U.vm ∧ U.heap = h0) (fun _ _ _ _ _ => True) (fun _ U o U' => ∃ v L, o = .returned v ∧ Q13_2 Z a1 mc ed kd x0 x1 de kde el ea kea em mr h0 n0 v U'.heap L ∧ FrameEnd U o U' L ({ frames := 6, cells := 2, slots := 4, locals := 76 } : Room).cells ({ frames := 6, cells := 2, slots := 4, locals := 76 } : Room).slots) := by
 refine MetFree.of_bodySF pn13 hisR ?_
 intro p e s m args below meth c s₁ Bd hml0 hP hK
 obtain ⟨rfl, hZ, hh⟩ := hP
 have hx := Bd.exec
 have hby := Bd.bytes
 have hml : c.maxLocals = 2 := hml0
 have hown : s.vm.findClass "java/util/ImmutableCollections" = some m.cls := findClass_of_methodNamed Bd.named
 have hnm := (name_of_methodNamed Bd.named Bd.method).1
 have X0 : Stand p l e ({ frames := 6, cells := 2, slots := 4, locals := 76 } : Room) s m #[(.ref a1)] below meth c s₁ [] 0 0 := Stand.of_body Bd
 have e0 : s₁.heap = h0 := by rw [← hh, Bd.state]; rfl
 have N0 := Fr.nil n0
 have p0 : GF p e below (s₁.setTop (entryFrame m #[(.ref a1)] 2)) s₁ m 0 #[.val (.ref a1), .unset] [] := fun t_ k_ => castTop (ef_rm13_2 m a1 mc ed kd x0 x1 de kde el ea kea em mr) k_
 have p101 : GF p e below _ s₁ m 1 #[.val (.ref a1), .unset] [(.ref a1)] := fun t_ k_ => p0 t_ (by
  refine XS.aloadN X0.here hx rfl (hb hby d13_0) rfl rfl ?_
  exact k_)
 obtain ⟨T102, X102, e102, st102⟩ := instNo X0 hx hZ hown (own_w hw 107 rfl) e0 A0 (nsNo (own_w hw 108 rfl) (NS.step (own_w hw 108 rfl) (NS.step (own_w hw 109 rfl) (NS.step (own_w hw 110 rfl) (nsRoot (own_w hw 111 rfl) (own_w hw 195 rfl) (by decide)) (by decide)) (by decide)) (by decide)) (own_w hw 195 rfl) rfl (by decide)) (g := (mkF m 1 #[.val (.ref a1), .unset] [(.ref a1)])) rfl rfl (hb hby d13_1)
 have p103 : GF p e below _ T102 m 8 #[.val (.ref a1), .unset] [(.ref a1)] := fun t_ k_ => (gc p101 st102) t_ (by
  refine XS.ifNo X102.here hx rfl (hb hby d13_4) rfl ((if0 _ _).trans (teq (by decide : ((0 : Int32) = (0 : Int32)))).2) ?_
  refine XS.aloadN X102.here hx rfl (hb hby d13_7) rfl rfl ?_
  exact k_)
 obtain ⟨T104, X104, e104, st104⟩ := instNo X102 hx hZ hown (own_w hw 112 rfl) e102 A0 (nsNo (own_w hw 108 rfl) (NS.step (own_w hw 108 rfl) (NS.step (own_w hw 109 rfl) (NS.step (own_w hw 110 rfl) (nsRoot (own_w hw 111 rfl) (own_w hw 232 rfl) (by decide)) (by decide)) (by decide)) (by decide)) (own_w hw 232 rfl) rfl (by decide)) (g := (mkF m 8 #[.val (.ref a1), .unset] [(.ref a1)])) rfl rfl (hb hby d13_8)
 have p105 : GF p e below _ T104 m 32 #[.val (.ref a1), .unset] [(.ref a1)] := fun t_ k_ => (gc p103 st104) t_ (by
  refine XS.ifYes X104.here hx rfl (pc0 := 11) (pc' := 31) rfl (hb hby d13_11) rfl ((if0 _ _).trans (teq (by decide : ((0 : Int32) = (0 : Int32)))).1) (by decide) (by decide) ?_
  refine XS.aloadN X104.here hx rfl (hb hby d13_31) rfl rfl ?_
  exact k_)
 obtain ⟨cq106, kq106, q106a, q106b, q106c⟩ := isOf hZ e104 A0
 obtain ⟨_, _, ⟨T106, L106, k106, n106⟩, -, X106, ⟨Lc106, hQ106, l106, y106, z106⟩, st106⟩ := X104.interfaceBack hx (xi := oM27) (y := oM23) hown (mvT hZ (own_w hw 113 rfl)) (mvT hZ (own_w hw 114 rfl)) (mvT hZ (own_w hw 115 rfl)) (mvT hZ (own_w hw 116 rfl)) (mvT hZ (own_w hw 117 rfl)) (mvT hZ (own_w hw 118 rfl)) (mvT hZ (own_w hw 119 rfl)) (mvT hZ (own_w hw 120 rfl)) (by decide) (backOf (W := 0) (rm14_2 l Z a0 hw [] a1 h0 n0 (Nat.le_trans Z0 (Keep.refl h0 []).1) A3) hZ (own_w hw 121 rfl) (own_w hw 3 rfl) (by decide) (by decide)) q106a q106b q106c (g := (mkF m 32 #[.val (.ref a1), .unset] [(.ref a1)])) rfl (by rw [hml]; rfl) (Steps.refl _) (argsL := []) (rest := []) (lenOf pd9 rfl) rfl (by show 2 * 0 + _ ≤ _; exact Nat.le_of_eq rfl) (hb hby d13_32) (fun _ _ => ⟨rfl, e104, (by decide : 0 + 0 ≤ _), (by decide : 0 + 0 ≤ _)⟩)
 dsimp only [Pt.U, Pt.locs, Pt.cells, Pt.slots] at X106 l106 y106 z106 st106 hQ106
 subst l106 y106 z106
 obtain ⟨rfl, N106q, q106_hh⟩ := hQ106
 have N106 := Fr.app N0 N106q
 have p107 : GF p e below _ T106 m 45 #[.val (.ref a1), .unset] [(.ref a1)] := fun t_ k_ => (gcT p105 st106) t_ (by
  refine XS.ifYes X106.here hx rfl (pc0 := 37) (pc' := 44) rfl (hb hby d13_37) rfl ((if0 _ _).trans (teq (by decide : ((0 : Int32) = (0 : Int32)))).1) (by decide) (by decide) ?_
  refine XS.aloadN X106.here hx rfl (hb hby d13_44) rfl rfl ?_
  exact k_)
 obtain ⟨cq108, kq108, q108a, q108b, q108c⟩ := isOf hZ q106_hh A0
 obtain ⟨_, _, ⟨T108, L108, k108, n108⟩, -, X108, ⟨Lc108, hQ108, l108, y108, z108⟩, st108⟩ := X106.interfaceBack hx (xi := (⟨"java/util/Collection", "toArray", "()[Ljava/lang/Object;"⟩ : MethodName)) (y := oM24) hown (mvT hZ (own_w hw 122 rfl)) (mvT hZ (own_w hw 123 rfl)) (mvT hZ (own_w hw 124 rfl)) (mvT hZ (own_w hw 125 rfl)) (mvT hZ (own_w hw 126 rfl)) (mvT hZ (own_w hw 127 rfl)) (mvT hZ (own_w hw 128 rfl)) (mvT hZ (own_w hw 120 rfl)) (by decide) (backOf (W := 0) (rm15 l Z a0 hw [] a1 mc ed kd x0 x1 de kde el ea kea em mr h0 n0 (Nat.le_trans Z0 (Keep.refl h0 []).1) O1 G A0 A1 A2 A3 A4 A5 A6 A7) hZ (own_w hw 129 rfl) (own_w hw 3 rfl) (by decide) (by decide)) q108a q108b q108c (g := (mkF m 45 #[.val (.ref a1), .unset] [(.ref a1)])) rfl (by rw [hml]; rfl) (Steps.refl _) (argsL := []) (rest := []) (lenOf pd3 rfl) rfl (by show 2 * 0 + _ ≤ _; exact Nat.le_of_eq rfl) (hb hby d13_45) (fun _ _ => ⟨rfl, q106_hh, (by decide : 0 + 1 ≤ _), (by decide : 0 + 2 ≤ _)⟩)
 dsimp only [Pt.U, Pt.locs, Pt.cells, Pt.slots] at X108 l108 y108 z108 st108 hQ108
 subst l108 y108 z108
 obtain ⟨x109, x110, rfl, N108q, q108_K, q108_V, q108_g, q108_z⟩ := hQ108
 have N108 := Fr.app N106 N108q
 have K111 : Keep h0 T108.heap [] := (Keep.refl h0 []).trans q108_K all0
 have ne_a1_x109 : a1 ≠ x109 := Nat.ne_of_lt (Nat.lt_of_lt_of_le A0.lt q108_z)
 have ne_ed_x109 : ed ≠ x109 := Nat.ne_of_lt (Nat.lt_of_lt_of_le A4.lt q108_z)
 have ne_x0_x109 : x0 ≠ x109 := Nat.ne_of_lt (Nat.lt_of_lt_of_le A6.lt q108_z)
 have ne_x1_x109 : x1 ≠ x109 := Nat.ne_of_lt (Nat.lt_of_lt_of_le A7.lt q108_z)
 have f112 := (A0.keep q108_K)
 have f113 := (A4.keep q108_K nin0)
 have f114 := (A5.keep q108_K)
 have f115 := (A6.keep q108_K)
 have f116 := (A7.keep q108_K)
 obtain ⟨_, _, ⟨T117, L117, k117, n117⟩, -, X117, ⟨Lc117, hQ117, l117, y117, z117⟩, st117⟩ := Jvm.LawKit.callS X108 hx (y := oM41) hown (mvT hZ (own_w hw 152 rfl)) (mvT hZ (own_w hw 153 rfl)) (mvT hZ (own_w hw 101 rfl)) (mvT hZ (own_w hw 154 rfl)) (by decide) (backOf (W := 0) (rm19 l Z a0 hw [] x109 x110 x0 x1 T108.heap n0 (Nat.le_trans Z0 K111.1) q108_V) hZ (own_w hw 154 rfl) (own_w hw 101 rfl) (by decide) (by decide)) (g := (mkF m 50 #[.val (.ref a1), .unset] [(.ref x109)])) rfl (by rw [hml]; rfl) (argsL := [(.ref x109)]) (rest := []) (lenOf pd10 rfl) rfl (by show 2 * 0 + _ ≤ _; exact Nat.le_of_eq rfl) (hb hby d13_50) (fun _ _ => ⟨rfl, rfl, (by decide : 1 + 1 ≤ _), (by decide : 2 + 2 ≤ _)⟩)
 dsimp only [Pt.U, Pt.locs, Pt.cells, Pt.slots] at X117 l117 y117 z117 st117 hQ117
 subst l117 y117 z117
 obtain ⟨x118, rfl, N117q, q117_K, q117_F0, q117_F1, q117_F2, q117_g, q117_z⟩ := hQ117
 have N117 := Fr.app N108 N117q
 have K119 : Keep h0 T117.heap [] := K111.trans q117_K all0
 have ne_a1_x118 : a1 ≠ x118 := Nat.ne_of_lt (Nat.lt_of_lt_of_le f112.lt q117_z)
 have ne_ed_x118 : ed ≠ x118 := Nat.ne_of_lt (Nat.lt_of_lt_of_le f113.lt q117_z)
 have ne_x0_x118 : x0 ≠ x118 := Nat.ne_of_lt (Nat.lt_of_lt_of_le f115.lt q117_z)
 have ne_x1_x118 : x1 ≠ x118 := Nat.ne_of_lt (Nat.lt_of_lt_of_le f116.lt q117_z)
 have ne_x109_x118 : x109 ≠ x118 := Nat.ne_of_lt (Nat.lt_of_lt_of_le q108_V.lt q117_z)
 obtain ⟨fs, hr, hrun, hended, hW, hsame⟩ := X117.leave (v := some (.ref x118)) (fun h => by rw [Bd.returns] at h; cases h)
 refine ⟨_, _, (gc (gcT p107 st108) st117) _ (retOut X117 hx (w := (.ref x118)) (i := .areturn) Bd.returns rfl (Or.inr (Or.inr (Or.inr (Or.inr ⟨rfl, rfl, rfl⟩)))) (hb hby d13_53) hr), hrun, hended, _, _, rfl, ?_, ⟨_, rfl⟩, hW, hsame.mono (by decide) (by decide)⟩
 show Q13_2 Z a1 mc ed kd x0 x1 de kde el ea kea em mr h0 n0 _ T117.heap _
 exact ⟨x118, rfl, N117, K119, q117_F0, q117_F1, q117_F2, q117_g, (Nat.le_trans K111.1 q117_z)⟩
theorem d12_0 : decode jdk_40_method_48_code 0 = .ok (.aload_n 0, 1) := by decide +kernel
theorem d12_1 : decode jdk_40_method_48_code 1 = .ok (.invokestatic 112, 3) := by decide +kernel
theorem d12_4 : decode jdk_40_method_48_code 4 = .ok (.areturn, 1) := by decide +kernel
theorem pd11 : parseMethodDescriptor "(Ljava/util/Collection;)Ljava/util/List;" = some ⟨[(.object "java/util/Collection")], some (.object "java/util/List")⟩ := by decide +kernel
theorem pn12 : plainFor (⟨"java/util/List", "copyOf", "(Ljava/util/Collection;)Ljava/util/List;"⟩ : MethodName) = true := plainFor_of_name (by first | (simp [plainName, overriddenIn]; done) | decide +kernel)
theorem ef_rm12_2 (m : MethodId) (a1 : Addr) (mc : Int32) (ed : Addr) (kd : ClassId) (x0 : Addr) (x1 : Addr) (de : Addr) (kde : ClassId) (el : Addr) (ea : Addr) (kea : ClassId) (em : Addr) (mr : Addr) : entryFrame m #[(.ref a1)] 1 = mkF m 0 #[.val (.ref a1)] [] := by first | (simp [entryFrame, mkF, argsToLocals, Value.category]; done) | rfl
def Q12_2 (Z : State) (a1 : Addr) (mc : Int32) (ed : Addr) (kd : ClassId) (x0 : Addr) (x1 : Addr) (de : Addr) (kde : ClassId) (el : Addr) (ea : Addr) (kea : ClassId) (em : Addr) (mr : Addr) (h0 : Heap) (n0 : Nat) (v : Option Value) (h : Heap) (L : List Loc) : Prop := ∃ (b : Addr), v = some (.ref b) ∧ Fr n0 L ∧ (Keep h0 h []) ∧ (Exa Z h b "java/util/ImmutableCollections$List12") ∧ (Fld Z h b "java/util/ImmutableCollections$List12" "e0" "Ljava/lang/Object;" (.ref x0)) ∧ (Fld Z h b "java/util/ImmutableCollections$List12" "e1" "Ljava/lang/Object;" (.ref x1)) ∧ (n0 ≤ b) ∧ (h0.size ≤ b)
set_option maxRecDepth 65536 in
set_option maxHeartbeats 40000000 in
theorem rm12_2 (l : Launch) (Z : State) (a0 : Array Value) (hw : ∀ d ∈ tables_1, d.before a0 Z = true) (ws : List Jvm.Cond) (a1 : Addr) (mc : Int32) (ed : Addr) (kd : ClassId) (x0 : Addr) (x1 : Addr) (de : Addr) (kde : ClassId) (el : Addr) (ea : Addr) (kea : ClassId) (em : Addr) (mr : Addr) (h0 : Heap) (n0 : Nat) (Z0 : n0 ≤ h0.size) (O1 : Old Z n0 h0) (G : own_H Z de kde el ea kea em mr) (A0 : Exa Z h0 a1 "java/util/ArrayList") (A1 : Fld Z h0 a1 "java/util/AbstractList" "modCount" "I" (.int mc)) (A2 : Fld Z h0 a1 "java/util/ArrayList" "elementData" "[Ljava/lang/Object;" (.ref ed)) (A3 : Fld Z h0 a1 "java/util/ArrayList" "size" "I" (.int 2)) (A4 : Arv Z h0 ed kd (.object "java/lang/Object") (10 : Int32) [(.ref x0), (.ref x1), .null, .null, .null, .null, .null, .null, .null, .null] .null) (A5 : Exa Z h0 ed "[Ljava/lang/Object;") (A6 : Exa Z h0 x0 "com/example/arcward/arcward/model/Variable") (A7 : Exa Z h0 x1 "com/example/arcward/arcward/model/Variable") :
  MetFree l oM38 (head1 (Jvm.Cond.code oM38 jdk_40_method_48_code 1 (some (.object "java/util/List")) :: ws) ({ frames := 7, cells := 2, slots := 4, locals := 89 } : Room)) (fun a U => a = #[(.ref a1)] ∧ Z.Warmed39 U.vm ∧ U.heap = h0) (fun _ _ _ _ _ => True) (fun _ U o U' => ∃ v L, o = .returned v ∧ Q12_2 Z a1 mc ed kd x0 x1 de kde el ea kea em mr h0 n0 v U'.heap L ∧ FrameEnd U o U' L ({ frames := 7, cells := 2, slots := 4, locals := 89 } : Room).cells ({ frames := 7, cells := 2, slots := 4, locals := 89 } : Room).slots) := by
 refine MetFree.of_bodySF pn12 hisR ?_
 intro p e s m args below meth c s₁ Bd hml0 hP hK
 obtain ⟨rfl, hZ, hh⟩ := hP
 have hx := Bd.exec
 have hby := Bd.bytes
 have hml : c.maxLocals = 1 := hml0
 have hown : s.vm.findClass "java/util/List" = some m.cls := findClass_of_methodNamed Bd.named
 have hnm := (name_of_methodNamed Bd.named Bd.method).1
 have X0 : Stand p l e ({ frames := 7, cells := 2, slots := 4, locals := 89 } : Room) s m #[(.ref a1)] below meth c s₁ [] 0 0 := Stand.of_body Bd
 have e0 : s₁.heap = h0 := by rw [← hh, Bd.state]; rfl
 have N0 := Fr.nil n0
 have p0 : GF p e below (s₁.setTop (entryFrame m #[(.ref a1)] 1)) s₁ m 0 #[.val (.ref a1)] [] := fun t_ k_ => castTop (ef_rm12_2 m a1 mc ed kd x0 x1 de kde el ea kea em mr) k_
 have p101 : GF p e below _ s₁ m 1 #[.val (.ref a1)] [(.ref a1)] := fun t_ k_ => p0 t_ (by
  refine XS.aloadN X0.here hx rfl (hb hby d12_0) rfl rfl ?_
  exact k_)
 obtain ⟨_, _, ⟨T102, L102, k102, n102⟩, -, X102, ⟨Lc102, hQ102, l102, y102, z102⟩, st102⟩ := Jvm.LawKit.callS X0 hx (y := oM28) hown (mvT hZ (own_w hw 103 rfl)) (mvT hZ (own_w hw 104 rfl)) (mvT hZ (own_w hw 105 rfl)) (mvT hZ (own_w hw 106 rfl)) (by decide) (backOf (W := 0) (rm13_2 l Z a0 hw [] a1 mc ed kd x0 x1 de kde el ea kea em mr h0 n0 (Nat.le_trans Z0 (Keep.refl h0 []).1) O1 G A0 A1 A2 A3 A4 A5 A6 A7) hZ (own_w hw 106 rfl) (own_w hw 105 rfl) (by decide) (by decide)) (g := (mkF m 1 #[.val (.ref a1)] [(.ref a1)])) rfl (by rw [hml]; rfl) (argsL := [(.ref a1)]) (rest := []) (lenOf pd11 rfl) rfl (by show 2 * 0 + _ ≤ _; exact Nat.le_of_eq rfl) (hb hby d12_1) (fun _ _ => ⟨rfl, e0, (by decide : 0 + 2 ≤ _), (by decide : 0 + 4 ≤ _)⟩)
 dsimp only [Pt.U, Pt.locs, Pt.cells, Pt.slots] at X102 l102 y102 z102 st102 hQ102
 subst l102 y102 z102
 obtain ⟨x103, rfl, N102q, q102_K, q102_F0, q102_F1, q102_F2, q102_g, q102_z⟩ := hQ102
 have N102 := Fr.app N0 N102q
 have K104 : Keep h0 T102.heap [] := (Keep.refl h0 []).trans q102_K all0
 have ne_a1_x103 : a1 ≠ x103 := Nat.ne_of_lt (Nat.lt_of_lt_of_le A0.lt q102_z)
 have ne_ed_x103 : ed ≠ x103 := Nat.ne_of_lt (Nat.lt_of_lt_of_le A4.lt q102_z)
 have ne_x0_x103 : x0 ≠ x103 := Nat.ne_of_lt (Nat.lt_of_lt_of_le A6.lt q102_z)
 have ne_x1_x103 : x1 ≠ x103 := Nat.ne_of_lt (Nat.lt_of_lt_of_le A7.lt q102_z)
 obtain ⟨fs, hr, hrun, hended, hW, hsame⟩ := X102.leave (v := some (.ref x103)) (fun h => by rw [Bd.returns] at h; cases h)
 refine ⟨_, _, (gc p101 st102) _ (retOut X102 hx (w := (.ref x103)) (i := .areturn) Bd.returns rfl (Or.inr (Or.inr (Or.inr (Or.inr ⟨rfl, rfl, rfl⟩)))) (hb hby d12_4) hr), hrun, hended, _, _, rfl, ?_, ⟨_, rfl⟩, hW, hsame.mono (by decide) (by decide)⟩
 show Q12_2 Z a1 mc ed kd x0 x1 de kde el ea kea em mr h0 n0 _ T102.heap _
 exact ⟨x103, rfl, N102, K104, q102_F0, q102_F1, q102_F2, q102_g, (Nat.le_trans (Keep.refl h0 []).1 q102_z)⟩
theorem d13_40 : decode jdk_56_method_3_code 40 = .ok (.invokestatic 26, 3) := by decide +kernel
theorem d13_43 : decode jdk_56_method_3_code 43 = .ok (.areturn, 1) := by decide +kernel
theorem pd12 : parseMethodDescriptor "()Ljava/util/List;" = some ⟨[], some (.object "java/util/List")⟩ := by decide +kernel
theorem ef_rm13_0 (m : MethodId) (a1 : Addr) (mc : Int32) (de : Addr) (kde : ClassId) (el : Addr) (ea : Addr) (kea : ClassId) (em : Addr) (mr : Addr) : entryFrame m #[(.ref a1)] 2 = mkF m 0 #[.val (.ref a1), .unset] [] := by first | (simp [entryFrame, mkF, argsToLocals, Value.category]; done) | rfl
def Q13_0 (Z : State) (a1 : Addr) (mc : Int32) (de : Addr) (kde : ClassId) (el : Addr) (ea : Addr) (kea : ClassId) (em : Addr) (mr : Addr) (h0 : Heap) (n0 : Nat) (v : Option Value) (h : Heap) (L : List Loc) : Prop := v = some (.ref el) ∧ Fr n0 L ∧ (h = h0)
set_option maxRecDepth 65536 in
set_option maxHeartbeats 40000000 in
theorem rm13_0 (l : Launch) (Z : State) (a0 : Array Value) (hw : ∀ d ∈ tables_1, d.before a0 Z = true) (ws : List Jvm.Cond) (a1 : Addr) (mc : Int32) (de : Addr) (kde : ClassId) (el : Addr) (ea : Addr) (kea : ClassId) (em : Addr) (mr : Addr) (h0 : Heap) (n0 : Nat) (Z0 : n0 ≤ h0.size) (O1 : Old Z n0 h0) (G : own_H Z de kde el ea kea em mr) (A0 : Exa Z h0 a1 "java/util/ArrayList") (A1 : Fld Z h0 a1 "java/util/AbstractList" "modCount" "I" (.int mc)) (A2 : Fld Z h0 a1 "java/util/ArrayList" "elementData" "[Ljava/lang/Object;" (.ref de)) (A3 : Fld Z h0 a1 "java/util/ArrayList" "size" "I" (.int 0)) :
  MetFree l oM28 (head1 (Jvm.Cond.code oM28 jdk_56_method_3_code 2 (some (.object "java/util/List")) :: ws) ({ frames := 1, cells := 0, slots := 0, locals := 12 } : Room)) (fun a U => a = #[(.ref a1)] ∧ Z.Warmed39 U.vm ∧ U.heap = h0) (fun _ _ _ _ _ => True) (fun _ U o U' => ∃ v L, o = .returned v ∧ Q13_0 Z a1 mc de kde el ea kea em mr h0 n0 v U'.heap L ∧ FrameEnd U o U' L ({ frames := 1, cells := 0, slots := 0, locals := 12 } : Room).cells ({ frames := 1, cells := 0, slots := 0, locals := 12 } : Room).slots) := by
 refine MetFree.of_bodySF pn13 hisR ?_
 intro p e s m args below meth c s₁ Bd hml0 hP hK
 obtain ⟨rfl, hZ, hh⟩ := hP
 have hx := Bd.exec
 have hby := Bd.bytes
 have hml : c.maxLocals = 2 := hml0
 have hown : s.vm.findClass "java/util/ImmutableCollections" = some m.cls := findClass_of_methodNamed Bd.named
 have hnm := (name_of_methodNamed Bd.named Bd.method).1
 have X0 : Stand p l e ({ frames := 1, cells := 0, slots := 0, locals := 12 } : Room) s m #[(.ref a1)] below meth c s₁ [] 0 0 := Stand.of_body Bd
 have e0 : s₁.heap = h0 := by rw [← hh, Bd.state]; rfl
 have N0 := Fr.nil n0
 have p0 : GF p e below (s₁.setTop (entryFrame m #[(.ref a1)] 2)) s₁ m 0 #[.val (.ref a1), .unset] [] := fun t_ k_ => castTop (ef_rm13_0 m a1 mc de kde el ea kea em mr) k_
 have p101 : GF p e below _ s₁ m 1 #[.val (.ref a1), .unset] [(.ref a1)] := fun t_ k_ => p0 t_ (by
  refine XS.aloadN X0.here hx rfl (hb hby d13_0) rfl rfl ?_
  exact k_)
 obtain ⟨T102, X102, e102, st102⟩ := instNo X0 hx hZ hown (own_w hw 107 rfl) e0 A0 (nsNo (own_w hw 108 rfl) (NS.step (own_w hw 108 rfl) (NS.step (own_w hw 109 rfl) (NS.step (own_w hw 110 rfl) (nsRoot (own_w hw 111 rfl) (own_w hw 195 rfl) (by decide)) (by decide)) (by decide)) (by decide)) (own_w hw 195 rfl) rfl (by decide)) (g := (mkF m 1 #[.val (.ref a1), .unset] [(.ref a1)])) rfl rfl (hb hby d13_1)
 have p103 : GF p e below _ T102 m 8 #[.val (.ref a1), .unset] [(.ref a1)] := fun t_ k_ => (gc p101 st102) t_ (by
  refine XS.ifNo X102.here hx rfl (hb hby d13_4) rfl ((if0 _ _).trans (teq (by decide : ((0 : Int32) = (0 : Int32)))).2) ?_
  refine XS.aloadN X102.here hx rfl (hb hby d13_7) rfl rfl ?_
  exact k_)
 obtain ⟨T104, X104, e104, st104⟩ := instNo X102 hx hZ hown (own_w hw 112 rfl) e102 A0 (nsNo (own_w hw 108 rfl) (NS.step (own_w hw 108 rfl) (NS.step (own_w hw 109 rfl) (NS.step (own_w hw 110 rfl) (nsRoot (own_w hw 111 rfl) (own_w hw 232 rfl) (by decide)) (by decide)) (by decide)) (by decide)) (own_w hw 232 rfl) rfl (by decide)) (g := (mkF m 8 #[.val (.ref a1), .unset] [(.ref a1)])) rfl rfl (hb hby d13_8)
 have p105 : GF p e below _ T104 m 32 #[.val (.ref a1), .unset] [(.ref a1)] := fun t_ k_ => (gc p103 st104) t_ (by
  refine XS.ifYes X104.here hx rfl (pc0 := 11) (pc' := 31) rfl (hb hby d13_11) rfl ((if0 _ _).trans (teq (by decide : ((0 : Int32) = (0 : Int32)))).1) (by decide) (by decide) ?_
  refine XS.aloadN X104.here hx rfl (hb hby d13_31) rfl rfl ?_
  exact k_)
 obtain ⟨cq106, kq106, q106a, q106b, q106c⟩ := isOf hZ e104 A0
 obtain ⟨_, _, ⟨T106, L106, k106, n106⟩, -, X106, ⟨Lc106, hQ106, l106, y106, z106⟩, st106⟩ := X104.interfaceBack hx (xi := oM27) (y := oM23) hown (mvT hZ (own_w hw 113 rfl)) (mvT hZ (own_w hw 114 rfl)) (mvT hZ (own_w hw 115 rfl)) (mvT hZ (own_w hw 116 rfl)) (mvT hZ (own_w hw 117 rfl)) (mvT hZ (own_w hw 118 rfl)) (mvT hZ (own_w hw 119 rfl)) (mvT hZ (own_w hw 120 rfl)) (by decide) (backOf (W := 0) (rm14_0 l Z a0 hw [] a1 h0 n0 (Nat.le_trans Z0 (Keep.refl h0 []).1) A3) hZ (own_w hw 121 rfl) (own_w hw 3 rfl) (by decide) (by decide)) q106a q106b q106c (g := (mkF m 32 #[.val (.ref a1), .unset] [(.ref a1)])) rfl (by rw [hml]; rfl) (Steps.refl _) (argsL := []) (rest := []) (lenOf pd9 rfl) rfl (by show 2 * 0 + _ ≤ _; exact Nat.le_of_eq rfl) (hb hby d13_32) (fun _ _ => ⟨rfl, e104, (by decide : 0 + 0 ≤ _), (by decide : 0 + 0 ≤ _)⟩)
 dsimp only [Pt.U, Pt.locs, Pt.cells, Pt.slots] at X106 l106 y106 z106 st106 hQ106
 subst l106 y106 z106
 obtain ⟨rfl, N106q, q106_hh⟩ := hQ106
 have N106 := Fr.app N0 N106q
 have p107 : GF p e below _ T106 m 40 #[.val (.ref a1), .unset] [] := fun t_ k_ => (gcT p105 st106) t_ (by
  refine XS.ifNo X106.here hx rfl (hb hby d13_37) rfl ((if0 _ _).trans (feq (by decide : ¬ ((1 : Int32) = (0 : Int32)))).1) ?_
  exact k_)
 obtain ⟨_, _, ⟨T108, L108, k108, n108⟩, -, X108, ⟨Lc108, hQ108, l108, y108, z108⟩, st108⟩ := Jvm.LawKit.callS X106 hx (y := oM40) hown (mvT hZ (own_w hw 186 rfl)) (mvT hZ (own_w hw 187 rfl)) (mvT hZ (own_w hw 101 rfl)) (mvT hZ (own_w hw 188 rfl)) (by decide) (backOf (W := 0) (rm24 l Z a0 hw [] de kde el ea kea em mr h0 n0 (Nat.le_trans Z0 (Keep.refl h0 []).1) O1 G) hZ (own_w hw 188 rfl) (own_w hw 101 rfl) (by decide) (by decide)) (g := (mkF m 40 #[.val (.ref a1), .unset] [])) rfl (by rw [hml]; rfl) (argsL := []) (rest := []) (lenOf pd12 rfl) rfl (by show 2 * 0 + _ ≤ _; exact Nat.le_of_eq rfl) (hb hby d13_40) (fun _ _ => ⟨rfl, q106_hh, (by decide : 0 + 0 ≤ _), (by decide : 0 + 0 ≤ _)⟩)
 dsimp only [Pt.U, Pt.locs, Pt.cells, Pt.slots] at X108 l108 y108 z108 st108 hQ108
 subst l108 y108 z108
 obtain ⟨rfl, N108q, q108_hh⟩ := hQ108
 have N108 := Fr.app N106 N108q
 obtain ⟨fs, hr, hrun, hended, hW, hsame⟩ := X108.leave (v := some (.ref el)) (fun h => by rw [Bd.returns] at h; cases h)
 refine ⟨_, _, (gc p107 st108) _ (retOut X108 hx (w := (.ref el)) (i := .areturn) Bd.returns rfl (Or.inr (Or.inr (Or.inr (Or.inr ⟨rfl, rfl, rfl⟩)))) (hb hby d13_43) hr), hrun, hended, _, _, rfl, ?_, ⟨_, rfl⟩, hW, hsame.mono (by decide) (by decide)⟩
 show Q13_0 Z a1 mc de kde el ea kea em mr h0 n0 _ T108.heap _
 rw [q108_hh]
 exact ⟨rfl, N108, rfl⟩
theorem ef_rm12_0 (m : MethodId) (a1 : Addr) (mc : Int32) (de : Addr) (kde : ClassId) (el : Addr) (ea : Addr) (kea : ClassId) (em : Addr) (mr : Addr) : entryFrame m #[(.ref a1)] 1 = mkF m 0 #[.val (.ref a1)] [] := by first | (simp [entryFrame, mkF, argsToLocals, Value.category]; done) | rfl
def Q12_0 (Z : State) (a1 : Addr) (mc : Int32) (de : Addr) (kde : ClassId) (el : Addr) (ea : Addr) (kea : ClassId) (em : Addr) (mr : Addr) (h0 : Heap) (n0 : Nat) (v : Option Value) (h : Heap) (L : List Loc) : Prop := v = some (.ref el) ∧ Fr n0 L ∧ (h = h0)
set_option maxRecDepth 65536 in
set_option maxHeartbeats 40000000 in
theorem rm12_0 (l : Launch) (Z : State) (a0 : Array Value) (hw : ∀ d ∈ tables_1, d.before a0 Z = true) (ws : List Jvm.Cond) (a1 : Addr) (mc : Int32) (de : Addr) (kde : ClassId) (el : Addr) (ea : Addr) (kea : ClassId) (em : Addr) (mr : Addr) (h0 : Heap) (n0 : Nat) (Z0 : n0 ≤ h0.size) (O1 : Old Z n0 h0) (G : own_H Z de kde el ea kea em mr) (A0 : Exa Z h0 a1 "java/util/ArrayList") (A1 : Fld Z h0 a1 "java/util/AbstractList" "modCount" "I" (.int mc)) (A2 : Fld Z h0 a1 "java/util/ArrayList" "elementData" "[Ljava/lang/Object;" (.ref de)) (A3 : Fld Z h0 a1 "java/util/ArrayList" "size" "I" (.int 0)) :
  MetFree l oM38 (head1 (Jvm.Cond.code oM38 jdk_40_method_48_code 1 (some (.object "java/util/List")) :: ws) ({ frames := 2, cells := 0, slots := 0, locals := 25 } : Room)) (fun a U => a = #[(.ref a1)] ∧ Z.Warmed39 U.vm ∧ U.heap = h0) (fun _ _ _ _ _ => True) (fun _ U o U' => ∃ v L, o = .returned v ∧ Q12_0 Z a1 mc de kde el ea kea em mr h0 n0 v U'.heap L ∧ FrameEnd U o U' L ({ frames := 2, cells := 0, slots := 0, locals := 25 } : Room).cells ({ frames := 2, cells := 0, slots := 0, locals := 25 } : Room).slots) := by
 refine MetFree.of_bodySF pn12 hisR ?_
 intro p e s m args below meth c s₁ Bd hml0 hP hK
 obtain ⟨rfl, hZ, hh⟩ := hP
 have hx := Bd.exec
 have hby := Bd.bytes
 have hml : c.maxLocals = 1 := hml0
 have hown : s.vm.findClass "java/util/List" = some m.cls := findClass_of_methodNamed Bd.named
 have hnm := (name_of_methodNamed Bd.named Bd.method).1
 have X0 : Stand p l e ({ frames := 2, cells := 0, slots := 0, locals := 25 } : Room) s m #[(.ref a1)] below meth c s₁ [] 0 0 := Stand.of_body Bd
 have e0 : s₁.heap = h0 := by rw [← hh, Bd.state]; rfl
 have N0 := Fr.nil n0
 have p0 : GF p e below (s₁.setTop (entryFrame m #[(.ref a1)] 1)) s₁ m 0 #[.val (.ref a1)] [] := fun t_ k_ => castTop (ef_rm12_0 m a1 mc de kde el ea kea em mr) k_
 have p101 : GF p e below _ s₁ m 1 #[.val (.ref a1)] [(.ref a1)] := fun t_ k_ => p0 t_ (by
  refine XS.aloadN X0.here hx rfl (hb hby d12_0) rfl rfl ?_
  exact k_)
 obtain ⟨_, _, ⟨T102, L102, k102, n102⟩, -, X102, ⟨Lc102, hQ102, l102, y102, z102⟩, st102⟩ := Jvm.LawKit.callS X0 hx (y := oM28) hown (mvT hZ (own_w hw 103 rfl)) (mvT hZ (own_w hw 104 rfl)) (mvT hZ (own_w hw 105 rfl)) (mvT hZ (own_w hw 106 rfl)) (by decide) (backOf (W := 0) (rm13_0 l Z a0 hw [] a1 mc de kde el ea kea em mr h0 n0 (Nat.le_trans Z0 (Keep.refl h0 []).1) O1 G A0 A1 A2 A3) hZ (own_w hw 106 rfl) (own_w hw 105 rfl) (by decide) (by decide)) (g := (mkF m 1 #[.val (.ref a1)] [(.ref a1)])) rfl (by rw [hml]; rfl) (argsL := [(.ref a1)]) (rest := []) (lenOf pd11 rfl) rfl (by show 2 * 0 + _ ≤ _; exact Nat.le_of_eq rfl) (hb hby d12_1) (fun _ _ => ⟨rfl, e0, (by decide : 0 + 0 ≤ _), (by decide : 0 + 0 ≤ _)⟩)
 dsimp only [Pt.U, Pt.locs, Pt.cells, Pt.slots] at X102 l102 y102 z102 st102 hQ102
 subst l102 y102 z102
 obtain ⟨rfl, N102q, q102_hh⟩ := hQ102
 have N102 := Fr.app N0 N102q
 obtain ⟨fs, hr, hrun, hended, hW, hsame⟩ := X102.leave (v := some (.ref el)) (fun h => by rw [Bd.returns] at h; cases h)
 refine ⟨_, _, (gc p101 st102) _ (retOut X102 hx (w := (.ref el)) (i := .areturn) Bd.returns rfl (Or.inr (Or.inr (Or.inr (Or.inr ⟨rfl, rfl, rfl⟩)))) (hb hby d12_4) hr), hrun, hended, _, _, rfl, ?_, ⟨_, rfl⟩, hW, hsame.mono (by decide) (by decide)⟩
 show Q12_0 Z a1 mc de kde el ea kea em mr h0 n0 _ T102.heap _
 rw [q102_hh]
 exact ⟨rfl, N102, rfl⟩
theorem d25_0 : decode jdk_44_method_3_code 0 = .ok (.aload_n 0, 1) := by decide +kernel
theorem d25_1 : decode jdk_44_method_3_code 1 = .ok (.getfield 24, 3) := by decide +kernel
theorem d25_4 : decode jdk_44_method_3_code 4 = .ok (.getstatic 19, 3) := by decide +kernel
theorem d25_7 : decode jdk_44_method_3_code 7 = .ok (.if_acmp .eq 7, 3) := by decide +kernel
theorem d25_10 : decode jdk_44_method_3_code 10 = .ok (.iconst 2, 1) := by decide +kernel
theorem d25_11 : decode jdk_44_method_3_code 11 = .ok (.goto 4, 3) := by decide +kernel
theorem d25_15 : decode jdk_44_method_3_code 15 = .ok (.ireturn, 1) := by decide +kernel
theorem pn25 : plainFor (⟨"java/util/ImmutableCollections$List12", "size", "()I"⟩ : MethodName) = true := plainFor_of_name (by first | (simp [plainName, overriddenIn]; done) | decide +kernel)
theorem ef_rm25 (m : MethodId) (a1 : Addr) (x0 : Addr) (x1 : Addr) (de : Addr) (kde : ClassId) (el : Addr) (ea : Addr) (kea : ClassId) (em : Addr) (mr : Addr) : entryFrame m #[(.ref a1)] 1 = mkF m 0 #[.val (.ref a1)] [] := by first | (simp [entryFrame, mkF, argsToLocals, Value.category]; done) | rfl
def Q25 (Z : State) (a1 : Addr) (x0 : Addr) (x1 : Addr) (de : Addr) (kde : ClassId) (el : Addr) (ea : Addr) (kea : ClassId) (em : Addr) (mr : Addr) (h0 : Heap) (n0 : Nat) (v : Option Value) (h : Heap) (L : List Loc) : Prop := v = some (.int 2) ∧ Fr n0 L ∧ (h = h0)
set_option maxRecDepth 65536 in
set_option maxHeartbeats 40000000 in
theorem rm25 (l : Launch) (Z : State) (a0 : Array Value) (hw : ∀ d ∈ tables_1, d.before a0 Z = true) (ws : List Jvm.Cond) (a1 : Addr) (x0 : Addr) (x1 : Addr) (de : Addr) (kde : ClassId) (el : Addr) (ea : Addr) (kea : ClassId) (em : Addr) (mr : Addr) (h0 : Heap) (n0 : Nat) (Z0 : n0 ≤ h0.size) (O1 : Old Z n0 h0) (G : own_H Z de kde el ea kea em mr) (F0 : Exa Z h0 a1 "java/util/ImmutableCollections$List12") (F1 : Fld Z h0 a1 "java/util/ImmutableCollections$List12" "e0" "Ljava/lang/Object;" (.ref x0)) (F2 : Fld Z h0 a1 "java/util/ImmutableCollections$List12" "e1" "Ljava/lang/Object;" (.ref x1)) (gx : n0 ≤ x1) :
  MetFree l oM34 (head1 (Jvm.Cond.code oM34 jdk_44_method_3_code 1 (some .int) :: ws) ({ frames := 0, cells := 0, slots := 0, locals := 0 } : Room)) (fun a U => a = #[(.ref a1)] ∧ Z.Warmed39 U.vm ∧ U.heap = h0) (fun _ _ _ _ _ => True) (fun _ U o U' => ∃ v L, o = .returned v ∧ Q25 Z a1 x0 x1 de kde el ea kea em mr h0 n0 v U'.heap L ∧ FrameEnd U o U' L ({ frames := 0, cells := 0, slots := 0, locals := 0 } : Room).cells ({ frames := 0, cells := 0, slots := 0, locals := 0 } : Room).slots) := by
 refine MetFree.of_bodySF pn25 hisR ?_
 intro p e s m args below meth c s₁ Bd hml0 hP hK
 obtain ⟨rfl, hZ, hh⟩ := hP
 have hx := Bd.exec
 have hby := Bd.bytes
 have hml : c.maxLocals = 1 := hml0
 have hown : s.vm.findClass "java/util/ImmutableCollections$List12" = some m.cls := findClass_of_methodNamed Bd.named
 have hnm := (name_of_methodNamed Bd.named Bd.method).1
 have X0 : Stand p l e ({ frames := 0, cells := 0, slots := 0, locals := 0 } : Room) s m #[(.ref a1)] below meth c s₁ [] 0 0 := Stand.of_body Bd
 have e0 : s₁.heap = h0 := by rw [← hh, Bd.state]; rfl
 have N0 := Fr.nil n0
 have p0 : GF p e below (s₁.setTop (entryFrame m #[(.ref a1)] 1)) s₁ m 0 #[.val (.ref a1)] [] := fun t_ k_ => castTop (ef_rm25 m a1 x0 x1 de kde el ea kea em mr) k_
 have p101 : GF p e below _ s₁ m 1 #[.val (.ref a1)] [(.ref a1)] := fun t_ k_ => p0 t_ (by
  refine XS.aloadN X0.here hx rfl (hb hby d25_0) rfl rfl ?_
  exact k_)
 obtain ⟨T102, X102, e102, st102⟩ := getF X0 hx hZ hown (host := "") (Or.inl (own_w hw 182 rfl)) Via.refl e0 F2 (g := (mkF m 1 #[.val (.ref a1)] [(.ref a1)])) rfl rfl (hb hby d25_1)
 obtain ⟨T103, X103, e103, st103⟩ := getS2 X102 hx hZ hown (Or.inr (own_w hw 201 rfl)) Via.refl e102 (G.2.2.2.2.2.2.2.1.ext O1.2) (g := (mkF m 4 #[.val (.ref a1)] [(.ref x1)])) rfl (hb hby d25_4)
 have p104 : GF p e below _ T103 m 15 #[.val (.ref a1)] [(.int 2)] := fun t_ k_ => (gc (gc p101 st102) st103) t_ (by
  refine Jvm.RoadKit.acmp (g := (mkF m 7 #[.val (.ref a1)] [(.ref em), (.ref x1)])) X103 hx rfl rfl rfl (pc0 := 7) (pc' := 10) (same := false) rfl (hb hby d25_7) rfl (decide_eq_false fun q => (Ne.symm (O1.ne G.2.2.2.2.2.2.2.2.1 gx)) (Value.ref.inj q)) (by decide) (by decide) ?_
  refine XS.iconst X103.here hx rfl (hb hby d25_10) ?_
  refine XS.goto X103.here hx rfl (pc0 := 11) (pc' := 15) rfl (hb hby d25_11) (by decide) (by decide) ?_
  exact k_)
 obtain ⟨fs, hr, hrun, hended, hW, hsame⟩ := X103.leave (v := some (.int 2)) (fun h => by rw [Bd.returns] at h; cases h)
 refine ⟨_, _, p104 _ (retI X103 hx Bd.returns (hb hby d25_15) hr), hrun, hended, _, _, rfl, ?_, ⟨_, rfl⟩, hW, hsame.mono (by decide) (by decide)⟩
 show Q25 Z a1 x0 x1 de kde el ea kea em mr h0 n0 _ T103.heap _
 rw [e103]
 exact ⟨rfl, N0, rfl⟩
theorem d26_0 : decode jdk_44_method_5_code 0 = .ok (.iload_n 1, 1) := by decide +kernel
theorem d26_1 : decode jdk_44_method_5_code 1 = .ok (.ifCond .ne 8, 3) := by decide +kernel
theorem d26_4 : decode jdk_44_method_5_code 4 = .ok (.aload_n 0, 1) := by decide +kernel
theorem d26_5 : decode jdk_44_method_5_code 5 = .ok (.getfield 13, 3) := by decide +kernel
theorem d26_8 : decode jdk_44_method_5_code 8 = .ok (.areturn, 1) := by decide +kernel
theorem pn26 : plainFor (⟨"java/util/ImmutableCollections$List12", "get", "(I)Ljava/lang/Object;"⟩ : MethodName) = true := plainFor_of_name (by first | (simp [plainName, overriddenIn]; done) | decide +kernel)
theorem ef_rm26_0 (m : MethodId) (a1 : Addr) (x0 : Addr) (x1 : Addr) (de : Addr) (kde : ClassId) (el : Addr) (ea : Addr) (kea : ClassId) (em : Addr) (mr : Addr) : entryFrame m #[(.ref a1), (.int 0)] 2 = mkF m 0 #[.val (.ref a1), .val (.int 0)] [] := by first | (simp [entryFrame, mkF, argsToLocals, Value.category]; done) | rfl
def Q26_0 (Z : State) (a1 : Addr) (x0 : Addr) (x1 : Addr) (de : Addr) (kde : ClassId) (el : Addr) (ea : Addr) (kea : ClassId) (em : Addr) (mr : Addr) (h0 : Heap) (n0 : Nat) (v : Option Value) (h : Heap) (L : List Loc) : Prop := v = some (.ref x0) ∧ Fr n0 L ∧ (h = h0)
set_option maxRecDepth 65536 in
set_option maxHeartbeats 40000000 in
theorem rm26_0 (l : Launch) (Z : State) (a0 : Array Value) (hw : ∀ d ∈ tables_1, d.before a0 Z = true) (ws : List Jvm.Cond) (a1 : Addr) (x0 : Addr) (x1 : Addr) (de : Addr) (kde : ClassId) (el : Addr) (ea : Addr) (kea : ClassId) (em : Addr) (mr : Addr) (h0 : Heap) (n0 : Nat) (Z0 : n0 ≤ h0.size) (O1 : Old Z n0 h0) (G : own_H Z de kde el ea kea em mr) (F0 : Exa Z h0 a1 "java/util/ImmutableCollections$List12") (F1 : Fld Z h0 a1 "java/util/ImmutableCollections$List12" "e0" "Ljava/lang/Object;" (.ref x0)) (F2 : Fld Z h0 a1 "java/util/ImmutableCollections$List12" "e1" "Ljava/lang/Object;" (.ref x1)) (gx : n0 ≤ x1) :
  MetFree l oM33 (head1 (Jvm.Cond.code oM33 jdk_44_method_5_code 2 (some (.object "java/lang/Object")) :: ws) ({ frames := 0, cells := 0, slots := 0, locals := 0 } : Room)) (fun a U => a = #[(.ref a1), (.int 0)] ∧ Z.Warmed39 U.vm ∧ U.heap = h0) (fun _ _ _ _ _ => True) (fun _ U o U' => ∃ v L, o = .returned v ∧ Q26_0 Z a1 x0 x1 de kde el ea kea em mr h0 n0 v U'.heap L ∧ FrameEnd U o U' L ({ frames := 0, cells := 0, slots := 0, locals := 0 } : Room).cells ({ frames := 0, cells := 0, slots := 0, locals := 0 } : Room).slots) := by
 refine MetFree.of_bodySF pn26 hisR ?_
 intro p e s m args below meth c s₁ Bd hml0 hP hK
 obtain ⟨rfl, hZ, hh⟩ := hP
 have hx := Bd.exec
 have hby := Bd.bytes
 have hml : c.maxLocals = 2 := hml0
 have hown : s.vm.findClass "java/util/ImmutableCollections$List12" = some m.cls := findClass_of_methodNamed Bd.named
 have hnm := (name_of_methodNamed Bd.named Bd.method).1
 have X0 : Stand p l e ({ frames := 0, cells := 0, slots := 0, locals := 0 } : Room) s m #[(.ref a1), (.int 0)] below meth c s₁ [] 0 0 := Stand.of_body Bd
 have e0 : s₁.heap = h0 := by rw [← hh, Bd.state]; rfl
 have N0 := Fr.nil n0
 have p0 : GF p e below (s₁.setTop (entryFrame m #[(.ref a1), (.int 0)] 2)) s₁ m 0 #[.val (.ref a1), .val (.int 0)] [] := fun t_ k_ => castTop (ef_rm26_0 m a1 x0 x1 de kde el ea kea em mr) k_
 have p101 : GF p e below _ s₁ m 5 #[.val (.ref a1), .val (.int 0)] [(.ref a1)] := fun t_ k_ => p0 t_ (by
  refine XS.iloadN X0.here hx rfl (hb hby d26_0) rfl ?_
  refine XS.ifNo X0.here hx rfl (hb hby d26_1) rfl ((if0 _ _).trans (teq (by decide : ((0 : Int32) = (0 : Int32)))).2) ?_
  refine XS.aloadN X0.here hx rfl (hb hby d26_4) rfl rfl ?_
  exact k_)
 obtain ⟨T102, X102, e102, st102⟩ := getF X0 hx hZ hown (host := "") (Or.inl (own_w hw 180 rfl)) Via.refl e0 F1 (g := (mkF m 5 #[.val (.ref a1), .val (.int 0)] [(.ref a1)])) rfl rfl (hb hby d26_5)
 obtain ⟨fs, hr, hrun, hended, hW, hsame⟩ := X102.leave (v := some (.ref x0)) (fun h => by rw [Bd.returns] at h; cases h)
 refine ⟨_, _, (gc p101 st102) _ (retOut X102 hx (w := (.ref x0)) (i := .areturn) Bd.returns rfl (Or.inr (Or.inr (Or.inr (Or.inr ⟨rfl, rfl, rfl⟩)))) (hb hby d26_8) hr), hrun, hended, _, _, rfl, ?_, ⟨_, rfl⟩, hW, hsame.mono (by decide) (by decide)⟩
 show Q26_0 Z a1 x0 x1 de kde el ea kea em mr h0 n0 _ T102.heap _
 rw [e102]
 exact ⟨rfl, N0, rfl⟩
theorem d26_9 : decode jdk_44_method_5_code 9 = .ok (.iload_n 1, 1) := by decide +kernel
theorem d26_10 : decode jdk_44_method_5_code 10 = .ok (.iconst 1, 1) := by decide +kernel
theorem d26_11 : decode jdk_44_method_5_code 11 = .ok (.if_icmp .ne 18, 3) := by decide +kernel
theorem d26_14 : decode jdk_44_method_5_code 14 = .ok (.aload_n 0, 1) := by decide +kernel
theorem d26_15 : decode jdk_44_method_5_code 15 = .ok (.getfield 24, 3) := by decide +kernel
theorem d26_18 : decode jdk_44_method_5_code 18 = .ok (.getstatic 19, 3) := by decide +kernel
theorem d26_21 : decode jdk_44_method_5_code 21 = .ok (.if_acmp .eq 8, 3) := by decide +kernel
theorem d26_24 : decode jdk_44_method_5_code 24 = .ok (.aload_n 0, 1) := by decide +kernel
theorem d26_25 : decode jdk_44_method_5_code 25 = .ok (.getfield 24, 3) := by decide +kernel
theorem d26_28 : decode jdk_44_method_5_code 28 = .ok (.areturn, 1) := by decide +kernel
theorem ef_rm26_1 (m : MethodId) (a1 : Addr) (x0 : Addr) (x1 : Addr) (de : Addr) (kde : ClassId) (el : Addr) (ea : Addr) (kea : ClassId) (em : Addr) (mr : Addr) : entryFrame m #[(.ref a1), (.int 1)] 2 = mkF m 0 #[.val (.ref a1), .val (.int 1)] [] := by first | (simp [entryFrame, mkF, argsToLocals, Value.category]; done) | rfl
def Q26_1 (Z : State) (a1 : Addr) (x0 : Addr) (x1 : Addr) (de : Addr) (kde : ClassId) (el : Addr) (ea : Addr) (kea : ClassId) (em : Addr) (mr : Addr) (h0 : Heap) (n0 : Nat) (v : Option Value) (h : Heap) (L : List Loc) : Prop := v = some (.ref x1) ∧ Fr n0 L ∧ (h = h0)
set_option maxRecDepth 65536 in
set_option maxHeartbeats 40000000 in
theorem rm26_1 (l : Launch) (Z : State) (a0 : Array Value) (hw : ∀ d ∈ tables_1, d.before a0 Z = true) (ws : List Jvm.Cond) (a1 : Addr) (x0 : Addr) (x1 : Addr) (de : Addr) (kde : ClassId) (el : Addr) (ea : Addr) (kea : ClassId) (em : Addr) (mr : Addr) (h0 : Heap) (n0 : Nat) (Z0 : n0 ≤ h0.size) (O1 : Old Z n0 h0) (G : own_H Z de kde el ea kea em mr) (F0 : Exa Z h0 a1 "java/util/ImmutableCollections$List12") (F1 : Fld Z h0 a1 "java/util/ImmutableCollections$List12" "e0" "Ljava/lang/Object;" (.ref x0)) (F2 : Fld Z h0 a1 "java/util/ImmutableCollections$List12" "e1" "Ljava/lang/Object;" (.ref x1)) (gx : n0 ≤ x1) :
  MetFree l oM33 (head1 (Jvm.Cond.code oM33 jdk_44_method_5_code 2 (some (.object "java/lang/Object")) :: ws) ({ frames := 0, cells := 0, slots := 0, locals := 0 } : Room)) (fun a U => a = #[(.ref a1), (.int 1)] ∧ Z.Warmed39 U.vm ∧ U.heap = h0) (fun _ _ _ _ _ => True) (fun _ U o U' => ∃ v L, o = .returned v ∧ Q26_1 Z a1 x0 x1 de kde el ea kea em mr h0 n0 v U'.heap L ∧ FrameEnd U o U' L ({ frames := 0, cells := 0, slots := 0, locals := 0 } : Room).cells ({ frames := 0, cells := 0, slots := 0, locals := 0 } : Room).slots) := by
 refine MetFree.of_bodySF pn26 hisR ?_
 intro p e s m args below meth c s₁ Bd hml0 hP hK
 obtain ⟨rfl, hZ, hh⟩ := hP
 have hx := Bd.exec
 have hby := Bd.bytes
 have hml : c.maxLocals = 2 := hml0
 have hown : s.vm.findClass "java/util/ImmutableCollections$List12" = some m.cls := findClass_of_methodNamed Bd.named
 have hnm := (name_of_methodNamed Bd.named Bd.method).1
 have X0 : Stand p l e ({ frames := 0, cells := 0, slots := 0, locals := 0 } : Room) s m #[(.ref a1), (.int 1)] below meth c s₁ [] 0 0 := Stand.of_body Bd
 have e0 : s₁.heap = h0 := by rw [← hh, Bd.state]; rfl
 have N0 := Fr.nil n0
 have p0 : GF p e below (s₁.setTop (entryFrame m #[(.ref a1), (.int 1)] 2)) s₁ m 0 #[.val (.ref a1), .val (.int 1)] [] := fun t_ k_ => castTop (ef_rm26_1 m a1 x0 x1 de kde el ea kea em mr) k_
 have p101 : GF p e below _ s₁ m 15 #[.val (.ref a1), .val (.int 1)] [(.ref a1)] := fun t_ k_ => p0 t_ (by
  refine XS.iloadN X0.here hx rfl (hb hby d26_0) rfl ?_
  refine XS.ifYes X0.here hx rfl (pc0 := 1) (pc' := 9) rfl (hb hby d26_1) rfl ((if0 _ _).trans (feq (by decide : ¬ ((1 : Int32) = (0 : Int32)))).2) (by decide) (by decide) ?_
  refine XS.iloadN X0.here hx rfl (hb hby d26_9) rfl ?_
  refine XS.iconst X0.here hx rfl (hb hby d26_10) ?_
  refine XS.icmpNo X0.here hx rfl (hb hby d26_11) rfl (teq (by decide : ((1 : Int32) = (1 : Int32)))).2 ?_
  refine XS.aloadN X0.here hx rfl (hb hby d26_14) rfl rfl ?_
  exact k_)
 obtain ⟨T102, X102, e102, st102⟩ := getF X0 hx hZ hown (host := "") (Or.inl (own_w hw 182 rfl)) Via.refl e0 F2 (g := (mkF m 15 #[.val (.ref a1), .val (.int 1)] [(.ref a1)])) rfl rfl (hb hby d26_15)
 obtain ⟨T103, X103, e103, st103⟩ := getS2 X102 hx hZ hown (Or.inr (own_w hw 201 rfl)) Via.refl e102 (G.2.2.2.2.2.2.2.1.ext O1.2) (g := (mkF m 18 #[.val (.ref a1), .val (.int 1)] [(.ref x1)])) rfl (hb hby d26_18)
 have p104 : GF p e below _ T103 m 25 #[.val (.ref a1), .val (.int 1)] [(.ref a1)] := fun t_ k_ => (gc (gc p101 st102) st103) t_ (by
  refine Jvm.RoadKit.acmp (g := (mkF m 21 #[.val (.ref a1), .val (.int 1)] [(.ref em), (.ref x1)])) X103 hx rfl rfl rfl (pc0 := 21) (pc' := 24) (same := false) rfl (hb hby d26_21) rfl (decide_eq_false fun q => (Ne.symm (O1.ne G.2.2.2.2.2.2.2.2.1 gx)) (Value.ref.inj q)) (by decide) (by decide) ?_
  refine XS.aloadN X103.here hx rfl (hb hby d26_24) rfl rfl ?_
  exact k_)
 obtain ⟨T105, X105, e105, st105⟩ := getF X103 hx hZ hown (host := "") (Or.inl (own_w hw 182 rfl)) Via.refl e103 F2 (g := (mkF m 25 #[.val (.ref a1), .val (.int 1)] [(.ref a1)])) rfl rfl (hb hby d26_25)
 obtain ⟨fs, hr, hrun, hended, hW, hsame⟩ := X105.leave (v := some (.ref x1)) (fun h => by rw [Bd.returns] at h; cases h)
 refine ⟨_, _, (gc p104 st105) _ (retOut X105 hx (w := (.ref x1)) (i := .areturn) Bd.returns rfl (Or.inr (Or.inr (Or.inr (Or.inr ⟨rfl, rfl, rfl⟩)))) (hb hby d26_28) hr), hrun, hended, _, _, rfl, ?_, ⟨_, rfl⟩, hW, hsame.mono (by decide) (by decide)⟩
 show Q26_1 Z a1 x0 x1 de kde el ea kea em mr h0 n0 _ T105.heap _
 rw [e105]
 exact ⟨rfl, N0, rfl⟩
theorem d27_0 : decode prog_43_method_3_code 0 = .ok (.aload_n 0, 1) := by decide +kernel
theorem d27_1 : decode prog_43_method_3_code 1 = .ok (.getfield 22, 3) := by decide +kernel
theorem d27_4 : decode prog_43_method_3_code 4 = .ok (.ireturn, 1) := by decide +kernel
theorem pn27 : plainFor (⟨"com/example/arcward/arcward/model/Variable", "index", "()I"⟩ : MethodName) = true := plainFor_of_name (by first | (simp [plainName, overriddenIn]; done) | decide +kernel)
theorem ef_rm27 (m : MethodId) (a1 : Addr) (ix : Int32) : entryFrame m #[(.ref a1)] 1 = mkF m 0 #[.val (.ref a1)] [] := by first | (simp [entryFrame, mkF, argsToLocals, Value.category]; done) | rfl
def Q27 (Z : State) (a1 : Addr) (ix : Int32) (h0 : Heap) (n0 : Nat) (v : Option Value) (h : Heap) (L : List Loc) : Prop := v = some (.int ix) ∧ Fr n0 L ∧ (h = h0)
set_option maxRecDepth 65536 in
set_option maxHeartbeats 40000000 in
theorem rm27 (l : Launch) (Z : State) (a0 : Array Value) (hw : ∀ d ∈ tables_1, d.before a0 Z = true) (ws : List Jvm.Cond) (a1 : Addr) (ix : Int32) (h0 : Heap) (n0 : Nat) (Z0 : n0 ≤ h0.size) (F1 : Fld Z h0 a1 "com/example/arcward/arcward/model/Variable" "index" "I" (.int ix)) :
  MetFree l oM3 (head1 (Jvm.Cond.code oM3 prog_43_method_3_code 1 (some .int) :: ws) ({ frames := 0, cells := 0, slots := 0, locals := 0 } : Room)) (fun a U => a = #[(.ref a1)] ∧ Z.Warmed39 U.vm ∧ U.heap = h0) (fun _ _ _ _ _ => True) (fun _ U o U' => ∃ v L, o = .returned v ∧ Q27 Z a1 ix h0 n0 v U'.heap L ∧ FrameEnd U o U' L ({ frames := 0, cells := 0, slots := 0, locals := 0 } : Room).cells ({ frames := 0, cells := 0, slots := 0, locals := 0 } : Room).slots) := by
 refine MetFree.of_bodySF pn27 hisR ?_
 intro p e s m args below meth c s₁ Bd hml0 hP hK
 obtain ⟨rfl, hZ, hh⟩ := hP
 have hx := Bd.exec
 have hby := Bd.bytes
 have hml : c.maxLocals = 1 := hml0
 have hown : s.vm.findClass "com/example/arcward/arcward/model/Variable" = some m.cls := findClass_of_methodNamed Bd.named
 have hnm := (name_of_methodNamed Bd.named Bd.method).1
 have X0 : Stand p l e ({ frames := 0, cells := 0, slots := 0, locals := 0 } : Room) s m #[(.ref a1)] below meth c s₁ [] 0 0 := Stand.of_body Bd
 have e0 : s₁.heap = h0 := by rw [← hh, Bd.state]; rfl
 have N0 := Fr.nil n0
 have p0 : GF p e below (s₁.setTop (entryFrame m #[(.ref a1)] 1)) s₁ m 0 #[.val (.ref a1)] [] := fun t_ k_ => castTop (ef_rm27 m a1 ix) k_
 have p101 : GF p e below _ s₁ m 1 #[.val (.ref a1)] [(.ref a1)] := fun t_ k_ => p0 t_ (by
  refine XS.aloadN X0.here hx rfl (hb hby d27_0) rfl rfl ?_
  exact k_)
 obtain ⟨T102, X102, e102, st102⟩ := getF X0 hx hZ hown (host := "") (Or.inl (own_w hw 44 rfl)) Via.refl e0 F1 (g := (mkF m 1 #[.val (.ref a1)] [(.ref a1)])) rfl rfl (hb hby d27_1)
 obtain ⟨fs, hr, hrun, hended, hW, hsame⟩ := X102.leave (v := some (.int ix)) (fun h => by rw [Bd.returns] at h; cases h)
 refine ⟨_, _, (gc p101 st102) _ (retI X102 hx Bd.returns (hb hby d27_4) hr), hrun, hended, _, _, rfl, ?_, ⟨_, rfl⟩, hW, hsame.mono (by decide) (by decide)⟩
 show Q27 Z a1 ix h0 n0 _ T102.heap _
 rw [e102]
 exact ⟨rfl, N0, rfl⟩
theorem d29_0 : decode jdk_45_method_3_code 0 = .ok (.aload_n 0, 1) := by decide +kernel
theorem d29_1 : decode jdk_45_method_3_code 1 = .ok (.getfield 7, 3) := by decide +kernel
theorem d29_4 : decode jdk_45_method_3_code 4 = .ok (.arraylength, 1) := by decide +kernel
theorem d29_5 : decode jdk_45_method_3_code 5 = .ok (.ireturn, 1) := by decide +kernel
theorem pn29 : plainFor (⟨"java/util/ImmutableCollections$ListN", "size", "()I"⟩ : MethodName) = true := plainFor_of_name (by first | (simp [plainName, overriddenIn]; done) | decide +kernel)
theorem ef_rm29 (m : MethodId) (de : Addr) (kde : ClassId) (el : Addr) (ea : Addr) (kea : ClassId) (em : Addr) (mr : Addr) : entryFrame m #[(.ref el)] 1 = mkF m 0 #[.val (.ref el)] [] := by first | (simp [entryFrame, mkF, argsToLocals, Value.category]; done) | rfl
def Q29 (Z : State) (de : Addr) (kde : ClassId) (el : Addr) (ea : Addr) (kea : ClassId) (em : Addr) (mr : Addr) (h0 : Heap) (n0 : Nat) (v : Option Value) (h : Heap) (L : List Loc) : Prop := v = some (.int 0) ∧ Fr n0 L ∧ (h = h0)
set_option maxRecDepth 65536 in
set_option maxHeartbeats 40000000 in
theorem rm29 (l : Launch) (Z : State) (a0 : Array Value) (hw : ∀ d ∈ tables_1, d.before a0 Z = true) (ws : List Jvm.Cond) (de : Addr) (kde : ClassId) (el : Addr) (ea : Addr) (kea : ClassId) (em : Addr) (mr : Addr) (h0 : Heap) (n0 : Nat) (Z0 : n0 ≤ h0.size) (O1 : Old Z n0 h0) (G : own_H Z de kde el ea kea em mr) :
  MetFree l oM37 (head1 (Jvm.Cond.code oM37 jdk_45_method_3_code 1 (some .int) :: ws) ({ frames := 0, cells := 0, slots := 0, locals := 0 } : Room)) (fun a U => a = #[(.ref el)] ∧ Z.Warmed39 U.vm ∧ U.heap = h0) (fun _ _ _ _ _ => True) (fun _ U o U' => ∃ v L, o = .returned v ∧ Q29 Z de kde el ea kea em mr h0 n0 v U'.heap L ∧ FrameEnd U o U' L ({ frames := 0, cells := 0, slots := 0, locals := 0 } : Room).cells ({ frames := 0, cells := 0, slots := 0, locals := 0 } : Room).slots) := by
 refine MetFree.of_bodySF pn29 hisR ?_
 intro p e s m args below meth c s₁ Bd hml0 hP hK
 obtain ⟨rfl, hZ, hh⟩ := hP
 have hx := Bd.exec
 have hby := Bd.bytes
 have hml : c.maxLocals = 1 := hml0
 have hown : s.vm.findClass "java/util/ImmutableCollections$ListN" = some m.cls := findClass_of_methodNamed Bd.named
 have hnm := (name_of_methodNamed Bd.named Bd.method).1
 have X0 : Stand p l e ({ frames := 0, cells := 0, slots := 0, locals := 0 } : Room) s m #[(.ref el)] below meth c s₁ [] 0 0 := Stand.of_body Bd
 have e0 : s₁.heap = h0 := by rw [← hh, Bd.state]; rfl
 have N0 := Fr.nil n0
 have p0 : GF p e below (s₁.setTop (entryFrame m #[(.ref el)] 1)) s₁ m 0 #[.val (.ref el)] [] := fun t_ k_ => castTop (ef_rm29 m de kde el ea kea em mr) k_
 have p101 : GF p e below _ s₁ m 1 #[.val (.ref el)] [(.ref el)] := fun t_ k_ => p0 t_ (by
  refine XS.aloadN X0.here hx rfl (hb hby d29_0) rfl rfl ?_
  exact k_)
 obtain ⟨T102, X102, e102, st102⟩ := getF X0 hx hZ hown (host := "") (Or.inl (own_w hw 236 rfl)) Via.refl e0 (G.2.2.2.2.2.1.ext O1.2) (g := (mkF m 1 #[.val (.ref el)] [(.ref el)])) rfl rfl (hb hby d29_1)
 obtain ⟨cl103, Ar103, -, S103, Ng103, -, -⟩ := id (G.2.2.2.2.2.2.1.ext O1.2)
 have p104 : GF p e below _ T102 m 5 #[.val (.ref el)] [(.int 0)] := fun t_ k_ => (gc p101 st102) t_ (by
  refine X102.arraylength hx (by rw [e102]; exact Ar103.1) (State.isArrayOf_alike hZ.alike Ar103.2.1) (g := (mkF m 4 #[.val (.ref el)] [(.ref ea)])) rfl rfl (hb hby d29_4) _ ?_
  rw [len_of S103 Ng103]
  show Steps p.tables e below (T102.setTop (mkF m 5 #[.val (.ref el)] [(.int 0)])) _
  exact k_)
 obtain ⟨fs, hr, hrun, hended, hW, hsame⟩ := X102.leave (v := some (.int 0)) (fun h => by rw [Bd.returns] at h; cases h)
 refine ⟨_, _, p104 _ (retI X102 hx Bd.returns (hb hby d29_5) hr), hrun, hended, _, _, rfl, ?_, ⟨_, rfl⟩, hW, hsame.mono (by decide) (by decide)⟩
 show Q29 Z de kde el ea kea em mr h0 n0 _ T102.heap _
 rw [e102]
 exact ⟨rfl, N0, rfl⟩
theorem d30_0 : decode jdk_53_method_1_code 0 = .ok (.aload_n 0, 1) := by decide +kernel
theorem d30_1 : decode jdk_53_method_1_code 1 = .ok (.invokespecial 1, 3) := by decide +kernel
theorem d30_4 : decode jdk_53_method_1_code 4 = .ok (.aload_n 0, 1) := by decide +kernel
theorem d30_5 : decode jdk_53_method_1_code 5 = .ok (.aload_n 1, 1) := by decide +kernel
theorem d30_6 : decode jdk_53_method_1_code 6 = .ok (.putfield 7, 3) := by decide +kernel
theorem d30_9 : decode jdk_53_method_1_code 9 = .ok (.aload_n 0, 1) := by decide +kernel
theorem d30_10 : decode jdk_53_method_1_code 10 = .ok (.iload_n 2, 1) := by decide +kernel
theorem d30_11 : decode jdk_53_method_1_code 11 = .ok (.putfield 13, 3) := by decide +kernel
theorem d30_14 : decode jdk_53_method_1_code 14 = .ok (.aload_n 0, 1) := by decide +kernel
theorem d30_15 : decode jdk_53_method_1_code 15 = .ok (.iconst 0, 1) := by decide +kernel
theorem d30_16 : decode jdk_53_method_1_code 16 = .ok (.putfield 17, 3) := by decide +kernel
theorem d30_19 : decode jdk_53_method_1_code 19 = .ok (.aload_n 0, 1) := by decide +kernel
theorem d30_20 : decode jdk_53_method_1_code 20 = .ok (.iconst 0, 1) := by decide +kernel
theorem d30_21 : decode jdk_53_method_1_code 21 = .ok (.putfield 20, 3) := by decide +kernel
theorem d30_24 : decode jdk_53_method_1_code 24 = .ok (.return_, 1) := by decide +kernel
theorem pn30 : plainFor (⟨"java/util/ImmutableCollections$ListItr", "<init>", "(Ljava/util/List;I)V"⟩ : MethodName) = true := plainFor_of_name (by first | (simp [plainName, overriddenIn]; done) | decide +kernel)
theorem ef_rm30 (m : MethodId) (a1 : Addr) (a2 : Addr) : entryFrame m #[(.ref a1), (.ref a2), (.int 0)] 3 = mkF m 0 #[.val (.ref a1), .val (.ref a2), .val (.int 0)] [] := by first | (simp [entryFrame, mkF, argsToLocals, Value.category]; done) | rfl
def Q30 (Z : State) (a1 : Addr) (a2 : Addr) (h0 : Heap) (n0 : Nat) (v : Option Value) (h : Heap) (L : List Loc) : Prop := v = none ∧ Fr n0 L ∧ (Keep h0 h [a1]) ∧ (Exa Z h a1 "java/util/ImmutableCollections$ListItr") ∧ (Fld Z h a1 "java/util/ImmutableCollections$ListItr" "list" "Ljava/util/List;" (.ref a2)) ∧ (Fld Z h a1 "java/util/ImmutableCollections$ListItr" "size" "I" (.int 0)) ∧ (Fld Z h a1 "java/util/ImmutableCollections$ListItr" "cursor" "I" (.int 0)) ∧ (Fld Z h a1 "java/util/ImmutableCollections$ListItr" "isListIterator" "Z" (.int 0))
set_option maxRecDepth 65536 in
set_option maxHeartbeats 40000000 in
theorem rm30 (l : Launch) (Z : State) (a0 : Array Value) (hw : ∀ d ∈ tables_1, d.before a0 Z = true) (ws : List Jvm.Cond) (a1 : Addr) (a2 : Addr) (h0 : Heap) (n0 : Nat) (Z0 : n0 ≤ h0.size) (F0 : Exa Z h0 a1 "java/util/ImmutableCollections$ListItr") (F1 : Fld Z h0 a1 "java/util/ImmutableCollections$ListItr" "list" "Ljava/util/List;" .null) (F2 : Fld Z h0 a1 "java/util/ImmutableCollections$ListItr" "size" "I" (.int 0)) (F3 : Fld Z h0 a1 "java/util/ImmutableCollections$ListItr" "cursor" "I" (.int 0)) (F4 : Fld Z h0 a1 "java/util/ImmutableCollections$ListItr" "isListIterator" "Z" (.int 0)) (g1 : n0 ≤ a1) :
  MetFree l oM35 (head1 (Jvm.Cond.code oM35 jdk_53_method_1_code 3 none :: ws) ({ frames := 1, cells := 0, slots := 0, locals := 12 } : Room)) (fun a U => a = #[(.ref a1), (.ref a2), (.int 0)] ∧ Z.Warmed39 U.vm ∧ U.heap = h0) (fun _ _ _ _ _ => True) (fun _ U o U' => ∃ v L, o = .returned v ∧ Q30 Z a1 a2 h0 n0 v U'.heap L ∧ FrameEnd U o U' L ({ frames := 1, cells := 0, slots := 0, locals := 12 } : Room).cells ({ frames := 1, cells := 0, slots := 0, locals := 12 } : Room).slots) := by
 refine MetFree.of_bodySF pn30 hisR ?_
 intro p e s m args below meth c s₁ Bd hml0 hP hK
 obtain ⟨rfl, hZ, hh⟩ := hP
 have hx := Bd.exec
 have hby := Bd.bytes
 have hml : c.maxLocals = 3 := hml0
 have hown : s.vm.findClass "java/util/ImmutableCollections$ListItr" = some m.cls := findClass_of_methodNamed Bd.named
 have hnm := (name_of_methodNamed Bd.named Bd.method).1
 have X0 : Stand p l e ({ frames := 1, cells := 0, slots := 0, locals := 12 } : Room) s m #[(.ref a1), (.ref a2), (.int 0)] below meth c s₁ [] 0 0 := Stand.of_body Bd
 have e0 : s₁.heap = h0 := by rw [← hh, Bd.state]; rfl
 have N0 := Fr.nil n0
 have p0 : GF p e below (s₁.setTop (entryFrame m #[(.ref a1), (.ref a2), (.int 0)] 3)) s₁ m 0 #[.val (.ref a1), .val (.ref a2), .val (.int 0)] [] := fun t_ k_ => castTop (ef_rm30 m a1 a2) k_
 have p101 : GF p e below _ s₁ m 1 #[.val (.ref a1), .val (.ref a2), .val (.int 0)] [(.ref a1)] := fun t_ k_ => p0 t_ (by
  refine XS.aloadN X0.here hx rfl (hb hby d30_0) rfl rfl ?_
  exact k_)
 obtain ⟨T102, X102, e102, st102⟩ := initO X0 hx hZ hown (own_w hw 242 rfl) (own_w hw 20 rfl) (own_w hw 21 rfl) e0 (g := (mkF m 1 #[.val (.ref a1), .val (.ref a2), .val (.int 0)] [(.ref a1)])) rfl (by rw [hml]; rfl) rfl (hb hby d30_1) (by decide) (W := 0) (by show 2 * 0 + _ ≤ _; exact Nat.le_of_eq rfl) (by decide)
 have p103 : GF p e below _ T102 m 6 #[.val (.ref a1), .val (.ref a2), .val (.int 0)] [(.ref a2), (.ref a1)] := fun t_ k_ => (gc p101 st102) t_ (by
  refine XS.aloadN X102.here hx rfl (hb hby d30_4) rfl rfl ?_
  refine XS.aloadN X102.here hx rfl (hb hby d30_5) rfl rfl ?_
  exact k_)
 obtain ⟨T104, h104, X104, e104, W104, st104⟩ := putF X102 hx hZ hown (host := "") (Or.inl (own_w hw 243 rfl)) Via.refl e102 F1 F0 (Or.inr ⟨(own_w hw 244 rfl), rfl, hnm⟩) (own_w hw 227 rfl) (ty := (.object "java/util/List")) (by decide) rfl rfl (g := (mkF m 6 #[.val (.ref a1), .val (.ref a2), .val (.int 0)] [(.ref a2), (.ref a1)])) rfl rfl (hb hby d30_6)
 have K105 : Keep h0 h104 [a1] := (Keep.refl h0 [a1]).wr W104 (Or.inl (List.mem_of_getElem? (i := 0) rfl))
 have N104 := Fr.snoc X104 N0 g1
 have F104 : Fld Z h104 a1 "java/util/ImmutableCollections$ListItr" "list" "Ljava/util/List;" (.ref a2) := F1.same W104
 have p106 : GF p e below _ T104 m 11 #[.val (.ref a1), .val (.ref a2), .val (.int 0)] [(.int 0), (.ref a1)] := fun t_ k_ => (gc p103 st104) t_ (by
  refine XS.aloadN X104.here hx rfl (hb hby d30_9) rfl rfl ?_
  refine XS.iloadN X104.here hx rfl (hb hby d30_10) rfl ?_
  exact k_)
 have f107 := (F2.other W104 (Or.inr (slot_ne (Or.inr (own_w hw 246 rfl)) (Or.inr (own_w hw 244 rfl)) (by decide) (t := .int) (t' := (.object "java/util/List")) (by decide) (by decide))))
 have f108 := (F0.wr W104)
 obtain ⟨T109, h109, X109, e109, W109, st109⟩ := putF X104 hx hZ hown (host := "") (Or.inl (own_w hw 245 rfl)) Via.refl e104 f107 f108 (Or.inr ⟨(own_w hw 246 rfl), rfl, hnm⟩) (own_w hw 227 rfl) (ty := .int) (by decide) rfl rfl (g := (mkF m 11 #[.val (.ref a1), .val (.ref a2), .val (.int 0)] [(.int 0), (.ref a1)])) rfl rfl (hb hby d30_11)
 have K110 : Keep h0 h109 [a1] := K105.wr W109 (Or.inl (List.mem_of_getElem? (i := 0) rfl))
 have N109 := Fr.snoc X109 N104 g1
 have F109 : Fld Z h109 a1 "java/util/ImmutableCollections$ListItr" "size" "I" (.int 0) := f107.same W109
 have p111 : GF p e below _ T109 m 16 #[.val (.ref a1), .val (.ref a2), .val (.int 0)] [(.int 0), (.ref a1)] := fun t_ k_ => (gc p106 st109) t_ (by
  refine XS.aloadN X109.here hx rfl (hb hby d30_14) rfl rfl ?_
  refine XS.iconst X109.here hx rfl (hb hby d30_15) ?_
  exact k_)
 have f112 := ((F3.other W104 (Or.inr (slot_ne (Or.inl (own_w hw 248 rfl)) (Or.inr (own_w hw 244 rfl)) (by decide) (t := .int) (t' := (.object "java/util/List")) (by decide) (by decide)))).other W109 (Or.inr (slot_ne (Or.inl (own_w hw 248 rfl)) (Or.inr (own_w hw 246 rfl)) (by decide) (t := .int) (t' := .int) (by decide) (by decide))))
 have f113 := (f108.wr W109)
 obtain ⟨T114, h114, X114, e114, W114, st114⟩ := putF X109 hx hZ hown (host := "") (Or.inl (own_w hw 247 rfl)) Via.refl e109 f112 f113 (Or.inl (own_w hw 248 rfl)) (own_w hw 227 rfl) (ty := .int) (by decide) rfl rfl (g := (mkF m 16 #[.val (.ref a1), .val (.ref a2), .val (.int 0)] [(.int 0), (.ref a1)])) rfl rfl (hb hby d30_16)
 have K115 : Keep h0 h114 [a1] := K110.wr W114 (Or.inl (List.mem_of_getElem? (i := 0) rfl))
 have N114 := Fr.snoc X114 N109 g1
 have F114 : Fld Z h114 a1 "java/util/ImmutableCollections$ListItr" "cursor" "I" (.int 0) := f112.same W114
 have p116 : GF p e below _ T114 m 21 #[.val (.ref a1), .val (.ref a2), .val (.int 0)] [(.int 0), (.ref a1)] := fun t_ k_ => (gc p111 st114) t_ (by
  refine XS.aloadN X114.here hx rfl (hb hby d30_19) rfl rfl ?_
  refine XS.iconst X114.here hx rfl (hb hby d30_20) ?_
  exact k_)
 have f117 := (((F4.other W104 (Or.inr (slot_ne (Or.inr (own_w hw 250 rfl)) (Or.inr (own_w hw 244 rfl)) (by decide) (t := .boolean) (t' := (.object "java/util/List")) (by decide) (by decide)))).other W109 (Or.inr (slot_ne (Or.inr (own_w hw 250 rfl)) (Or.inr (own_w hw 246 rfl)) (by decide) (t := .boolean) (t' := .int) (by decide) (by decide)))).other W114 (Or.inr (slot_ne (Or.inr (own_w hw 250 rfl)) (Or.inl (own_w hw 248 rfl)) (by decide) (t := .boolean) (t' := .int) (by decide) (by decide))))
 have f118 := (f113.wr W114)
 obtain ⟨T119, h119, X119, e119, W119, st119⟩ := putFN X114 hx hZ hown (own_w hw 249 rfl) Via.refl e114 f117 f118 (Or.inr ⟨(own_w hw 250 rfl), rfl, hnm⟩) (own_w hw 227 rfl) (ty := .boolean) (v' := (.int 0)) (by decide) rfl (by decide) (g := (mkF m 21 #[.val (.ref a1), .val (.ref a2), .val (.int 0)] [(.int 0), (.ref a1)])) rfl rfl (hb hby d30_21)
 have K120 : Keep h0 h119 [a1] := K115.wr W119 (Or.inl (List.mem_of_getElem? (i := 0) rfl))
 have N119 := Fr.snoc X119 N114 g1
 have F119 : Fld Z h119 a1 "java/util/ImmutableCollections$ListItr" "isListIterator" "Z" (.int 0) := f117.same W119
 have f121 := (f118.wr W119)
 have f122 := (((F104.other W109 (Or.inr (slot_ne (Or.inr (own_w hw 244 rfl)) (Or.inr (own_w hw 246 rfl)) (by decide) (t := (.object "java/util/List")) (t' := .int) (by decide) (by decide)))).other W114 (Or.inr (slot_ne (Or.inr (own_w hw 244 rfl)) (Or.inl (own_w hw 248 rfl)) (by decide) (t := (.object "java/util/List")) (t' := .int) (by decide) (by decide)))).other W119 (Or.inr (slot_ne (Or.inr (own_w hw 244 rfl)) (Or.inr (own_w hw 250 rfl)) (by decide) (t := (.object "java/util/List")) (t' := .boolean) (by decide) (by decide))))
 have f123 := ((F109.other W114 (Or.inr (slot_ne (Or.inr (own_w hw 246 rfl)) (Or.inl (own_w hw 248 rfl)) (by decide) (t := .int) (t' := .int) (by decide) (by decide)))).other W119 (Or.inr (slot_ne (Or.inr (own_w hw 246 rfl)) (Or.inr (own_w hw 250 rfl)) (by decide) (t := .int) (t' := .boolean) (by decide) (by decide))))
 have f124 := (F114.other W119 (Or.inr (slot_ne (Or.inl (own_w hw 248 rfl)) (Or.inr (own_w hw 250 rfl)) (by decide) (t := .int) (t' := .boolean) (by decide) (by decide))))
 obtain ⟨fs, hr, hrun, hended, hW, hsame⟩ := X119.leave (v := none) (fun _ => rfl)
 refine ⟨_, _, (gc p116 st119) _ (X119.returnOut hx Bd.returns (hb hby d30_24) hr), hrun, hended, _, _, rfl, ?_, ⟨_, rfl⟩, hW, hsame.mono (by decide) (by decide)⟩
 show Q30 Z a1 a2 h0 n0 _ T119.heap _
 rw [e119]
 exact ⟨rfl, N119, K120, f121, f122, f123, f124, F119⟩
theorem d28_0 : decode jdk_46_method_10_code 0 = .ok (.new 61, 3) := by decide +kernel
theorem d28_3 : decode jdk_46_method_10_code 3 = .ok (.dup, 1) := by decide +kernel
theorem d28_4 : decode jdk_46_method_10_code 4 = .ok (.aload_n 0, 1) := by decide +kernel
theorem d28_5 : decode jdk_46_method_10_code 5 = .ok (.aload_n 0, 1) := by decide +kernel
theorem d28_6 : decode jdk_46_method_10_code 6 = .ok (.invokevirtual 13, 3) := by decide +kernel
theorem d28_9 : decode jdk_46_method_10_code 9 = .ok (.invokespecial 63, 3) := by decide +kernel
theorem d28_12 : decode jdk_46_method_10_code 12 = .ok (.areturn, 1) := by decide +kernel
theorem pd13 : parseMethodDescriptor "()I" = some ⟨[], some .int⟩ := by decide +kernel
theorem pd14 : parseMethodDescriptor "(Ljava/util/List;I)V" = some ⟨[(.object "java/util/List"), .int], none⟩ := by decide +kernel
theorem pn28 : plainFor (⟨"java/util/ImmutableCollections$AbstractImmutableList", "iterator", "()Ljava/util/Iterator;"⟩ : MethodName) = true := plainFor_of_name (by first | (simp [plainName, overriddenIn]; done) | decide +kernel)
theorem ef_rm28 (m : MethodId) (de : Addr) (kde : ClassId) (el : Addr) (ea : Addr) (kea : ClassId) (em : Addr) (mr : Addr) : entryFrame m #[(.ref el)] 1 = mkF m 0 #[.val (.ref el)] [] := by first | (simp [entryFrame, mkF, argsToLocals, Value.category]; done) | rfl
def Q28 (Z : State) (de : Addr) (kde : ClassId) (el : Addr) (ea : Addr) (kea : ClassId) (em : Addr) (mr : Addr) (h0 : Heap) (n0 : Nat) (v : Option Value) (h : Heap) (L : List Loc) : Prop := ∃ (b : Addr), v = some (.ref b) ∧ Fr n0 L ∧ (Keep h0 h []) ∧ (Exa Z h b "java/util/ImmutableCollections$ListItr") ∧ (Fld Z h b "java/util/ImmutableCollections$ListItr" "list" "Ljava/util/List;" (.ref el)) ∧ (Fld Z h b "java/util/ImmutableCollections$ListItr" "size" "I" (.int 0)) ∧ (Fld Z h b "java/util/ImmutableCollections$ListItr" "cursor" "I" (.int 0)) ∧ (Fld Z h b "java/util/ImmutableCollections$ListItr" "isListIterator" "Z" (.int 0)) ∧ (n0 ≤ b) ∧ (h0.size ≤ b)
set_option maxRecDepth 65536 in
set_option maxHeartbeats 40000000 in
theorem rm28 (l : Launch) (Z : State) (a0 : Array Value) (hw : ∀ d ∈ tables_1, d.before a0 Z = true) (ws : List Jvm.Cond) (de : Addr) (kde : ClassId) (el : Addr) (ea : Addr) (kea : ClassId) (em : Addr) (mr : Addr) (h0 : Heap) (n0 : Nat) (Z0 : n0 ≤ h0.size) (O1 : Old Z n0 h0) (G : own_H Z de kde el ea kea em mr) :
  MetFree l oM31 (head1 (Jvm.Cond.code oM31 jdk_46_method_10_code 1 (some (.object "java/util/Iterator")) :: ws) ({ frames := 2, cells := 1, slots := 4, locals := 27 } : Room)) (fun a U => a = #[(.ref el)] ∧ Z.Warmed39 U.vm ∧ U.heap = h0) (fun _ _ _ _ _ => True) (fun _ U o U' => ∃ v L, o = .returned v ∧ Q28 Z de kde el ea kea em mr h0 n0 v U'.heap L ∧ FrameEnd U o U' L ({ frames := 2, cells := 1, slots := 4, locals := 27 } : Room).cells ({ frames := 2, cells := 1, slots := 4, locals := 27 } : Room).slots) := by
 refine MetFree.of_bodySF pn28 hisR ?_
 intro p e s m args below meth c s₁ Bd hml0 hP hK
 obtain ⟨rfl, hZ, hh⟩ := hP
 have hx := Bd.exec
 have hby := Bd.bytes
 have hml : c.maxLocals = 1 := hml0
 have hown : s.vm.findClass "java/util/ImmutableCollections$AbstractImmutableList" = some m.cls := findClass_of_methodNamed Bd.named
 have hnm := (name_of_methodNamed Bd.named Bd.method).1
 have X0 : Stand p l e ({ frames := 2, cells := 1, slots := 4, locals := 27 } : Room) s m #[(.ref el)] below meth c s₁ [] 0 0 := Stand.of_body Bd
 have e0 : s₁.heap = h0 := by rw [← hh, Bd.state]; rfl
 have N0 := Fr.nil n0
 have p0 : GF p e below (s₁.setTop (entryFrame m #[(.ref el)] 1)) s₁ m 0 #[.val (.ref el)] [] := fun t_ k_ => castTop (ef_rm28 m de kde el ea kea em mr) k_
 obtain ⟨T101, h101, X101, e101, E101, A101, D101, -, st101⟩ := newO X0 hx hZ hown (own_w hw 226 rfl) (own_w hw 227 rfl) (own_w hw 228 rfl) e0 (g := (mkF m 0 #[.val (.ref el)] [])) rfl (hb hby d28_0) (by decide) (by decide)
 obtain ⟨b101, g101⟩ : ∃ z, z = h0.size := ⟨_, rfl⟩
 rw [← g101] at A101 D101 st101
 have ge_b101 : n0 ≤ b101 := Nat.le_trans (Nat.le_trans Z0 (Keep.refl h0 []).1) (Nat.le_of_eq g101.symm)
 have sz_b101 : h0.size ≤ b101 := Nat.le_trans (Keep.refl h0 []).1 (Nat.le_of_eq g101.symm)
 have K102 : Keep h0 h101 [] := (Keep.refl h0 []).ext E101
 have F101_list : Fld Z h101 b101 "java/util/ImmutableCollections$ListItr" "list" "Ljava/util/List;" .null := D101 (Or.inr (own_w hw 244 rfl)) (ty := (.object "java/util/List")) (by decide)
 have F101_size : Fld Z h101 b101 "java/util/ImmutableCollections$ListItr" "size" "I" (.int 0) := D101 (Or.inr (own_w hw 246 rfl)) (ty := .int) (by decide)
 have F101_cursor : Fld Z h101 b101 "java/util/ImmutableCollections$ListItr" "cursor" "I" (.int 0) := D101 (Or.inl (own_w hw 248 rfl)) (ty := .int) (by decide)
 have F101_isListIterator : Fld Z h101 b101 "java/util/ImmutableCollections$ListItr" "isListIterator" "Z" (.int 0) := D101 (Or.inr (own_w hw 250 rfl)) (ty := .boolean) (by decide)
 have p103 : GF p e below _ T101 m 6 #[.val (.ref el)] [(.ref el), (.ref el), (.ref b101), (.ref b101)] := fun t_ k_ => (gc p0 st101) t_ (by
  refine XS.dup X101.here hx rfl (hb hby d28_3) rfl rfl ?_
  refine XS.aloadN X101.here hx rfl (hb hby d28_4) rfl rfl ?_
  refine XS.aloadN X101.here hx rfl (hb hby d28_5) rfl rfl ?_
  exact k_)
 have f104 := (O1.ext E101)
 obtain ⟨cq105, kq105, q105a, q105b, q105c⟩ := isOf hZ e101 (G.2.2.2.2.1.ext f104.2)
 obtain ⟨_, _, ⟨T105, L105, k105, n105⟩, -, X105, ⟨Lc105, hQ105, l105, y105, z105⟩, st105⟩ := X101.virtualBackUp hx (x := (⟨"java/util/ImmutableCollections$AbstractImmutableList", "size", "()I"⟩ : MethodName)) (y := oM37) hown (mvT hZ (own_w hw 229 rfl)) (mvT hZ (own_w hw 230 rfl)) (mvT hZ (own_w hw 231 rfl)) (by decide) (mvT hZ (own_w hw 232 rfl)) (mvT hZ (own_w hw 233 rfl)) (backOf (W := 3) (rm29 l Z a0 hw [] de kde el ea kea em mr h101 n0 (Nat.le_trans Z0 K102.1) f104 G) hZ (own_w hw 235 rfl) (own_w hw 234 rfl) (by decide) (by decide)) q105a q105c (g := (mkF m 6 #[.val (.ref el)] [(.ref el), (.ref el), (.ref b101), (.ref b101)])) rfl (by rw [hml]; rfl) (Steps.refl _) (argsL := []) (rest := [(.ref el), (.ref b101), (.ref b101)]) (lenOf pd13 rfl) rfl (by show 2 * 0 + _ ≤ _; exact Nat.le_of_eq rfl) (hb hby d28_6) (fun _ _ => ⟨rfl, e101, (by decide : 1 + 0 ≤ _), (by decide : 4 + 0 ≤ _)⟩)
 dsimp only [Pt.U, Pt.locs, Pt.cells, Pt.slots] at X105 l105 y105 z105 st105 hQ105
 subst l105 y105 z105
 obtain ⟨rfl, N105q, q105_hh⟩ := hQ105
 have N105 := Fr.app N0 N105q
 obtain ⟨_, _, ⟨T106, L106, k106, n106⟩, -, X106, ⟨Lc106, hQ106, l106, y106, z106⟩, st106⟩ := X105.specialBack hx (y := oM35) rfl hown (mvT hZ (own_w hw 238 rfl)) (mvT hZ (own_w hw 239 rfl)) (mvT hZ (own_w hw 241 rfl)) (by decide) (backOf (W := 1) (rm30 l Z a0 hw [] b101 el h101 n0 (Nat.le_trans Z0 K102.1) A101 F101_list F101_size F101_cursor F101_isListIterator ge_b101) hZ (own_w hw 241 rfl) (own_w hw 228 rfl) (by decide) (by decide)) (g := (mkF m 9 #[.val (.ref el)] [(.int 0), (.ref el), (.ref b101), (.ref b101)])) rfl (by rw [hml]; rfl) (Steps.refl _) (a := b101) (argsL := [(.ref el), (.int 0)]) (rest := [(.ref b101)]) (lenOf pd14 rfl) rfl (by show 2 * 0 + _ ≤ _; exact Nat.le_of_eq rfl) (hb hby d28_9) (fun _ _ => ⟨rfl, q105_hh, (by decide : 1 + 0 ≤ _), (by decide : 4 + 0 ≤ _)⟩)
 dsimp only [Pt.U, Pt.locs, Pt.cells, Pt.slots] at X106 l106 y106 z106 st106 hQ106
 subst l106 y106 z106
 obtain ⟨rfl, N106q, q106_K, q106_F0, q106_F1, q106_F2, q106_F3, q106_F4⟩ := hQ106
 have N106 := Fr.app N105 N106q
 have K107 : Keep h0 T106.heap [] := K102.trans q106_K (allS (Or.inr sz_b101) all0)
 obtain ⟨fs, hr, hrun, hended, hW, hsame⟩ := X106.leave (v := some (.ref b101)) (fun h => by rw [Bd.returns] at h; cases h)
 refine ⟨_, _, (gcT (gcT p103 st105) st106) _ (retOut X106 hx (w := (.ref b101)) (i := .areturn) Bd.returns rfl (Or.inr (Or.inr (Or.inr (Or.inr ⟨rfl, rfl, rfl⟩)))) (hb hby d28_12) hr), hrun, hended, _, _, rfl, ?_, ⟨_, rfl⟩, hW, hsame.mono (by decide) (by decide)⟩
 show Q28 Z de kde el ea kea em mr h0 n0 _ T106.heap _
 exact ⟨b101, rfl, N106, K107, q106_F0, q106_F1, q106_F2, q106_F3, q106_F4, ge_b101, sz_b101⟩
theorem d31_0 : decode jdk_53_method_3_code 0 = .ok (.aload_n 0, 1) := by decide +kernel
theorem d31_1 : decode jdk_53_method_3_code 1 = .ok (.getfield 17, 3) := by decide +kernel
theorem d31_4 : decode jdk_53_method_3_code 4 = .ok (.aload_n 0, 1) := by decide +kernel
theorem d31_5 : decode jdk_53_method_3_code 5 = .ok (.getfield 13, 3) := by decide +kernel
theorem d31_8 : decode jdk_53_method_3_code 8 = .ok (.if_icmp .eq 7, 3) := by decide +kernel
theorem d31_15 : decode jdk_53_method_3_code 15 = .ok (.iconst 0, 1) := by decide +kernel
theorem d31_16 : decode jdk_53_method_3_code 16 = .ok (.ireturn, 1) := by decide +kernel
theorem pn31 : plainFor (⟨"java/util/ImmutableCollections$ListItr", "hasNext", "()Z"⟩ : MethodName) = true := plainFor_of_name (by first | (simp [plainName, overriddenIn]; done) | decide +kernel)
theorem ef_rm31 (m : MethodId) (a1 : Addr) : entryFrame m #[(.ref a1)] 1 = mkF m 0 #[.val (.ref a1)] [] := by first | (simp [entryFrame, mkF, argsToLocals, Value.category]; done) | rfl
def Q31 (Z : State) (a1 : Addr) (h0 : Heap) (n0 : Nat) (v : Option Value) (h : Heap) (L : List Loc) : Prop := v = some (.int 0) ∧ Fr n0 L ∧ (h = h0)
set_option maxRecDepth 65536 in
set_option maxHeartbeats 40000000 in
theorem rm31 (l : Launch) (Z : State) (a0 : Array Value) (hw : ∀ d ∈ tables_1, d.before a0 Z = true) (ws : List Jvm.Cond) (a1 : Addr) (h0 : Heap) (n0 : Nat) (Z0 : n0 ≤ h0.size) (Fs : Fld Z h0 a1 "java/util/ImmutableCollections$ListItr" "size" "I" (.int 0)) (Fc : Fld Z h0 a1 "java/util/ImmutableCollections$ListItr" "cursor" "I" (.int 0)) :
  MetFree l oM36 (head1 (Jvm.Cond.code oM36 jdk_53_method_3_code 1 (some .boolean) :: ws) ({ frames := 0, cells := 0, slots := 0, locals := 0 } : Room)) (fun a U => a = #[(.ref a1)] ∧ Z.Warmed39 U.vm ∧ U.heap = h0) (fun _ _ _ _ _ => True) (fun _ U o U' => ∃ v L, o = .returned v ∧ Q31 Z a1 h0 n0 v U'.heap L ∧ FrameEnd U o U' L ({ frames := 0, cells := 0, slots := 0, locals := 0 } : Room).cells ({ frames := 0, cells := 0, slots := 0, locals := 0 } : Room).slots) := by
 refine MetFree.of_bodySF pn31 hisR ?_
 intro p e s m args below meth c s₁ Bd hml0 hP hK
 obtain ⟨rfl, hZ, hh⟩ := hP
 have hx := Bd.exec
 have hby := Bd.bytes
 have hml : c.maxLocals = 1 := hml0
 have hown : s.vm.findClass "java/util/ImmutableCollections$ListItr" = some m.cls := findClass_of_methodNamed Bd.named
 have hnm := (name_of_methodNamed Bd.named Bd.method).1
 have X0 : Stand p l e ({ frames := 0, cells := 0, slots := 0, locals := 0 } : Room) s m #[(.ref a1)] below meth c s₁ [] 0 0 := Stand.of_body Bd
 have e0 : s₁.heap = h0 := by rw [← hh, Bd.state]; rfl
 have N0 := Fr.nil n0
 have p0 : GF p e below (s₁.setTop (entryFrame m #[(.ref a1)] 1)) s₁ m 0 #[.val (.ref a1)] [] := fun t_ k_ => castTop (ef_rm31 m a1) k_
 have p101 : GF p e below _ s₁ m 1 #[.val (.ref a1)] [(.ref a1)] := fun t_ k_ => p0 t_ (by
  refine XS.aloadN X0.here hx rfl (hb hby d31_0) rfl rfl ?_
  exact k_)
 obtain ⟨T102, X102, e102, st102⟩ := getF X0 hx hZ hown (host := "") (Or.inl (own_w hw 247 rfl)) Via.refl e0 Fc (g := (mkF m 1 #[.val (.ref a1)] [(.ref a1)])) rfl rfl (hb hby d31_1)
 have p103 : GF p e below _ T102 m 5 #[.val (.ref a1)] [(.ref a1), (.int 0)] := fun t_ k_ => (gc p101 st102) t_ (by
  refine XS.aloadN X102.here hx rfl (hb hby d31_4) rfl rfl ?_
  exact k_)
 obtain ⟨T104, X104, e104, st104⟩ := getF X102 hx hZ hown (host := "") (Or.inl (own_w hw 245 rfl)) Via.refl e102 Fs (g := (mkF m 5 #[.val (.ref a1)] [(.ref a1), (.int 0)])) rfl rfl (hb hby d31_5)
 have p105 : GF p e below _ T104 m 16 #[.val (.ref a1)] [(.int 0)] := fun t_ k_ => (gc p103 st104) t_ (by
  refine XS.icmpYes X104.here hx rfl (pc0 := 8) (pc' := 15) rfl (hb hby d31_8) rfl (teq (by decide : ((0 : Int32) = (0 : Int32)))).1 (by decide) (by decide) ?_
  refine XS.iconst X104.here hx rfl (hb hby d31_15) ?_
  exact k_)
 obtain ⟨fs, hr, hrun, hended, hW, hsame⟩ := X104.leave (v := some (.int 0)) (fun h => by rw [Bd.returns] at h; cases h)
 refine ⟨_, _, p105 _ (retN X104 hx (t := .boolean) Bd.returns (by simp) (hb hby d31_16) hr), hrun, hended, _, _, rfl, ?_, ⟨_, rfl⟩, hW, hsame.mono (by decide) (by decide)⟩
 show Q31 Z a1 h0 n0 _ T104.heap _
 rw [e104]
 exact ⟨rfl, N0, rfl⟩
theorem d5_7 : decode prog_43_method_1_code 7 = .ok (.iload 4, 2) := by decide +kernel
theorem d5_9 : decode prog_43_method_1_code 9 = .ok (.aload_n 3, 1) := by decide +kernel
theorem d5_10 : decode prog_43_method_1_code 10 = .ok (.arraylength, 1) := by decide +kernel
theorem d5_11 : decode prog_43_method_1_code 11 = .ok (.if_icmp .ge 36, 3) := by decide +kernel
theorem d5_14 : decode prog_43_method_1_code 14 = .ok (.aload_n 3, 1) := by decide +kernel
theorem d5_15 : decode prog_43_method_1_code 15 = .ok (.iload 4, 2) := by decide +kernel
theorem d5_17 : decode prog_43_method_1_code 17 = .ok (.iconst 1, 1) := by decide +kernel
theorem d5_18 : decode prog_43_method_1_code 18 = .ok (.isub, 1) := by decide +kernel
theorem d5_19 : decode prog_43_method_1_code 19 = .ok (.iaload, 1) := by decide +kernel
theorem d5_20 : decode prog_43_method_1_code 20 = .ok (.aload_n 3, 1) := by decide +kernel
theorem d5_21 : decode prog_43_method_1_code 21 = .ok (.iload 4, 2) := by decide +kernel
theorem d5_23 : decode prog_43_method_1_code 23 = .ok (.iaload, 1) := by decide +kernel
theorem d5_24 : decode prog_43_method_1_code 24 = .ok (.if_icmp .lt 17, 3) := by decide +kernel
theorem d5_41 : decode prog_43_method_1_code 41 = .ok (.iinc 4 1, 3) := by decide +kernel
theorem d5_44 : decode prog_43_method_1_code 44 = .ok (.goto (-37), 3) := by decide +kernel
set_option maxRecDepth 65536 in
set_option maxHeartbeats 40000000 in
theorem lpV {p : Program} {l : Launch} {e : Env} {R : Room} {s : State} {m : MethodId} {args : Array Value} {below : List Frame} {meth : Method} {c : Code} (Z : State) (a0 : Array Value) (hx : p.tables.exec = Jvm.exec) (hZ : Z.Warmed39 s.vm) (hw : ∀ d ∈ tables_1, d.before a0 Z = true) (hby : c.code = prog_43_method_1_code) (hml : c.maxLocals = 5) (hown : s.vm.findClass "com/example/arcward/arcward/model/Variable" = some m.cls) (a1 a2 : Addr) (p3 : Int32) (a4 : Addr) (k4 : ClassId) (vs : List Value) (h0 : Heap) (n0 : Nat) (Z0 : n0 ≤ h0.size) (V4 : Arv Z h0 a4 k4 .int (70 : Int32) vs (.int 0)) (HV : own_inc 70 vs) (cc ss : Nat) : ∀ (k i : Nat) (T : State) (locs : List Loc), i + k = 70 → 1 ≤ i → Stand p l e R s m args below meth c T locs cc ss → T.heap = h0 → Fr n0 locs → ∃ (T' : State) (L' : List Loc), Stand p l e R s m args below meth c T' L' cc ss ∧ T'.heap = h0 ∧ Fr n0 L' ∧ GF p e below (T.setTop (mkF m 7 (oLR2IRI a1 a2 p3 a4 (Int32.ofNat i)) [])) T' m 47 (oLR2IRI a1 a2 p3 a4 (Int32.ofNat 70)) [] := by
 intro k
 induction k with
 | zero =>
  intro i T locs hk h1 X0 e0 N0
  obtain rfl : i = 70 := by omega
  have p0 : GF p e below (T.setTop (mkF m 7 (oLR2IRI a1 a2 p3 a4 (Int32.ofNat 70)) [])) T m 7 (oLR2IRI a1 a2 p3 a4 (Int32.ofNat 70)) [] := fun t_ k_ => k_
  have p101 : GF p e below _ T m 10 (oLR2IRI a1 a2 p3 a4 (Int32.ofNat 70)) [(.ref a4), (.int (Int32.ofNat 70))] := fun t_ k_ => p0 t_ (by
   refine XS.iload X0.here hx rfl (hb hby d5_7) rfl ?_
   refine XS.aloadN X0.here hx rfl (hb hby d5_9) rfl rfl ?_
   exact k_)
  obtain ⟨cl102, Ar102, -, S102, Ng102, -, -⟩ := id V4
  have p103 : GF p e below _ T m 11 (oLR2IRI a1 a2 p3 a4 (Int32.ofNat 70)) [(.int 70), (.int (Int32.ofNat 70))] := fun t_ k_ => p101 t_ (by
   refine X0.arraylength hx (by rw [e0]; exact Ar102.1) (State.isArrayOf_alike hZ.alike Ar102.2.1) (g := (mkF m 10 (oLR2IRI a1 a2 p3 a4 (Int32.ofNat 70)) [(.ref a4), (.int (Int32.ofNat 70))])) rfl rfl (hb hby d5_10) _ ?_
   rw [len_of S102 Ng102]
   show Steps p.tables e below (T.setTop (mkF m 11 (oLR2IRI a1 a2 p3 a4 (Int32.ofNat 70)) [(.int 70), (.int (Int32.ofNat 70))])) _
   exact k_)
  have c104 : ¬ ((Int32.ofNat 70) < (70 : Int32)) := (by decide)
  have p105 : GF p e below _ T m 47 (oLR2IRI a1 a2 p3 a4 (Int32.ofNat 70)) [] := fun t_ k_ => p103 t_ (by
   refine XS.icmpYes X0.here hx rfl (pc0 := 11) (pc' := 47) rfl (hb hby d5_11) rfl (flt c104).2.1 (by decide) (by decide) ?_
   exact k_)
  exact ⟨_, _, X0, e0, N0, p105⟩
 | succ k ih =>
  intro i T locs hk h1 X0 e0 N0
  have hi : i < 70 := by omega
  obtain ⟨u, v, hu, hv, huv⟩ := HV i h1 hi
  have p0 : GF p e below (T.setTop (mkF m 7 (oLR2IRI a1 a2 p3 a4 (Int32.ofNat i)) [])) T m 7 (oLR2IRI a1 a2 p3 a4 (Int32.ofNat i)) [] := fun t_ k_ => k_
  have p101 : GF p e below _ T m 10 (oLR2IRI a1 a2 p3 a4 (Int32.ofNat i)) [(.ref a4), (.int (Int32.ofNat i))] := fun t_ k_ => p0 t_ (by
   refine XS.iload X0.here hx rfl (hb hby d5_7) rfl ?_
   refine XS.aloadN X0.here hx rfl (hb hby d5_9) rfl rfl ?_
   exact k_)
  obtain ⟨cl102, Ar102, -, S102, Ng102, -, -⟩ := id V4
  have p103 : GF p e below _ T m 11 (oLR2IRI a1 a2 p3 a4 (Int32.ofNat i)) [(.int 70), (.int (Int32.ofNat i))] := fun t_ k_ => p101 t_ (by
   refine X0.arraylength hx (by rw [e0]; exact Ar102.1) (State.isArrayOf_alike hZ.alike Ar102.2.1) (g := (mkF m 10 (oLR2IRI a1 a2 p3 a4 (Int32.ofNat i)) [(.ref a4), (.int (Int32.ofNat i))])) rfl rfl (hb hby d5_10) _ ?_
   rw [len_of S102 Ng102]
   show Steps p.tables e below (T.setTop (mkF m 11 (oLR2IRI a1 a2 p3 a4 (Int32.ofNat i)) [(.int 70), (.int (Int32.ofNat i))])) _
   exact k_)
  have c104 : ((Int32.ofNat i) < (70 : Int32)) := (own_lti (b := 70) (by omega) (by omega)).mpr hi
  have p105 : GF p e below _ T m 19 (oLR2IRI a1 a2 p3 a4 (Int32.ofNat i)) [(.int ((Int32.ofNat i) - (1 : Int32))), (.ref a4)] := fun t_ k_ => p103 t_ (by
   refine XS.icmpNo X0.here hx rfl (hb hby d5_11) rfl (tlt c104).2.1 ?_
   refine XS.aloadN X0.here hx rfl (hb hby d5_14) rfl rfl ?_
   refine XS.iload X0.here hx rfl (hb hby d5_15) rfl ?_
   refine XS.iconst X0.here hx rfl (hb hby d5_17) ?_
   refine XS.isub X0.here hx rfl (hb hby d5_18) rfl ?_
   exact k_)
  obtain ⟨cl106, Ar106, q106, S106, Ng106, H106, G106⟩ := id V4
  have hin106 := inb_of S106 (j := ((Int32.ofNat i) - (1 : Int32))) (own_vj h1 hi).1
  have hat106 := H106.at (v := (.int u)) hin106 (by rw [(own_vj h1 hi).2]; exact hu)
  have p107 : GF p e below _ T m 23 (oLR2IRI a1 a2 p3 a4 (Int32.ofNat i)) [(.int (Int32.ofNat i)), (.ref a4), (.int u)] := fun t_ k_ => p105 t_ (by
   refine X0.iaload hx (j := ((Int32.ofNat i) - (1 : Int32))) (v := (.int u)) (by rw [e0]; exact Ar106.1) (State.isArrayOf_alike hZ.alike Ar106.2.1) Ar106.2.2 hin106 hat106 (g := (mkF m 19 (oLR2IRI a1 a2 p3 a4 (Int32.ofNat i)) [(.int ((Int32.ofNat i) - (1 : Int32))), (.ref a4)])) rfl rfl (hb hby d5_19) _ ?_
   refine XS.aloadN X0.here hx rfl (hb hby d5_20) rfl rfl ?_
   refine XS.iload X0.here hx rfl (hb hby d5_21) rfl ?_
   exact k_)
  obtain ⟨cl108, Ar108, q108, S108, Ng108, H108, G108⟩ := id V4
  have hin108 := inb_of S108 (j := (Int32.ofNat i)) ⟨own_nni (by omega), (own_lti (b := 70) (by omega) (by omega)).mpr hi⟩
  have hat108 := H108.at (v := (.int v)) hin108 (by rw [own_cl (by omega)]; exact hv)
  have p109 : GF p e below _ T m 24 (oLR2IRI a1 a2 p3 a4 (Int32.ofNat i)) [(.int v), (.int u)] := fun t_ k_ => p107 t_ (by
   refine X0.iaload hx (j := (Int32.ofNat i)) (v := (.int v)) (by rw [e0]; exact Ar108.1) (State.isArrayOf_alike hZ.alike Ar108.2.1) Ar108.2.2 hin108 hat108 (g := (mkF m 23 (oLR2IRI a1 a2 p3 a4 (Int32.ofNat i)) [(.int (Int32.ofNat i)), (.ref a4), (.int u)])) rfl rfl (hb hby d5_23) _ ?_
   exact k_)
  have c110 : (u < v) := huv
  have p111 : GF p e below _ T m 7 (oLR2IRI a1 a2 p3 a4 ((Int32.ofNat i) + (1 : Int32))) [] := fun t_ k_ => p109 t_ (by
   refine XS.icmpYes X0.here hx rfl (pc0 := 24) (pc' := 41) rfl (hb hby d5_24) rfl (tlt c110).1 (by decide) (by decide) ?_
   refine XS.iinc X0.here hx rfl (hb hby d5_41) rfl (l' := (oLR2IRI a1 a2 p3 a4 ((Int32.ofNat i) + (1 : Int32)))) rfl ?_
   refine XS.goto X0.here hx rfl (pc0 := 44) (pc' := 7) rfl (hb hby d5_44) (by decide) (by decide) ?_
   exact k_)
  obtain ⟨T', L', X', e', N', g'⟩ := ih (i + 1) T _ (by omega) (by omega) X0 e0 N0
  refine ⟨T', L', X', e', N', fun t_ k_ => p111 t_ ?_⟩
  have z := g' t_ k_
  rw [own_up1 i] at z
  exact z
theorem d5_0 : decode prog_43_method_1_code 0 = .ok (.aload_n 0, 1) := by decide +kernel
theorem d5_1 : decode prog_43_method_1_code 1 = .ok (.invokespecial 1, 3) := by decide +kernel
theorem d5_4 : decode prog_43_method_1_code 4 = .ok (.iconst 1, 1) := by decide +kernel
theorem d5_5 : decode prog_43_method_1_code 5 = .ok (.istore 4, 2) := by decide +kernel
theorem d5_47 : decode prog_43_method_1_code 47 = .ok (.aload_n 0, 1) := by decide +kernel
theorem d5_48 : decode prog_43_method_1_code 48 = .ok (.aload_n 1, 1) := by decide +kernel
theorem d5_49 : decode prog_43_method_1_code 49 = .ok (.putfield 16, 3) := by decide +kernel
theorem d5_52 : decode prog_43_method_1_code 52 = .ok (.aload_n 0, 1) := by decide +kernel
theorem d5_53 : decode prog_43_method_1_code 53 = .ok (.iload_n 2, 1) := by decide +kernel
theorem d5_54 : decode prog_43_method_1_code 54 = .ok (.putfield 22, 3) := by decide +kernel
theorem d5_57 : decode prog_43_method_1_code 57 = .ok (.aload_n 0, 1) := by decide +kernel
theorem d5_58 : decode prog_43_method_1_code 58 = .ok (.aload_n 3, 1) := by decide +kernel
theorem d5_59 : decode prog_43_method_1_code 59 = .ok (.invokevirtual 26, 3) := by decide +kernel
theorem d5_62 : decode prog_43_method_1_code 62 = .ok (.checkcast 27, 3) := by decide +kernel
theorem d5_65 : decode prog_43_method_1_code 65 = .ok (.putfield 32, 3) := by decide +kernel
theorem d5_68 : decode prog_43_method_1_code 68 = .ok (.return_, 1) := by decide +kernel
theorem pn5 : plainFor (⟨"com/example/arcward/arcward/model/Variable", "<init>", "(Ljava/lang/String;I[I)V"⟩ : MethodName) = true := plainFor_of_name (by first | (simp [plainName, overriddenIn]; done) | decide +kernel)
theorem ef_rm5_70 (m : MethodId) (a1 : Addr) (a2 : Addr) (p3 : Int32) (a4 : Addr) (k4 : ClassId) (vs : List Value) : entryFrame m #[(.ref a1), (.ref a2), (.int p3), (.ref a4)] 5 = mkF m 0 (oLR2IRu a1 a2 p3 a4) [] := by first | (simp [entryFrame, mkF, argsToLocals, Value.category]; done) | rfl
def Q5_70 (Z : State) (a1 : Addr) (a2 : Addr) (p3 : Int32) (a4 : Addr) (k4 : ClassId) (vs : List Value) (h0 : Heap) (n0 : Nat) (v : Option Value) (h : Heap) (L : List Loc) : Prop := ∃ (b : Addr) (kb : ClassId), v = none ∧ Fr n0 L ∧ (Keep h0 h [a1]) ∧ (Exa Z h a1 "com/example/arcward/arcward/model/Variable") ∧ (Fld Z h a1 "com/example/arcward/arcward/model/Variable" "name" "Ljava/lang/String;" (.ref a2)) ∧ (Fld Z h a1 "com/example/arcward/arcward/model/Variable" "index" "I" (.int p3)) ∧ (Fld Z h a1 "com/example/arcward/arcward/model/Variable" "values" "[I" (.ref b)) ∧ (Arv Z h b kb .int (70 : Int32) vs (.int 0)) ∧ (n0 ≤ b) ∧ (h0.size ≤ b) ∧ (a1 ≠ b)
set_option maxRecDepth 65536 in
set_option maxHeartbeats 40000000 in
theorem rm5_70 (l : Launch) (Z : State) (a0 : Array Value) (hw : ∀ d ∈ tables_1, d.before a0 Z = true) (ws : List Jvm.Cond) (a1 : Addr) (a2 : Addr) (p3 : Int32) (a4 : Addr) (k4 : ClassId) (vs : List Value) (h0 : Heap) (n0 : Nat) (Z0 : n0 ≤ h0.size) (F0 : Exa Z h0 a1 "com/example/arcward/arcward/model/Variable") (F1 : Fld Z h0 a1 "com/example/arcward/arcward/model/Variable" "name" "Ljava/lang/String;" .null) (F2 : Fld Z h0 a1 "com/example/arcward/arcward/model/Variable" "index" "I" (.int 0)) (F3 : Fld Z h0 a1 "com/example/arcward/arcward/model/Variable" "values" "[I" .null) (g1 : n0 ≤ a1) (V4 : Arv Z h0 a4 k4 .int (70 : Int32) vs (.int 0)) (X4 : Exa Z h0 a4 "[I") (n4 : a1 ≠ a4) (HV : own_inc 70 vs) :
  MetFree l oM2 (head1 (Jvm.Cond.code oM2 prog_43_method_1_code 5 none :: ws) ({ frames := 1, cells := 1, slots := 70, locals := 15 } : Room)) (fun a U => a = #[(.ref a1), (.ref a2), (.int p3), (.ref a4)] ∧ Z.Warmed39 U.vm ∧ U.heap = h0) (fun _ _ _ _ _ => True) (fun _ U o U' => ∃ v L, o = .returned v ∧ Q5_70 Z a1 a2 p3 a4 k4 vs h0 n0 v U'.heap L ∧ FrameEnd U o U' L ({ frames := 1, cells := 1, slots := 70, locals := 15 } : Room).cells ({ frames := 1, cells := 1, slots := 70, locals := 15 } : Room).slots) := by
 refine MetFree.of_bodySF pn5 hisR ?_
 intro p e s m args below meth c s₁ Bd hml0 hP hK
 obtain ⟨rfl, hZ, hh⟩ := hP
 have hx := Bd.exec
 have hby := Bd.bytes
 have hml : c.maxLocals = 5 := hml0
 have hown : s.vm.findClass "com/example/arcward/arcward/model/Variable" = some m.cls := findClass_of_methodNamed Bd.named
 have hnm := (name_of_methodNamed Bd.named Bd.method).1
 have X0 : Stand p l e ({ frames := 1, cells := 1, slots := 70, locals := 15 } : Room) s m #[(.ref a1), (.ref a2), (.int p3), (.ref a4)] below meth c s₁ [] 0 0 := Stand.of_body Bd
 have e0 : s₁.heap = h0 := by rw [← hh, Bd.state]; rfl
 have N0 := Fr.nil n0
 have p0 : GF p e below (s₁.setTop (entryFrame m #[(.ref a1), (.ref a2), (.int p3), (.ref a4)] 5)) s₁ m 0 (oLR2IRu a1 a2 p3 a4) [] := fun t_ k_ => castTop (ef_rm5_70 m a1 a2 p3 a4 k4 vs) k_
 have p101 : GF p e below _ s₁ m 1 (oLR2IRu a1 a2 p3 a4) [(.ref a1)] := fun t_ k_ => p0 t_ (by
  refine XS.aloadN X0.here hx rfl (hb hby d5_0) rfl rfl ?_
  exact k_)
 obtain ⟨T102, X102, e102, st102⟩ := initO X0 hx hZ hown (own_w hw 41 rfl) (own_w hw 20 rfl) (own_w hw 21 rfl) e0 (g := (mkF m 1 (oLR2IRu a1 a2 p3 a4) [(.ref a1)])) rfl (by rw [hml]; rfl) rfl (hb hby d5_1) (by decide) (W := 0) (by show 2 * 0 + _ ≤ _; exact Nat.le_of_eq rfl) (by decide)
 have p103 : GF p e below _ T102 m 7 (oLR2IRI a1 a2 p3 a4 1) [] := fun t_ k_ => (gc p101 st102) t_ (by
  refine XS.iconst X102.here hx rfl (hb hby d5_4) ?_
  refine XS.istore X102.here hx rfl (hb hby d5_5) rfl (l' := (oLR2IRI a1 a2 p3 a4 1)) rfl ?_
  exact k_)
 have p105 : GF p e below _ T102 m 7 (oLR2IRI a1 a2 p3 a4 (Int32.ofNat 1)) [] := p103
 obtain ⟨T104, L104, X104, e104, N104, g104⟩ := lpV Z a0 hx hZ hw hby hml hown a1 a2 p3 a4 k4 vs h0 n0 (Nat.le_trans Z0 (Keep.refl h0 [a1]).1) V4 HV 0 0 69 1 T102 _ (by omega) (by omega) X102 e102 N0
 have p106 : GF p e below _ T104 m 47 (oLR2IRI a1 a2 p3 a4 (Int32.ofNat 70)) [] := fun t_ k_ => p105 t_ (g104 t_ k_)
 have p107 : GF p e below _ T104 m 49 (oLR2IRI a1 a2 p3 a4 (Int32.ofNat 70)) [(.ref a2), (.ref a1)] := fun t_ k_ => p106 t_ (by
  refine XS.aloadN X104.here hx rfl (hb hby d5_47) rfl rfl ?_
  refine XS.aloadN X104.here hx rfl (hb hby d5_48) rfl rfl ?_
  exact k_)
 obtain ⟨T108, h108, X108, e108, W108, st108⟩ := putF X104 hx hZ hown (host := "") (Or.inl (own_w hw 42 rfl)) Via.refl e104 F1 F0 (Or.inr ⟨(own_w hw 43 rfl), rfl, hnm⟩) (own_w hw 28 rfl) (ty := (.object "java/lang/String")) (by decide) rfl rfl (g := (mkF m 49 (oLR2IRI a1 a2 p3 a4 (Int32.ofNat 70)) [(.ref a2), (.ref a1)])) rfl rfl (hb hby d5_49)
 have K109 : Keep h0 h108 [a1] := (Keep.refl h0 [a1]).wr W108 (Or.inl (List.mem_of_getElem? (i := 0) rfl))
 have N108 := Fr.snoc X108 N104 g1
 have F108 : Fld Z h108 a1 "com/example/arcward/arcward/model/Variable" "name" "Ljava/lang/String;" (.ref a2) := F1.same W108
 have p110 : GF p e below _ T108 m 54 (oLR2IRI a1 a2 p3 a4 (Int32.ofNat 70)) [(.int p3), (.ref a1)] := fun t_ k_ => (gc p107 st108) t_ (by
  refine XS.aloadN X108.here hx rfl (hb hby d5_52) rfl rfl ?_
  refine XS.iloadN X108.here hx rfl (hb hby d5_53) rfl ?_
  exact k_)
 have f111 := (F2.other W108 (Or.inr (slot_ne (Or.inr (own_w hw 45 rfl)) (Or.inr (own_w hw 43 rfl)) (by decide) (t := .int) (t' := (.object "java/lang/String")) (by decide) (by decide))))
 have f112 := (F0.wr W108)
 obtain ⟨T113, h113, X113, e113, W113, st113⟩ := putF X108 hx hZ hown (host := "") (Or.inl (own_w hw 44 rfl)) Via.refl e108 f111 f112 (Or.inr ⟨(own_w hw 45 rfl), rfl, hnm⟩) (own_w hw 28 rfl) (ty := .int) (by decide) rfl rfl (g := (mkF m 54 (oLR2IRI a1 a2 p3 a4 (Int32.ofNat 70)) [(.int p3), (.ref a1)])) rfl rfl (hb hby d5_54)
 have K114 : Keep h0 h113 [a1] := K109.wr W113 (Or.inl (List.mem_of_getElem? (i := 0) rfl))
 have N113 := Fr.snoc X113 N108 g1
 have F113 : Fld Z h113 a1 "com/example/arcward/arcward/model/Variable" "index" "I" (.int p3) := f111.same W113
 have p115 : GF p e below _ T113 m 59 (oLR2IRI a1 a2 p3 a4 (Int32.ofNat 70)) [(.ref a4), (.ref a1)] := fun t_ k_ => (gc p110 st113) t_ (by
  refine XS.aloadN X113.here hx rfl (hb hby d5_57) rfl rfl ?_
  refine XS.aloadN X113.here hx rfl (hb hby d5_58) rfl rfl ?_
  exact k_)
 have f116 := ((V4.other W108 (Ne.symm n4)).other W113 (Ne.symm n4))
 have f117 := ((X4.wr W108).wr W113)
 obtain ⟨T118, h118, X118, e118, E118, V118, A118, st118⟩ := cloneH X113 hx hZ hown (own_w hw 46 rfl) (own_w hw 47 rfl) (own_w hw 51 rfl) (own_w hw 49 rfl) (own_w hw 50 rfl) (own_w hw 52 rfl) e113 (Arv.arh f116) f117 (g := (mkF m 59 (oLR2IRI a1 a2 p3 a4 (Int32.ofNat 70)) [(.ref a4), (.ref a1)])) rfl (by rw [hml]; rfl) rfl (hb hby d5_59) (by decide) (W := 1) (cap := 70) (by show 2 * 0 + _ ≤ _; exact Nat.le_of_eq rfl) (by decide) (by decide) (by decide) (by decide)
 obtain ⟨b118, g118⟩ : ∃ z, z = h113.size := ⟨_, rfl⟩
 rw [← g118] at A118 V118 st118
 have f119 := (f112.wr W113)
 have ne_a1_b118 : a1 ≠ b118 := Nat.ne_of_lt (Nat.lt_of_lt_of_le f119.lt (Nat.le_of_eq g118.symm))
 have ne_a4_b118 : a4 ≠ b118 := Nat.ne_of_lt (Nat.lt_of_lt_of_le f116.lt (Nat.le_of_eq g118.symm))
 have ge_b118 : n0 ≤ b118 := Nat.le_trans (Nat.le_trans Z0 K114.1) (Nat.le_of_eq g118.symm)
 have sz_b118 : h0.size ≤ b118 := Nat.le_trans K114.1 (Nat.le_of_eq g118.symm)
 have K120 : Keep h0 h118 [a1] := K114.ext E118
 have VV118 : Arv Z h118 b118 k4 .int (70 : Int32) vs (.int 0) := V118
 obtain ⟨T121, X121, e121, st121⟩ := castY X118 hx hZ hown (own_w hw 53 rfl) e118 (Ins.self A118) (g := (mkF m 62 (oLR2IRI a1 a2 p3 a4 (Int32.ofNat 70)) [(.ref b118), (.ref a1)])) rfl rfl (hb hby d5_62)
 have f122 := (((F3.other W108 (Or.inr (slot_ne (Or.inr (own_w hw 56 rfl)) (Or.inr (own_w hw 43 rfl)) (by decide) (t := (.array .int)) (t' := (.object "java/lang/String")) (by decide) (by decide)))).other W113 (Or.inr (slot_ne (Or.inr (own_w hw 56 rfl)) (Or.inr (own_w hw 45 rfl)) (by decide) (t := (.array .int)) (t' := .int) (by decide) (by decide)))).ext E118)
 have f123 := (f119.ext E118)
 obtain ⟨T124, h124, X124, e124, W124, st124⟩ := putF X121 hx hZ hown (host := "") (Or.inl (own_w hw 55 rfl)) Via.refl e121 f122 f123 (Or.inr ⟨(own_w hw 56 rfl), rfl, hnm⟩) (own_w hw 28 rfl) (ty := (.array .int)) (by decide) rfl rfl (g := (mkF m 65 (oLR2IRI a1 a2 p3 a4 (Int32.ofNat 70)) [(.ref b118), (.ref a1)])) rfl rfl (hb hby d5_65)
 have K125 : Keep h0 h124 [a1] := K120.wr W124 (Or.inl (List.mem_of_getElem? (i := 0) rfl))
 have N124 := Fr.snoc X124 N113 g1
 have F124 : Fld Z h124 a1 "com/example/arcward/arcward/model/Variable" "values" "[I" (.ref b118) := f122.same W124
 have f126 := (f123.wr W124)
 have f127 := (((F108.other W113 (Or.inr (slot_ne (Or.inr (own_w hw 43 rfl)) (Or.inr (own_w hw 45 rfl)) (by decide) (t := (.object "java/lang/String")) (t' := .int) (by decide) (by decide)))).ext E118).other W124 (Or.inr (slot_ne (Or.inr (own_w hw 43 rfl)) (Or.inr (own_w hw 56 rfl)) (by decide) (t := (.object "java/lang/String")) (t' := (.array .int)) (by decide) (by decide))))
 have f128 := ((F113.ext E118).other W124 (Or.inr (slot_ne (Or.inr (own_w hw 45 rfl)) (Or.inr (own_w hw 56 rfl)) (by decide) (t := .int) (t' := (.array .int)) (by decide) (by decide))))
 have f129 := (VV118.other W124 (Ne.symm ne_a1_b118))
 obtain ⟨fs, hr, hrun, hended, hW, hsame⟩ := X124.leave (v := none) (fun _ => rfl)
 refine ⟨_, _, (gc (gc (gc p115 st118) st121) st124) _ (X124.returnOut hx Bd.returns (hb hby d5_68) hr), hrun, hended, _, _, rfl, ?_, ⟨_, rfl⟩, hW, hsame.mono (by decide) (by decide)⟩
 show Q5_70 Z a1 a2 p3 a4 k4 vs h0 n0 _ T124.heap _
 rw [e124]
 exact ⟨b118, k4, rfl, N124, K125, f126, f127, f128, F124, f129, ge_b118, sz_b118, ne_a1_b118⟩
theorem ef_rm5_3 (m : MethodId) (a1 : Addr) (a2 : Addr) (p3 : Int32) (a4 : Addr) (k4 : ClassId) : entryFrame m #[(.ref a1), (.ref a2), (.int p3), (.ref a4)] 5 = mkF m 0 (oLR2IRu a1 a2 p3 a4) [] := by first | (simp [entryFrame, mkF, argsToLocals, Value.category]; done) | rfl
def Q5_3 (Z : State) (a1 : Addr) (a2 : Addr) (p3 : Int32) (a4 : Addr) (k4 : ClassId) (h0 : Heap) (n0 : Nat) (v : Option Value) (h : Heap) (L : List Loc) : Prop := ∃ (b : Addr) (kb : ClassId), v = none ∧ Fr n0 L ∧ (Keep h0 h [a1]) ∧ (Exa Z h a1 "com/example/arcward/arcward/model/Variable") ∧ (Fld Z h a1 "com/example/arcward/arcward/model/Variable" "name" "Ljava/lang/String;" (.ref a2)) ∧ (Fld Z h a1 "com/example/arcward/arcward/model/Variable" "index" "I" (.int p3)) ∧ (Fld Z h a1 "com/example/arcward/arcward/model/Variable" "values" "[I" (.ref b)) ∧ (Arv Z h b kb .int (3 : Int32) [(.int (-4)), (.int 7), (.int 9)] (.int 0)) ∧ (n0 ≤ b) ∧ (h0.size ≤ b) ∧ (a1 ≠ b)
set_option maxRecDepth 65536 in
set_option maxHeartbeats 40000000 in
theorem rm5_3 (l : Launch) (Z : State) (a0 : Array Value) (hw : ∀ d ∈ tables_1, d.before a0 Z = true) (ws : List Jvm.Cond) (a1 : Addr) (a2 : Addr) (p3 : Int32) (a4 : Addr) (k4 : ClassId) (h0 : Heap) (n0 : Nat) (Z0 : n0 ≤ h0.size) (F0 : Exa Z h0 a1 "com/example/arcward/arcward/model/Variable") (F1 : Fld Z h0 a1 "com/example/arcward/arcward/model/Variable" "name" "Ljava/lang/String;" .null) (F2 : Fld Z h0 a1 "com/example/arcward/arcward/model/Variable" "index" "I" (.int 0)) (F3 : Fld Z h0 a1 "com/example/arcward/arcward/model/Variable" "values" "[I" .null) (g1 : n0 ≤ a1) (V4 : Arv Z h0 a4 k4 .int (3 : Int32) [(.int (-4)), (.int 7), (.int 9)] (.int 0)) (X4 : Exa Z h0 a4 "[I") (n4 : a1 ≠ a4) :
  MetFree l oM2 (head1 (Jvm.Cond.code oM2 prog_43_method_1_code 5 none :: ws) ({ frames := 1, cells := 1, slots := 3, locals := 15 } : Room)) (fun a U => a = #[(.ref a1), (.ref a2), (.int p3), (.ref a4)] ∧ Z.Warmed39 U.vm ∧ U.heap = h0) (fun _ _ _ _ _ => True) (fun _ U o U' => ∃ v L, o = .returned v ∧ Q5_3 Z a1 a2 p3 a4 k4 h0 n0 v U'.heap L ∧ FrameEnd U o U' L ({ frames := 1, cells := 1, slots := 3, locals := 15 } : Room).cells ({ frames := 1, cells := 1, slots := 3, locals := 15 } : Room).slots) := by
 refine MetFree.of_bodySF pn5 hisR ?_
 intro p e s m args below meth c s₁ Bd hml0 hP hK
 obtain ⟨rfl, hZ, hh⟩ := hP
 have hx := Bd.exec
 have hby := Bd.bytes
 have hml : c.maxLocals = 5 := hml0
 have hown : s.vm.findClass "com/example/arcward/arcward/model/Variable" = some m.cls := findClass_of_methodNamed Bd.named
 have hnm := (name_of_methodNamed Bd.named Bd.method).1
 have X0 : Stand p l e ({ frames := 1, cells := 1, slots := 3, locals := 15 } : Room) s m #[(.ref a1), (.ref a2), (.int p3), (.ref a4)] below meth c s₁ [] 0 0 := Stand.of_body Bd
 have e0 : s₁.heap = h0 := by rw [← hh, Bd.state]; rfl
 have N0 := Fr.nil n0
 have p0 : GF p e below (s₁.setTop (entryFrame m #[(.ref a1), (.ref a2), (.int p3), (.ref a4)] 5)) s₁ m 0 (oLR2IRu a1 a2 p3 a4) [] := fun t_ k_ => castTop (ef_rm5_3 m a1 a2 p3 a4 k4) k_
 have p101 : GF p e below _ s₁ m 1 (oLR2IRu a1 a2 p3 a4) [(.ref a1)] := fun t_ k_ => p0 t_ (by
  refine XS.aloadN X0.here hx rfl (hb hby d5_0) rfl rfl ?_
  exact k_)
 obtain ⟨T102, X102, e102, st102⟩ := initO X0 hx hZ hown (own_w hw 41 rfl) (own_w hw 20 rfl) (own_w hw 21 rfl) e0 (g := (mkF m 1 (oLR2IRu a1 a2 p3 a4) [(.ref a1)])) rfl (by rw [hml]; rfl) rfl (hb hby d5_1) (by decide) (W := 0) (by show 2 * 0 + _ ≤ _; exact Nat.le_of_eq rfl) (by decide)
 have p103 : GF p e below _ T102 m 10 (oLR2IRI a1 a2 p3 a4 1) [(.ref a4), (.int 1)] := fun t_ k_ => (gc p101 st102) t_ (by
  refine XS.iconst X102.here hx rfl (hb hby d5_4) ?_
  refine XS.istore X102.here hx rfl (hb hby d5_5) rfl (l' := (oLR2IRI a1 a2 p3 a4 1)) rfl ?_
  refine XS.iload X102.here hx rfl (hb hby d5_7) rfl ?_
  refine XS.aloadN X102.here hx rfl (hb hby d5_9) rfl rfl ?_
  exact k_)
 obtain ⟨cl104, Ar104, -, S104, Ng104, -, -⟩ := id V4
 have p105 : GF p e below _ T102 m 19 (oLR2IRI a1 a2 p3 a4 1) [(.int 0), (.ref a4)] := fun t_ k_ => p103 t_ (by
  refine X102.arraylength hx (by rw [e102]; exact Ar104.1) (State.isArrayOf_alike hZ.alike Ar104.2.1) (g := (mkF m 10 (oLR2IRI a1 a2 p3 a4 1) [(.ref a4), (.int 1)])) rfl rfl (hb hby d5_10) _ ?_
  rw [len_of S104 Ng104]
  show Steps p.tables e below (T102.setTop (mkF m 11 (oLR2IRI a1 a2 p3 a4 1) [(.int 3), (.int 1)])) _
  refine XS.icmpNo X102.here hx rfl (hb hby d5_11) rfl (tlt (by decide : ((1 : Int32) < (3 : Int32)))).2.1 ?_
  refine XS.aloadN X102.here hx rfl (hb hby d5_14) rfl rfl ?_
  refine XS.iload X102.here hx rfl (hb hby d5_15) rfl ?_
  refine XS.iconst X102.here hx rfl (hb hby d5_17) ?_
  refine XS.isub X102.here hx rfl (hb hby d5_18) rfl ?_
  exact k_)
 obtain ⟨cl106, Ar106, q106, S106, Ng106, H106, G106⟩ := id V4
 have hin106 := inb_of S106 (j := (0 : Int32)) ⟨by decide, by decide⟩
 have hat106 := H106.at (v := (.int (-4))) hin106 rfl
 have p107 : GF p e below _ T102 m 23 (oLR2IRI a1 a2 p3 a4 1) [(.int 1), (.ref a4), (.int (-4))] := fun t_ k_ => p105 t_ (by
  refine X102.iaload hx (j := (0 : Int32)) (v := (.int (-4))) (by rw [e102]; exact Ar106.1) (State.isArrayOf_alike hZ.alike Ar106.2.1) Ar106.2.2 hin106 hat106 (g := (mkF m 19 (oLR2IRI a1 a2 p3 a4 1) [(.int 0), (.ref a4)])) rfl rfl (hb hby d5_19) _ ?_
  refine XS.aloadN X102.here hx rfl (hb hby d5_20) rfl rfl ?_
  refine XS.iload X102.here hx rfl (hb hby d5_21) rfl ?_
  exact k_)
 obtain ⟨cl108, Ar108, q108, S108, Ng108, H108, G108⟩ := id V4
 have hin108 := inb_of S108 (j := (1 : Int32)) ⟨by decide, by decide⟩
 have hat108 := H108.at (v := (.int 7)) hin108 rfl
 have p109 : GF p e below _ T102 m 10 (oLR2IRI a1 a2 p3 a4 2) [(.ref a4), (.int 2)] := fun t_ k_ => p107 t_ (by
  refine X102.iaload hx (j := (1 : Int32)) (v := (.int 7)) (by rw [e102]; exact Ar108.1) (State.isArrayOf_alike hZ.alike Ar108.2.1) Ar108.2.2 hin108 hat108 (g := (mkF m 23 (oLR2IRI a1 a2 p3 a4 1) [(.int 1), (.ref a4), (.int (-4))])) rfl rfl (hb hby d5_23) _ ?_
  refine XS.icmpYes X102.here hx rfl (pc0 := 24) (pc' := 41) rfl (hb hby d5_24) rfl (tlt (by decide : ((-4 : Int32) < (7 : Int32)))).1 (by decide) (by decide) ?_
  refine XS.iinc X102.here hx rfl (hb hby d5_41) rfl (l' := (oLR2IRI a1 a2 p3 a4 2)) rfl ?_
  refine XS.goto X102.here hx rfl (pc0 := 44) (pc' := 7) rfl (hb hby d5_44) (by decide) (by decide) ?_
  refine XS.iload X102.here hx rfl (hb hby d5_7) rfl ?_
  refine XS.aloadN X102.here hx rfl (hb hby d5_9) rfl rfl ?_
  exact k_)
 obtain ⟨cl110, Ar110, -, S110, Ng110, -, -⟩ := id V4
 have p111 : GF p e below _ T102 m 19 (oLR2IRI a1 a2 p3 a4 2) [(.int 1), (.ref a4)] := fun t_ k_ => p109 t_ (by
  refine X102.arraylength hx (by rw [e102]; exact Ar110.1) (State.isArrayOf_alike hZ.alike Ar110.2.1) (g := (mkF m 10 (oLR2IRI a1 a2 p3 a4 2) [(.ref a4), (.int 2)])) rfl rfl (hb hby d5_10) _ ?_
  rw [len_of S110 Ng110]
  show Steps p.tables e below (T102.setTop (mkF m 11 (oLR2IRI a1 a2 p3 a4 2) [(.int 3), (.int 2)])) _
  refine XS.icmpNo X102.here hx rfl (hb hby d5_11) rfl (tlt (by decide : ((2 : Int32) < (3 : Int32)))).2.1 ?_
  refine XS.aloadN X102.here hx rfl (hb hby d5_14) rfl rfl ?_
  refine XS.iload X102.here hx rfl (hb hby d5_15) rfl ?_
  refine XS.iconst X102.here hx rfl (hb hby d5_17) ?_
  refine XS.isub X102.here hx rfl (hb hby d5_18) rfl ?_
  exact k_)
 obtain ⟨cl112, Ar112, q112, S112, Ng112, H112, G112⟩ := id V4
 have hin112 := inb_of S112 (j := (1 : Int32)) ⟨by decide, by decide⟩
 have hat112 := H112.at (v := (.int 7)) hin112 rfl
 have p113 : GF p e below _ T102 m 23 (oLR2IRI a1 a2 p3 a4 2) [(.int 2), (.ref a4), (.int 7)] := fun t_ k_ => p111 t_ (by
  refine X102.iaload hx (j := (1 : Int32)) (v := (.int 7)) (by rw [e102]; exact Ar112.1) (State.isArrayOf_alike hZ.alike Ar112.2.1) Ar112.2.2 hin112 hat112 (g := (mkF m 19 (oLR2IRI a1 a2 p3 a4 2) [(.int 1), (.ref a4)])) rfl rfl (hb hby d5_19) _ ?_
  refine XS.aloadN X102.here hx rfl (hb hby d5_20) rfl rfl ?_
  refine XS.iload X102.here hx rfl (hb hby d5_21) rfl ?_
  exact k_)
 obtain ⟨cl114, Ar114, q114, S114, Ng114, H114, G114⟩ := id V4
 have hin114 := inb_of S114 (j := (2 : Int32)) ⟨by decide, by decide⟩
 have hat114 := H114.at (v := (.int 9)) hin114 rfl
 have p115 : GF p e below _ T102 m 10 (oLR2IRI a1 a2 p3 a4 3) [(.ref a4), (.int 3)] := fun t_ k_ => p113 t_ (by
  refine X102.iaload hx (j := (2 : Int32)) (v := (.int 9)) (by rw [e102]; exact Ar114.1) (State.isArrayOf_alike hZ.alike Ar114.2.1) Ar114.2.2 hin114 hat114 (g := (mkF m 23 (oLR2IRI a1 a2 p3 a4 2) [(.int 2), (.ref a4), (.int 7)])) rfl rfl (hb hby d5_23) _ ?_
  refine XS.icmpYes X102.here hx rfl (pc0 := 24) (pc' := 41) rfl (hb hby d5_24) rfl (tlt (by decide : ((7 : Int32) < (9 : Int32)))).1 (by decide) (by decide) ?_
  refine XS.iinc X102.here hx rfl (hb hby d5_41) rfl (l' := (oLR2IRI a1 a2 p3 a4 3)) rfl ?_
  refine XS.goto X102.here hx rfl (pc0 := 44) (pc' := 7) rfl (hb hby d5_44) (by decide) (by decide) ?_
  refine XS.iload X102.here hx rfl (hb hby d5_7) rfl ?_
  refine XS.aloadN X102.here hx rfl (hb hby d5_9) rfl rfl ?_
  exact k_)
 obtain ⟨cl116, Ar116, -, S116, Ng116, -, -⟩ := id V4
 have p117 : GF p e below _ T102 m 49 (oLR2IRI a1 a2 p3 a4 3) [(.ref a2), (.ref a1)] := fun t_ k_ => p115 t_ (by
  refine X102.arraylength hx (by rw [e102]; exact Ar116.1) (State.isArrayOf_alike hZ.alike Ar116.2.1) (g := (mkF m 10 (oLR2IRI a1 a2 p3 a4 3) [(.ref a4), (.int 3)])) rfl rfl (hb hby d5_10) _ ?_
  rw [len_of S116 Ng116]
  show Steps p.tables e below (T102.setTop (mkF m 11 (oLR2IRI a1 a2 p3 a4 3) [(.int 3), (.int 3)])) _
  refine XS.icmpYes X102.here hx rfl (pc0 := 11) (pc' := 47) rfl (hb hby d5_11) rfl (flt (by decide : ¬ ((3 : Int32) < (3 : Int32)))).2.1 (by decide) (by decide) ?_
  refine XS.aloadN X102.here hx rfl (hb hby d5_47) rfl rfl ?_
  refine XS.aloadN X102.here hx rfl (hb hby d5_48) rfl rfl ?_
  exact k_)
 obtain ⟨T118, h118, X118, e118, W118, st118⟩ := putF X102 hx hZ hown (host := "") (Or.inl (own_w hw 42 rfl)) Via.refl e102 F1 F0 (Or.inr ⟨(own_w hw 43 rfl), rfl, hnm⟩) (own_w hw 28 rfl) (ty := (.object "java/lang/String")) (by decide) rfl rfl (g := (mkF m 49 (oLR2IRI a1 a2 p3 a4 3) [(.ref a2), (.ref a1)])) rfl rfl (hb hby d5_49)
 have K119 : Keep h0 h118 [a1] := (Keep.refl h0 [a1]).wr W118 (Or.inl (List.mem_of_getElem? (i := 0) rfl))
 have N118 := Fr.snoc X118 N0 g1
 have F118 : Fld Z h118 a1 "com/example/arcward/arcward/model/Variable" "name" "Ljava/lang/String;" (.ref a2) := F1.same W118
 have p120 : GF p e below _ T118 m 54 (oLR2IRI a1 a2 p3 a4 3) [(.int p3), (.ref a1)] := fun t_ k_ => (gc p117 st118) t_ (by
  refine XS.aloadN X118.here hx rfl (hb hby d5_52) rfl rfl ?_
  refine XS.iloadN X118.here hx rfl (hb hby d5_53) rfl ?_
  exact k_)
 have f121 := (F2.other W118 (Or.inr (slot_ne (Or.inr (own_w hw 45 rfl)) (Or.inr (own_w hw 43 rfl)) (by decide) (t := .int) (t' := (.object "java/lang/String")) (by decide) (by decide))))
 have f122 := (F0.wr W118)
 obtain ⟨T123, h123, X123, e123, W123, st123⟩ := putF X118 hx hZ hown (host := "") (Or.inl (own_w hw 44 rfl)) Via.refl e118 f121 f122 (Or.inr ⟨(own_w hw 45 rfl), rfl, hnm⟩) (own_w hw 28 rfl) (ty := .int) (by decide) rfl rfl (g := (mkF m 54 (oLR2IRI a1 a2 p3 a4 3) [(.int p3), (.ref a1)])) rfl rfl (hb hby d5_54)
 have K124 : Keep h0 h123 [a1] := K119.wr W123 (Or.inl (List.mem_of_getElem? (i := 0) rfl))
 have N123 := Fr.snoc X123 N118 g1
 have F123 : Fld Z h123 a1 "com/example/arcward/arcward/model/Variable" "index" "I" (.int p3) := f121.same W123
 have p125 : GF p e below _ T123 m 59 (oLR2IRI a1 a2 p3 a4 3) [(.ref a4), (.ref a1)] := fun t_ k_ => (gc p120 st123) t_ (by
  refine XS.aloadN X123.here hx rfl (hb hby d5_57) rfl rfl ?_
  refine XS.aloadN X123.here hx rfl (hb hby d5_58) rfl rfl ?_
  exact k_)
 have f126 := ((V4.other W118 (Ne.symm n4)).other W123 (Ne.symm n4))
 have f127 := ((X4.wr W118).wr W123)
 obtain ⟨T128, h128, X128, e128, E128, V128, A128, st128⟩ := cloneH X123 hx hZ hown (own_w hw 46 rfl) (own_w hw 47 rfl) (own_w hw 51 rfl) (own_w hw 49 rfl) (own_w hw 50 rfl) (own_w hw 52 rfl) e123 (Arv.arh f126) f127 (g := (mkF m 59 (oLR2IRI a1 a2 p3 a4 3) [(.ref a4), (.ref a1)])) rfl (by rw [hml]; rfl) rfl (hb hby d5_59) (by decide) (W := 1) (cap := 3) (by show 2 * 0 + _ ≤ _; exact Nat.le_of_eq rfl) (by decide) (by decide) (by decide) (by decide)
 obtain ⟨b128, g128⟩ : ∃ z, z = h123.size := ⟨_, rfl⟩
 rw [← g128] at A128 V128 st128
 have f129 := (f122.wr W123)
 have ne_a1_b128 : a1 ≠ b128 := Nat.ne_of_lt (Nat.lt_of_lt_of_le f129.lt (Nat.le_of_eq g128.symm))
 have ne_a4_b128 : a4 ≠ b128 := Nat.ne_of_lt (Nat.lt_of_lt_of_le f126.lt (Nat.le_of_eq g128.symm))
 have ge_b128 : n0 ≤ b128 := Nat.le_trans (Nat.le_trans Z0 K124.1) (Nat.le_of_eq g128.symm)
 have sz_b128 : h0.size ≤ b128 := Nat.le_trans K124.1 (Nat.le_of_eq g128.symm)
 have K130 : Keep h0 h128 [a1] := K124.ext E128
 have VV128 : Arv Z h128 b128 k4 .int (3 : Int32) [(.int (-4)), (.int 7), (.int 9)] (.int 0) := V128
 obtain ⟨T131, X131, e131, st131⟩ := castY X128 hx hZ hown (own_w hw 53 rfl) e128 (Ins.self A128) (g := (mkF m 62 (oLR2IRI a1 a2 p3 a4 3) [(.ref b128), (.ref a1)])) rfl rfl (hb hby d5_62)
 have f132 := (((F3.other W118 (Or.inr (slot_ne (Or.inr (own_w hw 56 rfl)) (Or.inr (own_w hw 43 rfl)) (by decide) (t := (.array .int)) (t' := (.object "java/lang/String")) (by decide) (by decide)))).other W123 (Or.inr (slot_ne (Or.inr (own_w hw 56 rfl)) (Or.inr (own_w hw 45 rfl)) (by decide) (t := (.array .int)) (t' := .int) (by decide) (by decide)))).ext E128)
 have f133 := (f129.ext E128)
 obtain ⟨T134, h134, X134, e134, W134, st134⟩ := putF X131 hx hZ hown (host := "") (Or.inl (own_w hw 55 rfl)) Via.refl e131 f132 f133 (Or.inr ⟨(own_w hw 56 rfl), rfl, hnm⟩) (own_w hw 28 rfl) (ty := (.array .int)) (by decide) rfl rfl (g := (mkF m 65 (oLR2IRI a1 a2 p3 a4 3) [(.ref b128), (.ref a1)])) rfl rfl (hb hby d5_65)
 have K135 : Keep h0 h134 [a1] := K130.wr W134 (Or.inl (List.mem_of_getElem? (i := 0) rfl))
 have N134 := Fr.snoc X134 N123 g1
 have F134 : Fld Z h134 a1 "com/example/arcward/arcward/model/Variable" "values" "[I" (.ref b128) := f132.same W134
 have f136 := (f133.wr W134)
 have f137 := (((F118.other W123 (Or.inr (slot_ne (Or.inr (own_w hw 43 rfl)) (Or.inr (own_w hw 45 rfl)) (by decide) (t := (.object "java/lang/String")) (t' := .int) (by decide) (by decide)))).ext E128).other W134 (Or.inr (slot_ne (Or.inr (own_w hw 43 rfl)) (Or.inr (own_w hw 56 rfl)) (by decide) (t := (.object "java/lang/String")) (t' := (.array .int)) (by decide) (by decide))))
 have f138 := ((F123.ext E128).other W134 (Or.inr (slot_ne (Or.inr (own_w hw 45 rfl)) (Or.inr (own_w hw 56 rfl)) (by decide) (t := .int) (t' := (.array .int)) (by decide) (by decide))))
 have f139 := (VV128.other W134 (Ne.symm ne_a1_b128))
 obtain ⟨fs, hr, hrun, hended, hW, hsame⟩ := X134.leave (v := none) (fun _ => rfl)
 refine ⟨_, _, (gc (gc (gc p125 st128) st131) st134) _ (X134.returnOut hx Bd.returns (hb hby d5_68) hr), hrun, hended, _, _, rfl, ?_, ⟨_, rfl⟩, hW, hsame.mono (by decide) (by decide)⟩
 show Q5_3 Z a1 a2 p3 a4 k4 h0 n0 _ T134.heap _
 rw [e134]
 exact ⟨b128, k4, rfl, N134, K135, f136, f137, f138, F134, f139, ge_b128, sz_b128, ne_a1_b128⟩
theorem d11_0 : decode prog_11_method_1_code 0 = .ok (.aload_n 0, 1) := by decide +kernel
theorem d11_1 : decode prog_11_method_1_code 1 = .ok (.invokespecial 1, 3) := by decide +kernel
theorem d11_4 : decode prog_11_method_1_code 4 = .ok (.aload_n 0, 1) := by decide +kernel
theorem d11_5 : decode prog_11_method_1_code 5 = .ok (.aload_n 1, 1) := by decide +kernel
theorem d11_6 : decode prog_11_method_1_code 6 = .ok (.invokestatic 7, 3) := by decide +kernel
theorem d11_9 : decode prog_11_method_1_code 9 = .ok (.putfield 13, 3) := by decide +kernel
theorem d11_12 : decode prog_11_method_1_code 12 = .ok (.aload_n 0, 1) := by decide +kernel
theorem d11_13 : decode prog_11_method_1_code 13 = .ok (.aload_n 2, 1) := by decide +kernel
theorem d11_14 : decode prog_11_method_1_code 14 = .ok (.invokestatic 7, 3) := by decide +kernel
theorem d11_17 : decode prog_11_method_1_code 17 = .ok (.putfield 19, 3) := by decide +kernel
theorem d11_20 : decode prog_11_method_1_code 20 = .ok (.iconst 0, 1) := by decide +kernel
theorem d11_21 : decode prog_11_method_1_code 21 = .ok (.istore_n 3, 1) := by decide +kernel
theorem d11_22 : decode prog_11_method_1_code 22 = .ok (.iload_n 3, 1) := by decide +kernel
theorem d11_23 : decode prog_11_method_1_code 23 = .ok (.aload_n 0, 1) := by decide +kernel
theorem d11_24 : decode prog_11_method_1_code 24 = .ok (.getfield 13, 3) := by decide +kernel
theorem d11_27 : decode prog_11_method_1_code 27 = .ok (.invokeinterface 22 1, 5) := by decide +kernel
theorem d11_32 : decode prog_11_method_1_code 32 = .ok (.if_icmp .ge 72, 3) := by decide +kernel
theorem d11_35 : decode prog_11_method_1_code 35 = .ok (.aload_n 0, 1) := by decide +kernel
theorem d11_36 : decode prog_11_method_1_code 36 = .ok (.getfield 13, 3) := by decide +kernel
theorem d11_39 : decode prog_11_method_1_code 39 = .ok (.iload_n 3, 1) := by decide +kernel
theorem d11_40 : decode prog_11_method_1_code 40 = .ok (.invokeinterface 26 2, 5) := by decide +kernel
theorem d11_45 : decode prog_11_method_1_code 45 = .ok (.checkcast 30, 3) := by decide +kernel
theorem d11_48 : decode prog_11_method_1_code 48 = .ok (.invokevirtual 32, 3) := by decide +kernel
theorem d11_51 : decode prog_11_method_1_code 51 = .ok (.iload_n 3, 1) := by decide +kernel
theorem d11_52 : decode prog_11_method_1_code 52 = .ok (.if_icmp .eq 46, 3) := by decide +kernel
theorem d11_98 : decode prog_11_method_1_code 98 = .ok (.iinc 3 1, 3) := by decide +kernel
theorem d11_101 : decode prog_11_method_1_code 101 = .ok (.goto (-79), 3) := by decide +kernel
theorem d11_104 : decode prog_11_method_1_code 104 = .ok (.aload_n 0, 1) := by decide +kernel
theorem d11_105 : decode prog_11_method_1_code 105 = .ok (.getfield 19, 3) := by decide +kernel
theorem d11_108 : decode prog_11_method_1_code 108 = .ok (.invokeinterface 50 1, 5) := by decide +kernel
theorem d11_113 : decode prog_11_method_1_code 113 = .ok (.astore_n 3, 1) := by decide +kernel
theorem d11_114 : decode prog_11_method_1_code 114 = .ok (.aload_n 3, 1) := by decide +kernel
theorem d11_115 : decode prog_11_method_1_code 115 = .ok (.invokeinterface 54 1, 5) := by decide +kernel
theorem d11_120 : decode prog_11_method_1_code 120 = .ok (.ifCond .eq 99, 3) := by decide +kernel
theorem d11_219 : decode prog_11_method_1_code 219 = .ok (.return_, 1) := by decide +kernel
theorem pd15 : parseMethodDescriptor "(I)Ljava/lang/Object;" = some ⟨[.int], some (.object "java/lang/Object")⟩ := by decide +kernel
theorem pd16 : parseMethodDescriptor "()Ljava/util/Iterator;" = some ⟨[], some (.object "java/util/Iterator")⟩ := by decide +kernel
theorem pn11 : plainFor (⟨"com/example/arcward/arcward/model/Instance", "<init>", "(Ljava/util/List;Ljava/util/List;)V"⟩ : MethodName) = true := plainFor_of_name (by first | (simp [plainName, overriddenIn]; done) | decide +kernel)
theorem ef_rm11 (m : MethodId) (a1 : Addr) (a2 : Addr) (a3 : Addr) (mc : Int32) (me : Int32) (ed : Addr) (kd : ClassId) (x0 : Addr) (x1 : Addr) (de : Addr) (kde : ClassId) (el : Addr) (ea : Addr) (kea : ClassId) (em : Addr) (mr : Addr) : entryFrame m #[(.ref a1), (.ref a2), (.ref a3)] 7 = mkF m 0 (oLR3u4 a1 a2 a3) [] := by first | (simp [entryFrame, mkF, argsToLocals, Value.category]; done) | rfl
def Q11 (Z : State) (a1 : Addr) (a2 : Addr) (a3 : Addr) (mc : Int32) (me : Int32) (ed : Addr) (kd : ClassId) (x0 : Addr) (x1 : Addr) (de : Addr) (kde : ClassId) (el : Addr) (ea : Addr) (kea : ClassId) (em : Addr) (mr : Addr) (h0 : Heap) (n0 : Nat) (v : Option Value) (h : Heap) (L : List Loc) : Prop := ∃ (b : Addr), v = none ∧ Fr n0 L ∧ (Keep h0 h [a1]) ∧ (Exa Z h a1 "com/example/arcward/arcward/model/Instance") ∧ (Fld Z h a1 "com/example/arcward/arcward/model/Instance" "variables" "Ljava/util/List;" (.ref b)) ∧ (Fld Z h a1 "com/example/arcward/arcward/model/Instance" "constraints" "Ljava/util/List;" (.ref el)) ∧ (Exa Z h b "java/util/ImmutableCollections$List12") ∧ (Fld Z h b "java/util/ImmutableCollections$List12" "e0" "Ljava/lang/Object;" (.ref x0)) ∧ (Fld Z h b "java/util/ImmutableCollections$List12" "e1" "Ljava/lang/Object;" (.ref x1)) ∧ (n0 ≤ b) ∧ (h0.size ≤ b) ∧ (a1 ≠ b)
set_option maxRecDepth 65536 in
set_option maxHeartbeats 40000000 in
theorem rm11 (l : Launch) (Z : State) (a0 : Array Value) (hw : ∀ d ∈ tables_1, d.before a0 Z = true) (ws : List Jvm.Cond) (a1 : Addr) (a2 : Addr) (a3 : Addr) (mc : Int32) (me : Int32) (ed : Addr) (kd : ClassId) (x0 : Addr) (x1 : Addr) (de : Addr) (kde : ClassId) (el : Addr) (ea : Addr) (kea : ClassId) (em : Addr) (mr : Addr) (h0 : Heap) (n0 : Nat) (Z0 : n0 ≤ h0.size) (O1 : Old Z n0 h0) (G : own_H Z de kde el ea kea em mr) (F0 : Exa Z h0 a1 "com/example/arcward/arcward/model/Instance") (F1 : Fld Z h0 a1 "com/example/arcward/arcward/model/Instance" "variables" "Ljava/util/List;" .null) (F2 : Fld Z h0 a1 "com/example/arcward/arcward/model/Instance" "constraints" "Ljava/util/List;" .null) (g1 : n0 ≤ a1) (A0 : Exa Z h0 a2 "java/util/ArrayList") (A1 : Fld Z h0 a2 "java/util/AbstractList" "modCount" "I" (.int mc)) (A2 : Fld Z h0 a2 "java/util/ArrayList" "elementData" "[Ljava/lang/Object;" (.ref ed)) (A3 : Fld Z h0 a2 "java/util/ArrayList" "size" "I" (.int 2)) (D0 : Arv Z h0 ed kd (.object "java/lang/Object") (10 : Int32) [(.ref x0), (.ref x1), .null, .null, .null, .null, .null, .null, .null, .null] .null) (D1 : Exa Z h0 ed "[Ljava/lang/Object;") (D2 : Exa Z h0 x0 "com/example/arcward/arcward/model/Variable") (D3 : Exa Z h0 x1 "com/example/arcward/arcward/model/Variable") (D4 : Fld Z h0 x0 "com/example/arcward/arcward/model/Variable" "index" "I" (.int 0)) (D5 : Fld Z h0 x1 "com/example/arcward/arcward/model/Variable" "index" "I" (.int 1)) (E0 : Exa Z h0 a3 "java/util/ArrayList") (E1 : Fld Z h0 a3 "java/util/AbstractList" "modCount" "I" (.int me)) (E2 : Fld Z h0 a3 "java/util/ArrayList" "elementData" "[Ljava/lang/Object;" (.ref de)) (E3 : Fld Z h0 a3 "java/util/ArrayList" "size" "I" (.int 0)) (gx : n0 ≤ x1) (na2 : a1 ≠ a2) (na3 : a1 ≠ a3) (ned : a1 ≠ ed) (nx0 : a1 ≠ x0) (nx1 : a1 ≠ x1) :
  MetFree l oM0 (head1 (Jvm.Cond.code oM0 prog_11_method_1_code 7 none :: ws) ({ frames := 8, cells := 3, slots := 8, locals := 102 } : Room)) (fun a U => a = #[(.ref a1), (.ref a2), (.ref a3)] ∧ Z.Warmed39 U.vm ∧ U.heap = h0) (fun _ _ _ _ _ => True) (fun _ U o U' => ∃ v L, o = .returned v ∧ Q11 Z a1 a2 a3 mc me ed kd x0 x1 de kde el ea kea em mr h0 n0 v U'.heap L ∧ FrameEnd U o U' L ({ frames := 8, cells := 3, slots := 8, locals := 102 } : Room).cells ({ frames := 8, cells := 3, slots := 8, locals := 102 } : Room).slots) := by
 refine MetFree.of_bodySF pn11 hisR ?_
 intro p e s m args below meth c s₁ Bd hml0 hP hK
 obtain ⟨rfl, hZ, hh⟩ := hP
 have hx := Bd.exec
 have hby := Bd.bytes
 have hml : c.maxLocals = 7 := hml0
 have hown : s.vm.findClass "com/example/arcward/arcward/model/Instance" = some m.cls := findClass_of_methodNamed Bd.named
 have hnm := (name_of_methodNamed Bd.named Bd.method).1
 have X0 : Stand p l e ({ frames := 8, cells := 3, slots := 8, locals := 102 } : Room) s m #[(.ref a1), (.ref a2), (.ref a3)] below meth c s₁ [] 0 0 := Stand.of_body Bd
 have e0 : s₁.heap = h0 := by rw [← hh, Bd.state]; rfl
 have N0 := Fr.nil n0
 have p0 : GF p e below (s₁.setTop (entryFrame m #[(.ref a1), (.ref a2), (.ref a3)] 7)) s₁ m 0 (oLR3u4 a1 a2 a3) [] := fun t_ k_ => castTop (ef_rm11 m a1 a2 a3 mc me ed kd x0 x1 de kde el ea kea em mr) k_
 have p101 : GF p e below _ s₁ m 1 (oLR3u4 a1 a2 a3) [(.ref a1)] := fun t_ k_ => p0 t_ (by
  refine XS.aloadN X0.here hx rfl (hb hby d11_0) rfl rfl ?_
  exact k_)
 obtain ⟨T102, X102, e102, st102⟩ := initO X0 hx hZ hown (own_w hw 98 rfl) (own_w hw 20 rfl) (own_w hw 21 rfl) e0 (g := (mkF m 1 (oLR3u4 a1 a2 a3) [(.ref a1)])) rfl (by rw [hml]; rfl) rfl (hb hby d11_1) (by decide) (W := 0) (by show 2 * 0 + _ ≤ _; exact Nat.le_of_eq rfl) (by decide)
 have p103 : GF p e below _ T102 m 6 (oLR3u4 a1 a2 a3) [(.ref a2), (.ref a1)] := fun t_ k_ => (gc p101 st102) t_ (by
  refine XS.aloadN X102.here hx rfl (hb hby d11_4) rfl rfl ?_
  refine XS.aloadN X102.here hx rfl (hb hby d11_5) rfl rfl ?_
  exact k_)
 obtain ⟨_, _, ⟨T104, L104, k104, n104⟩, -, X104, ⟨Lc104, hQ104, l104, y104, z104⟩, st104⟩ := Jvm.LawKit.callS X102 hx (y := oM38) hown (mvT hZ (own_w hw 99 rfl)) (mvT hZ (own_w hw 100 rfl)) (mvT hZ (own_w hw 101 rfl)) (mvT hZ (own_w hw 102 rfl)) (by decide) (backOf (W := 1) (rm12_2 l Z a0 hw [] a2 mc ed kd x0 x1 de kde el ea kea em mr h0 n0 (Nat.le_trans Z0 (Keep.refl h0 [a1]).1) O1 G A0 A1 A2 A3 D0 D1 D2 D3) hZ (own_w hw 102 rfl) (own_w hw 101 rfl) (by decide) (by decide)) (g := (mkF m 6 (oLR3u4 a1 a2 a3) [(.ref a2), (.ref a1)])) rfl (by rw [hml]; rfl) (argsL := [(.ref a2)]) (rest := [(.ref a1)]) (lenOf pd11 rfl) rfl (by show 2 * 0 + _ ≤ _; exact Nat.le_of_eq rfl) (hb hby d11_6) (fun _ _ => ⟨rfl, e102, (by decide : 0 + 2 ≤ _), (by decide : 0 + 4 ≤ _)⟩)
 dsimp only [Pt.U, Pt.locs, Pt.cells, Pt.slots] at X104 l104 y104 z104 st104 hQ104
 subst l104 y104 z104
 obtain ⟨x105, rfl, N104q, q104_K, q104_F0, q104_F1, q104_F2, q104_g, q104_z⟩ := hQ104
 have N104 := Fr.app N0 N104q
 have K106 : Keep h0 T104.heap [a1] := (Keep.refl h0 [a1]).trans q104_K all0
 have ne_a1_x105 : a1 ≠ x105 := Nat.ne_of_lt (Nat.lt_of_lt_of_le F0.lt q104_z)
 have ne_a2_x105 : a2 ≠ x105 := Nat.ne_of_lt (Nat.lt_of_lt_of_le A0.lt q104_z)
 have ne_ed_x105 : ed ≠ x105 := Nat.ne_of_lt (Nat.lt_of_lt_of_le D0.lt q104_z)
 have ne_x0_x105 : x0 ≠ x105 := Nat.ne_of_lt (Nat.lt_of_lt_of_le D2.lt q104_z)
 have ne_x1_x105 : x1 ≠ x105 := Nat.ne_of_lt (Nat.lt_of_lt_of_le D3.lt q104_z)
 have ne_a3_x105 : a3 ≠ x105 := Nat.ne_of_lt (Nat.lt_of_lt_of_le E0.lt q104_z)
 have f107 := (F1.keep q104_K nin0)
 have f108 := (F0.keep q104_K)
 obtain ⟨T109, h109, X109, e109, W109, st109⟩ := putF X104 hx hZ hown (host := "") (Or.inl (own_w hw 184 rfl)) Via.refl rfl f107 f108 (Or.inr ⟨(own_w hw 185 rfl), rfl, hnm⟩) (own_w hw 93 rfl) (ty := (.object "java/util/List")) (by decide) rfl rfl (g := (mkF m 9 (oLR3u4 a1 a2 a3) [(.ref x105), (.ref a1)])) rfl rfl (hb hby d11_9)
 have K110 : Keep h0 h109 [a1] := K106.wr W109 (Or.inl (List.mem_of_getElem? (i := 0) rfl))
 have N109 := Fr.snoc X109 N104 g1
 have F109 : Fld Z h109 a1 "com/example/arcward/arcward/model/Instance" "variables" "Ljava/util/List;" (.ref x105) := f107.same W109
 have p111 : GF p e below _ T109 m 14 (oLR3u4 a1 a2 a3) [(.ref a3), (.ref a1)] := fun t_ k_ => (gc (gc p103 st104) st109) t_ (by
  refine XS.aloadN X109.here hx rfl (hb hby d11_12) rfl rfl ?_
  refine XS.aloadN X109.here hx rfl (hb hby d11_13) rfl rfl ?_
  exact k_)
 have f112 := ((O1.keep q104_K all0).wr W109 g1)
 have f113 := ((E0.keep q104_K).wr W109)
 have f114 := ((E1.keep q104_K nin0).other W109 (Or.inl (Ne.symm na3)))
 have f115 := ((E2.keep q104_K nin0).other W109 (Or.inl (Ne.symm na3)))
 have f116 := ((E3.keep q104_K nin0).other W109 (Or.inl (Ne.symm na3)))
 obtain ⟨_, _, ⟨T117, L117, k117, n117⟩, -, X117, ⟨Lc117, hQ117, l117, y117, z117⟩, st117⟩ := Jvm.LawKit.callS X109 hx (y := oM38) hown (mvT hZ (own_w hw 99 rfl)) (mvT hZ (own_w hw 100 rfl)) (mvT hZ (own_w hw 101 rfl)) (mvT hZ (own_w hw 102 rfl)) (by decide) (backOf (W := 1) (rm12_0 l Z a0 hw [] a3 me de kde el ea kea em mr h109 n0 (Nat.le_trans Z0 K110.1) f112 G f113 f114 f115 f116) hZ (own_w hw 102 rfl) (own_w hw 101 rfl) (by decide) (by decide)) (g := (mkF m 14 (oLR3u4 a1 a2 a3) [(.ref a3), (.ref a1)])) rfl (by rw [hml]; rfl) (argsL := [(.ref a3)]) (rest := [(.ref a1)]) (lenOf pd11 rfl) rfl (by show 2 * 0 + _ ≤ _; exact Nat.le_of_eq rfl) (hb hby d11_14) (fun _ _ => ⟨rfl, e109, (by decide : 2 + 0 ≤ _), (by decide : 4 + 0 ≤ _)⟩)
 dsimp only [Pt.U, Pt.locs, Pt.cells, Pt.slots] at X117 l117 y117 z117 st117 hQ117
 subst l117 y117 z117
 obtain ⟨rfl, N117q, q117_hh⟩ := hQ117
 have N117 := Fr.app N109 N117q
 have f118 := ((F2.keep q104_K nin0).other W109 (Or.inr (slot_ne (Or.inr (own_w hw 191 rfl)) (Or.inr (own_w hw 185 rfl)) (by decide) (t := (.object "java/util/List")) (t' := (.object "java/util/List")) (by decide) (by decide))))
 have f119 := (f108.wr W109)
 obtain ⟨T120, h120, X120, e120, W120, st120⟩ := putF X117 hx hZ hown (host := "") (Or.inl (own_w hw 190 rfl)) Via.refl q117_hh f118 f119 (Or.inr ⟨(own_w hw 191 rfl), rfl, hnm⟩) (own_w hw 93 rfl) (ty := (.object "java/util/List")) (by decide) rfl rfl (g := (mkF m 17 (oLR3u4 a1 a2 a3) [(.ref el), (.ref a1)])) rfl rfl (hb hby d11_17)
 have K121 : Keep h0 h120 [a1] := K110.wr W120 (Or.inl (List.mem_of_getElem? (i := 0) rfl))
 have N120 := Fr.snoc X120 N117 g1
 have F120 : Fld Z h120 a1 "com/example/arcward/arcward/model/Instance" "constraints" "Ljava/util/List;" (.ref el) := f118.same W120
 have p122 : GF p e below _ T120 m 24 (oLR3Iu3 a1 a2 a3 0) [(.ref a1), (.int 0)] := fun t_ k_ => (gc (gc p111 st117) st120) t_ (by
  refine XS.iconst X120.here hx rfl (hb hby d11_20) ?_
  refine XS.istoreN X120.here hx rfl (hb hby d11_21) rfl (l' := (oLR3Iu3 a1 a2 a3 0)) rfl ?_
  refine XS.iloadN X120.here hx rfl (hb hby d11_22) rfl ?_
  refine XS.aloadN X120.here hx rfl (hb hby d11_23) rfl rfl ?_
  exact k_)
 have f123 := (F109.other W120 (Or.inr (slot_ne (Or.inr (own_w hw 185 rfl)) (Or.inr (own_w hw 191 rfl)) (by decide) (t := (.object "java/util/List")) (t' := (.object "java/util/List")) (by decide) (by decide))))
 obtain ⟨T124, X124, e124, st124⟩ := getF X120 hx hZ hown (host := "") (Or.inl (own_w hw 184 rfl)) Via.refl e120 f123 (g := (mkF m 24 (oLR3Iu3 a1 a2 a3 0) [(.ref a1), (.int 0)])) rfl rfl (hb hby d11_24)
 have f125 := (f112.wr W120 g1)
 have f126 := ((q104_F0.wr W109).wr W120)
 have f127 := ((q104_F1.other W109 (Or.inl (Ne.symm ne_a1_x105))).other W120 (Or.inl (Ne.symm ne_a1_x105)))
 have f128 := ((q104_F2.other W109 (Or.inl (Ne.symm ne_a1_x105))).other W120 (Or.inl (Ne.symm ne_a1_x105)))
 obtain ⟨cq129, kq129, q129a, q129b, q129c⟩ := isOf hZ e124 f126
 obtain ⟨_, _, ⟨T129, L129, k129, n129⟩, -, X129, ⟨Lc129, hQ129, l129, y129, z129⟩, st129⟩ := X124.interfaceBack hx (xi := oM42) (y := oM34) hown (mvT hZ (own_w hw 192 rfl)) (mvT hZ (own_w hw 193 rfl)) (mvT hZ (own_w hw 194 rfl)) (mvT hZ (own_w hw 195 rfl)) (mvT hZ (own_w hw 196 rfl)) (mvT hZ (own_w hw 197 rfl)) (mvT hZ (own_w hw 198 rfl)) (mvT hZ (own_w hw 199 rfl)) (by decide) (backOf (W := 1) (rm25 l Z a0 hw [] x105 x0 x1 de kde el ea kea em mr h120 n0 (Nat.le_trans Z0 K121.1) f125 G f126 f127 f128 gx) hZ (own_w hw 200 rfl) (own_w hw 157 rfl) (by decide) (by decide)) q129a q129b q129c (g := (mkF m 27 (oLR3Iu3 a1 a2 a3 0) [(.ref x105), (.int 0)])) rfl (by rw [hml]; rfl) (Steps.refl _) (argsL := []) (rest := [(.int 0)]) (lenOf pd13 rfl) rfl (by show 2 * 0 + _ ≤ _; exact Nat.le_of_eq rfl) (hb hby d11_27) (fun _ _ => ⟨rfl, e124, (by decide : 2 + 0 ≤ _), (by decide : 4 + 0 ≤ _)⟩)
 dsimp only [Pt.U, Pt.locs, Pt.cells, Pt.slots] at X129 l129 y129 z129 st129 hQ129
 subst l129 y129 z129
 obtain ⟨rfl, N129q, q129_hh⟩ := hQ129
 have N129 := Fr.app N120 N129q
 have p130 : GF p e below _ T129 m 36 (oLR3Iu3 a1 a2 a3 0) [(.ref a1)] := fun t_ k_ => (gcT (gc p122 st124) st129) t_ (by
  refine XS.icmpNo X129.here hx rfl (hb hby d11_32) rfl (tlt (by decide : ((0 : Int32) < (2 : Int32)))).2.1 ?_
  refine XS.aloadN X129.here hx rfl (hb hby d11_35) rfl rfl ?_
  exact k_)
 obtain ⟨T131, X131, e131, st131⟩ := getF X129 hx hZ hown (host := "") (Or.inl (own_w hw 184 rfl)) Via.refl q129_hh f123 (g := (mkF m 36 (oLR3Iu3 a1 a2 a3 0) [(.ref a1)])) rfl rfl (hb hby d11_36)
 have p132 : GF p e below _ T131 m 40 (oLR3Iu3 a1 a2 a3 0) [(.int 0), (.ref x105)] := fun t_ k_ => (gc p130 st131) t_ (by
  refine XS.iloadN X131.here hx rfl (hb hby d11_39) rfl ?_
  exact k_)
 obtain ⟨cq133, kq133, q133a, q133b, q133c⟩ := isOf hZ e131 f126
 obtain ⟨_, _, ⟨T133, L133, k133, n133⟩, -, X133, ⟨Lc133, hQ133, l133, y133, z133⟩, st133⟩ := X131.interfaceBack hx (xi := oM39) (y := oM33) hown (mvT hZ (own_w hw 202 rfl)) (mvT hZ (own_w hw 203 rfl)) (mvT hZ (own_w hw 204 rfl)) (mvT hZ (own_w hw 205 rfl)) (mvT hZ (own_w hw 206 rfl)) (mvT hZ (own_w hw 207 rfl)) (mvT hZ (own_w hw 208 rfl)) (mvT hZ (own_w hw 199 rfl)) (by decide) (backOf (W := 0) (rm26_0 l Z a0 hw [] x105 x0 x1 de kde el ea kea em mr h120 n0 (Nat.le_trans Z0 K121.1) f125 G f126 f127 f128 gx) hZ (own_w hw 209 rfl) (own_w hw 157 rfl) (by decide) (by decide)) q133a q133b q133c (g := (mkF m 40 (oLR3Iu3 a1 a2 a3 0) [(.int 0), (.ref x105)])) rfl (by rw [hml]; rfl) (Steps.refl _) (argsL := [(.int 0)]) (rest := []) (lenOf pd15 rfl) rfl (by show 2 * 0 + _ ≤ _; exact Nat.le_of_eq rfl) (hb hby d11_40) (fun _ _ => ⟨rfl, e131, (by decide : 2 + 0 ≤ _), (by decide : 4 + 0 ≤ _)⟩)
 dsimp only [Pt.U, Pt.locs, Pt.cells, Pt.slots] at X133 l133 y133 z133 st133 hQ133
 subst l133 y133 z133
 obtain ⟨rfl, N133q, q133_hh⟩ := hQ133
 have N133 := Fr.app N129 N133q
 have f134 := (((D2.keep q104_K).wr W109).wr W120)
 obtain ⟨T135, X135, e135, st135⟩ := castY X133 hx hZ hown (own_w hw 210 rfl) q133_hh (Ins.self f134) (g := (mkF m 45 (oLR3Iu3 a1 a2 a3 0) [(.ref x0)])) rfl rfl (hb hby d11_45)
 have f136 := (((D4.keep q104_K nin0).other W109 (Or.inl (Ne.symm nx0))).other W120 (Or.inl (Ne.symm nx0)))
 obtain ⟨cq137, kq137, q137a, q137b, q137c⟩ := isOf hZ e135 f134
 obtain ⟨_, _, ⟨T137, L137, k137, n137⟩, -, X137, ⟨Lc137, hQ137, l137, y137, z137⟩, st137⟩ := X135.virtualBack hx (y := oM3) (z := oM3) hown (mvT hZ (own_w hw 212 rfl)) (mvT hZ (own_w hw 213 rfl)) (notFace_of_selects (args := #[]) (mvT hZ (own_w hw 215 rfl))) (mvT hZ (own_w hw 215 rfl)) (mvT hZ (own_w hw 214 rfl)) (by decide) (backOf (W := 0) (rm27 l Z a0 hw [] x0 (0 : Int32) h120 n0 (Nat.le_trans Z0 K121.1) f136) hZ (own_w hw 216 rfl) (own_w hw 29 rfl) (by decide) (by decide)) q137a q137c (g := (mkF m 48 (oLR3Iu3 a1 a2 a3 0) [(.ref x0)])) rfl (by rw [hml]; rfl) (Steps.refl _) (argsL := []) (rest := []) (lenOf pd13 rfl) rfl (by show 2 * 0 + _ ≤ _; exact Nat.le_of_eq rfl) (hb hby d11_48) (fun _ _ => ⟨rfl, e135, (by decide : 2 + 0 ≤ _), (by decide : 4 + 0 ≤ _)⟩)
 dsimp only [Pt.U, Pt.locs, Pt.cells, Pt.slots] at X137 l137 y137 z137 st137 hQ137
 subst l137 y137 z137
 obtain ⟨rfl, N137q, q137_hh⟩ := hQ137
 have N137 := Fr.app N133 N137q
 have p138 : GF p e below _ T137 m 24 (oLR3Iu3 a1 a2 a3 1) [(.ref a1), (.int 1)] := fun t_ k_ => (gcT (gc (gcT p132 st133) st135) st137) t_ (by
  refine XS.iloadN X137.here hx rfl (hb hby d11_51) rfl ?_
  refine XS.icmpYes X137.here hx rfl (pc0 := 52) (pc' := 98) rfl (hb hby d11_52) rfl (teq (by decide : ((0 : Int32) = (0 : Int32)))).1 (by decide) (by decide) ?_
  refine XS.iinc X137.here hx rfl (hb hby d11_98) rfl (l' := (oLR3Iu3 a1 a2 a3 1)) rfl ?_
  refine XS.goto X137.here hx rfl (pc0 := 101) (pc' := 22) rfl (hb hby d11_101) (by decide) (by decide) ?_
  refine XS.iloadN X137.here hx rfl (hb hby d11_22) rfl ?_
  refine XS.aloadN X137.here hx rfl (hb hby d11_23) rfl rfl ?_
  exact k_)
 obtain ⟨T139, X139, e139, st139⟩ := getF X137 hx hZ hown (host := "") (Or.inl (own_w hw 184 rfl)) Via.refl q137_hh f123 (g := (mkF m 24 (oLR3Iu3 a1 a2 a3 1) [(.ref a1), (.int 1)])) rfl rfl (hb hby d11_24)
 obtain ⟨cq140, kq140, q140a, q140b, q140c⟩ := isOf hZ e139 f126
 obtain ⟨_, _, ⟨T140, L140, k140, n140⟩, -, X140, ⟨Lc140, hQ140, l140, y140, z140⟩, st140⟩ := X139.interfaceBack hx (xi := oM42) (y := oM34) hown (mvT hZ (own_w hw 192 rfl)) (mvT hZ (own_w hw 193 rfl)) (mvT hZ (own_w hw 194 rfl)) (mvT hZ (own_w hw 195 rfl)) (mvT hZ (own_w hw 196 rfl)) (mvT hZ (own_w hw 197 rfl)) (mvT hZ (own_w hw 198 rfl)) (mvT hZ (own_w hw 199 rfl)) (by decide) (backOf (W := 1) (rm25 l Z a0 hw [] x105 x0 x1 de kde el ea kea em mr h120 n0 (Nat.le_trans Z0 K121.1) f125 G f126 f127 f128 gx) hZ (own_w hw 200 rfl) (own_w hw 157 rfl) (by decide) (by decide)) q140a q140b q140c (g := (mkF m 27 (oLR3Iu3 a1 a2 a3 1) [(.ref x105), (.int 1)])) rfl (by rw [hml]; rfl) (Steps.refl _) (argsL := []) (rest := [(.int 1)]) (lenOf pd13 rfl) rfl (by show 2 * 0 + _ ≤ _; exact Nat.le_of_eq rfl) (hb hby d11_27) (fun _ _ => ⟨rfl, e139, (by decide : 2 + 0 ≤ _), (by decide : 4 + 0 ≤ _)⟩)
 dsimp only [Pt.U, Pt.locs, Pt.cells, Pt.slots] at X140 l140 y140 z140 st140 hQ140
 subst l140 y140 z140
 obtain ⟨rfl, N140q, q140_hh⟩ := hQ140
 have N140 := Fr.app N137 N140q
 have p141 : GF p e below _ T140 m 36 (oLR3Iu3 a1 a2 a3 1) [(.ref a1)] := fun t_ k_ => (gcT (gc p138 st139) st140) t_ (by
  refine XS.icmpNo X140.here hx rfl (hb hby d11_32) rfl (tlt (by decide : ((1 : Int32) < (2 : Int32)))).2.1 ?_
  refine XS.aloadN X140.here hx rfl (hb hby d11_35) rfl rfl ?_
  exact k_)
 obtain ⟨T142, X142, e142, st142⟩ := getF X140 hx hZ hown (host := "") (Or.inl (own_w hw 184 rfl)) Via.refl q140_hh f123 (g := (mkF m 36 (oLR3Iu3 a1 a2 a3 1) [(.ref a1)])) rfl rfl (hb hby d11_36)
 have p143 : GF p e below _ T142 m 40 (oLR3Iu3 a1 a2 a3 1) [(.int 1), (.ref x105)] := fun t_ k_ => (gc p141 st142) t_ (by
  refine XS.iloadN X142.here hx rfl (hb hby d11_39) rfl ?_
  exact k_)
 obtain ⟨cq144, kq144, q144a, q144b, q144c⟩ := isOf hZ e142 f126
 obtain ⟨_, _, ⟨T144, L144, k144, n144⟩, -, X144, ⟨Lc144, hQ144, l144, y144, z144⟩, st144⟩ := X142.interfaceBack hx (xi := oM39) (y := oM33) hown (mvT hZ (own_w hw 202 rfl)) (mvT hZ (own_w hw 203 rfl)) (mvT hZ (own_w hw 204 rfl)) (mvT hZ (own_w hw 205 rfl)) (mvT hZ (own_w hw 206 rfl)) (mvT hZ (own_w hw 207 rfl)) (mvT hZ (own_w hw 208 rfl)) (mvT hZ (own_w hw 199 rfl)) (by decide) (backOf (W := 0) (rm26_1 l Z a0 hw [] x105 x0 x1 de kde el ea kea em mr h120 n0 (Nat.le_trans Z0 K121.1) f125 G f126 f127 f128 gx) hZ (own_w hw 209 rfl) (own_w hw 157 rfl) (by decide) (by decide)) q144a q144b q144c (g := (mkF m 40 (oLR3Iu3 a1 a2 a3 1) [(.int 1), (.ref x105)])) rfl (by rw [hml]; rfl) (Steps.refl _) (argsL := [(.int 1)]) (rest := []) (lenOf pd15 rfl) rfl (by show 2 * 0 + _ ≤ _; exact Nat.le_of_eq rfl) (hb hby d11_40) (fun _ _ => ⟨rfl, e142, (by decide : 2 + 0 ≤ _), (by decide : 4 + 0 ≤ _)⟩)
 dsimp only [Pt.U, Pt.locs, Pt.cells, Pt.slots] at X144 l144 y144 z144 st144 hQ144
 subst l144 y144 z144
 obtain ⟨rfl, N144q, q144_hh⟩ := hQ144
 have N144 := Fr.app N140 N144q
 have f145 := (((D3.keep q104_K).wr W109).wr W120)
 obtain ⟨T146, X146, e146, st146⟩ := castY X144 hx hZ hown (own_w hw 210 rfl) q144_hh (Ins.self f145) (g := (mkF m 45 (oLR3Iu3 a1 a2 a3 1) [(.ref x1)])) rfl rfl (hb hby d11_45)
 have f147 := (((D5.keep q104_K nin0).other W109 (Or.inl (Ne.symm nx1))).other W120 (Or.inl (Ne.symm nx1)))
 obtain ⟨cq148, kq148, q148a, q148b, q148c⟩ := isOf hZ e146 f145
 obtain ⟨_, _, ⟨T148, L148, k148, n148⟩, -, X148, ⟨Lc148, hQ148, l148, y148, z148⟩, st148⟩ := X146.virtualBack hx (y := oM3) (z := oM3) hown (mvT hZ (own_w hw 212 rfl)) (mvT hZ (own_w hw 213 rfl)) (notFace_of_selects (args := #[]) (mvT hZ (own_w hw 215 rfl))) (mvT hZ (own_w hw 215 rfl)) (mvT hZ (own_w hw 214 rfl)) (by decide) (backOf (W := 0) (rm27 l Z a0 hw [] x1 (1 : Int32) h120 n0 (Nat.le_trans Z0 K121.1) f147) hZ (own_w hw 216 rfl) (own_w hw 29 rfl) (by decide) (by decide)) q148a q148c (g := (mkF m 48 (oLR3Iu3 a1 a2 a3 1) [(.ref x1)])) rfl (by rw [hml]; rfl) (Steps.refl _) (argsL := []) (rest := []) (lenOf pd13 rfl) rfl (by show 2 * 0 + _ ≤ _; exact Nat.le_of_eq rfl) (hb hby d11_48) (fun _ _ => ⟨rfl, e146, (by decide : 2 + 0 ≤ _), (by decide : 4 + 0 ≤ _)⟩)
 dsimp only [Pt.U, Pt.locs, Pt.cells, Pt.slots] at X148 l148 y148 z148 st148 hQ148
 subst l148 y148 z148
 obtain ⟨rfl, N148q, q148_hh⟩ := hQ148
 have N148 := Fr.app N144 N148q
 have p149 : GF p e below _ T148 m 24 (oLR3Iu3 a1 a2 a3 2) [(.ref a1), (.int 2)] := fun t_ k_ => (gcT (gc (gcT p143 st144) st146) st148) t_ (by
  refine XS.iloadN X148.here hx rfl (hb hby d11_51) rfl ?_
  refine XS.icmpYes X148.here hx rfl (pc0 := 52) (pc' := 98) rfl (hb hby d11_52) rfl (teq (by decide : ((1 : Int32) = (1 : Int32)))).1 (by decide) (by decide) ?_
  refine XS.iinc X148.here hx rfl (hb hby d11_98) rfl (l' := (oLR3Iu3 a1 a2 a3 2)) rfl ?_
  refine XS.goto X148.here hx rfl (pc0 := 101) (pc' := 22) rfl (hb hby d11_101) (by decide) (by decide) ?_
  refine XS.iloadN X148.here hx rfl (hb hby d11_22) rfl ?_
  refine XS.aloadN X148.here hx rfl (hb hby d11_23) rfl rfl ?_
  exact k_)
 obtain ⟨T150, X150, e150, st150⟩ := getF X148 hx hZ hown (host := "") (Or.inl (own_w hw 184 rfl)) Via.refl q148_hh f123 (g := (mkF m 24 (oLR3Iu3 a1 a2 a3 2) [(.ref a1), (.int 2)])) rfl rfl (hb hby d11_24)
 obtain ⟨cq151, kq151, q151a, q151b, q151c⟩ := isOf hZ e150 f126
 obtain ⟨_, _, ⟨T151, L151, k151, n151⟩, -, X151, ⟨Lc151, hQ151, l151, y151, z151⟩, st151⟩ := X150.interfaceBack hx (xi := oM42) (y := oM34) hown (mvT hZ (own_w hw 192 rfl)) (mvT hZ (own_w hw 193 rfl)) (mvT hZ (own_w hw 194 rfl)) (mvT hZ (own_w hw 195 rfl)) (mvT hZ (own_w hw 196 rfl)) (mvT hZ (own_w hw 197 rfl)) (mvT hZ (own_w hw 198 rfl)) (mvT hZ (own_w hw 199 rfl)) (by decide) (backOf (W := 1) (rm25 l Z a0 hw [] x105 x0 x1 de kde el ea kea em mr h120 n0 (Nat.le_trans Z0 K121.1) f125 G f126 f127 f128 gx) hZ (own_w hw 200 rfl) (own_w hw 157 rfl) (by decide) (by decide)) q151a q151b q151c (g := (mkF m 27 (oLR3Iu3 a1 a2 a3 2) [(.ref x105), (.int 2)])) rfl (by rw [hml]; rfl) (Steps.refl _) (argsL := []) (rest := [(.int 2)]) (lenOf pd13 rfl) rfl (by show 2 * 0 + _ ≤ _; exact Nat.le_of_eq rfl) (hb hby d11_27) (fun _ _ => ⟨rfl, e150, (by decide : 2 + 0 ≤ _), (by decide : 4 + 0 ≤ _)⟩)
 dsimp only [Pt.U, Pt.locs, Pt.cells, Pt.slots] at X151 l151 y151 z151 st151 hQ151
 subst l151 y151 z151
 obtain ⟨rfl, N151q, q151_hh⟩ := hQ151
 have N151 := Fr.app N148 N151q
 have p152 : GF p e below _ T151 m 105 (oLR3Iu3 a1 a2 a3 2) [(.ref a1)] := fun t_ k_ => (gcT (gc p149 st150) st151) t_ (by
  refine XS.icmpYes X151.here hx rfl (pc0 := 32) (pc' := 104) rfl (hb hby d11_32) rfl (flt (by decide : ¬ ((2 : Int32) < (2 : Int32)))).2.1 (by decide) (by decide) ?_
  refine XS.aloadN X151.here hx rfl (hb hby d11_104) rfl rfl ?_
  exact k_)
 obtain ⟨T153, X153, e153, st153⟩ := getF X151 hx hZ hown (host := "") (Or.inl (own_w hw 190 rfl)) Via.refl q151_hh F120 (g := (mkF m 105 (oLR3Iu3 a1 a2 a3 2) [(.ref a1)])) rfl rfl (hb hby d11_105)
 have f154 := (f119.wr W120)
 have f155 := (((A0.keep q104_K).wr W109).wr W120)
 have f156 := (((D0.keep q104_K nin0).other W109 (Ne.symm ned)).other W120 (Ne.symm ned))
 have f157 := (((D1.keep q104_K).wr W109).wr W120)
 have f158 := (f113.wr W120)
 obtain ⟨cq159, kq159, q159a, q159b, q159c⟩ := isOf hZ e153 (G.2.2.2.2.1.ext f125.2)
 obtain ⟨_, _, ⟨T159, L159, k159, n159⟩, -, X159, ⟨Lc159, hQ159, l159, y159, z159⟩, st159⟩ := X153.interfaceBack hx (xi := (⟨"java/util/List", "iterator", "()Ljava/util/Iterator;"⟩ : MethodName)) (y := oM31) hown (mvT hZ (own_w hw 217 rfl)) (mvT hZ (own_w hw 218 rfl)) (mvT hZ (own_w hw 219 rfl)) (mvT hZ (own_w hw 220 rfl)) (mvT hZ (own_w hw 221 rfl)) (mvT hZ (own_w hw 222 rfl)) (mvT hZ (own_w hw 223 rfl)) (mvT hZ (own_w hw 224 rfl)) (by decide) (backOf (W := 0) (rm28 l Z a0 hw [] de kde el ea kea em mr h120 n0 (Nat.le_trans Z0 K121.1) f125 G) hZ (own_w hw 225 rfl) (own_w hw 166 rfl) (by decide) (by decide)) q159a q159b q159c (g := (mkF m 108 (oLR3Iu3 a1 a2 a3 2) [(.ref el)])) rfl (by rw [hml]; rfl) (Steps.refl _) (argsL := []) (rest := []) (lenOf pd16 rfl) rfl (by show 2 * 0 + _ ≤ _; exact Nat.le_of_eq rfl) (hb hby d11_108) (fun _ _ => ⟨rfl, e153, (by decide : 2 + 1 ≤ _), (by decide : 4 + 4 ≤ _)⟩)
 dsimp only [Pt.U, Pt.locs, Pt.cells, Pt.slots] at X159 l159 y159 z159 st159 hQ159
 subst l159 y159 z159
 obtain ⟨x160, rfl, N159q, q159_K, q159_F0, q159_F1, q159_F2, q159_F3, q159_F4, q159_g, q159_z⟩ := hQ159
 have N159 := Fr.app N151 N159q
 have K161 : Keep h0 T159.heap [a1] := K121.trans q159_K all0
 have ne_a1_x160 : a1 ≠ x160 := Nat.ne_of_lt (Nat.lt_of_lt_of_le f154.lt q159_z)
 have ne_a2_x160 : a2 ≠ x160 := Nat.ne_of_lt (Nat.lt_of_lt_of_le f155.lt q159_z)
 have ne_ed_x160 : ed ≠ x160 := Nat.ne_of_lt (Nat.lt_of_lt_of_le f156.lt q159_z)
 have ne_x0_x160 : x0 ≠ x160 := Nat.ne_of_lt (Nat.lt_of_lt_of_le f134.lt q159_z)
 have ne_x1_x160 : x1 ≠ x160 := Nat.ne_of_lt (Nat.lt_of_lt_of_le f145.lt q159_z)
 have ne_a3_x160 : a3 ≠ x160 := Nat.ne_of_lt (Nat.lt_of_lt_of_le f158.lt q159_z)
 have ne_x105_x160 : x105 ≠ x160 := Nat.ne_of_lt (Nat.lt_of_lt_of_le f126.lt q159_z)
 have p162 : GF p e below _ T159 m 115 (oLR4u3 a1 a2 a3 x160) [(.ref x160)] := fun t_ k_ => (gcT (gc p152 st153) st159) t_ (by
  refine XS.astoreN X159.here hx rfl (hb hby d11_113) rfl rfl (l' := (oLR4u3 a1 a2 a3 x160)) rfl ?_
  refine XS.aloadN X159.here hx rfl (hb hby d11_114) rfl rfl ?_
  exact k_)
 obtain ⟨cq163, kq163, q163a, q163b, q163c⟩ := isOf hZ rfl q159_F0
 obtain ⟨_, _, ⟨T163, L163, k163, n163⟩, -, X163, ⟨Lc163, hQ163, l163, y163, z163⟩, st163⟩ := X159.interfaceBack hx (xi := (⟨"java/util/Iterator", "hasNext", "()Z"⟩ : MethodName)) (y := oM36) hown (mvT hZ (own_w hw 251 rfl)) (mvT hZ (own_w hw 252 rfl)) (mvT hZ (own_w hw 253 rfl)) (mvT hZ (own_w hw 254 rfl)) (mvT hZ (own_w hw 255 rfl)) (mvT hZ (own_w hw 256 rfl)) (mvT hZ (own_w hw 257 rfl)) (mvT hZ (own_w hw 258 rfl)) (by decide) (backOf (W := 0) (rm31 l Z a0 hw [] x160 T159.heap n0 (Nat.le_trans Z0 K161.1) q159_F2 q159_F3) hZ (own_w hw 259 rfl) (own_w hw 228 rfl) (by decide) (by decide)) q163a q163b q163c (g := (mkF m 115 (oLR4u3 a1 a2 a3 x160) [(.ref x160)])) rfl (by rw [hml]; rfl) (Steps.refl _) (argsL := []) (rest := []) (lenOf pd9 rfl) rfl (by show 2 * 0 + _ ≤ _; exact Nat.le_of_eq rfl) (hb hby d11_115) (fun _ _ => ⟨rfl, rfl, (by decide : 3 + 0 ≤ _), (by decide : 8 + 0 ≤ _)⟩)
 dsimp only [Pt.U, Pt.locs, Pt.cells, Pt.slots] at X163 l163 y163 z163 st163 hQ163
 subst l163 y163 z163
 obtain ⟨rfl, N163q, q163_hh⟩ := hQ163
 have N163 := Fr.app N159 N163q
 have p164 : GF p e below _ T163 m 219 (oLR4u3 a1 a2 a3 x160) [] := fun t_ k_ => (gcT p162 st163) t_ (by
  refine XS.ifYes X163.here hx rfl (pc0 := 120) (pc' := 219) rfl (hb hby d11_120) rfl ((if0 _ _).trans (teq (by decide : ((0 : Int32) = (0 : Int32)))).1) (by decide) (by decide) ?_
  exact k_)
 have f165 := (f154.keep q159_K)
 have f166 := (f123.keep q159_K nin0)
 have f167 := (F120.keep q159_K nin0)
 have f168 := (f126.keep q159_K)
 have f169 := (f127.keep q159_K nin0)
 have f170 := (f128.keep q159_K nin0)
 obtain ⟨fs, hr, hrun, hended, hW, hsame⟩ := X163.leave (v := none) (fun _ => rfl)
 refine ⟨_, _, p164 _ (X163.returnOut hx Bd.returns (hb hby d11_219) hr), hrun, hended, _, _, rfl, ?_, ⟨_, rfl⟩, hW, hsame.mono (by decide) (by decide)⟩
 show Q11 Z a1 a2 a3 mc me ed kd x0 x1 de kde el ea kea em mr h0 n0 _ T163.heap _
 rw [q163_hh]
 exact ⟨x105, rfl, N163, K161, f165, f166, f167, f168, f169, f170, q104_g, (Nat.le_trans (Keep.refl h0 [a1]).1 q104_z), ne_a1_x105⟩
theorem d33_0 : decode prog_11_method_2_code 0 = .ok (.aload_n 0, 1) := by decide +kernel
theorem d33_1 : decode prog_11_method_2_code 1 = .ok (.getfield 13, 3) := by decide +kernel
theorem d33_4 : decode prog_11_method_2_code 4 = .ok (.areturn, 1) := by decide +kernel
theorem pn33 : plainFor (⟨"com/example/arcward/arcward/model/Instance", "variables", "()Ljava/util/List;"⟩ : MethodName) = true := plainFor_of_name (by first | (simp [plainName, overriddenIn]; done) | decide +kernel)
theorem ef_rm33 (m : MethodId) (a1 : Addr) (vr : Addr) : entryFrame m #[(.ref a1)] 1 = mkF m 0 #[.val (.ref a1)] [] := by first | (simp [entryFrame, mkF, argsToLocals, Value.category]; done) | rfl
def Q33 (Z : State) (a1 : Addr) (vr : Addr) (h0 : Heap) (n0 : Nat) (v : Option Value) (h : Heap) (L : List Loc) : Prop := v = some (.ref vr) ∧ Fr n0 L ∧ (h = h0)
set_option maxRecDepth 65536 in
set_option maxHeartbeats 40000000 in
theorem rm33 (l : Launch) (Z : State) (a0 : Array Value) (hw : ∀ d ∈ tables_1, d.before a0 Z = true) (ws : List Jvm.Cond) (a1 : Addr) (vr : Addr) (h0 : Heap) (n0 : Nat) (Z0 : n0 ≤ h0.size) (F1 : Fld Z h0 a1 "com/example/arcward/arcward/model/Instance" "variables" "Ljava/util/List;" (.ref vr)) :
  MetFree l oM1 (head1 (Jvm.Cond.code oM1 prog_11_method_2_code 1 (some (.object "java/util/List")) :: ws) ({ frames := 0, cells := 0, slots := 0, locals := 0 } : Room)) (fun a U => a = #[(.ref a1)] ∧ Z.Warmed39 U.vm ∧ U.heap = h0) (fun _ _ _ _ _ => True) (fun _ U o U' => ∃ v L, o = .returned v ∧ Q33 Z a1 vr h0 n0 v U'.heap L ∧ FrameEnd U o U' L ({ frames := 0, cells := 0, slots := 0, locals := 0 } : Room).cells ({ frames := 0, cells := 0, slots := 0, locals := 0 } : Room).slots) := by
 refine MetFree.of_bodySF pn33 hisR ?_
 intro p e s m args below meth c s₁ Bd hml0 hP hK
 obtain ⟨rfl, hZ, hh⟩ := hP
 have hx := Bd.exec
 have hby := Bd.bytes
 have hml : c.maxLocals = 1 := hml0
 have hown : s.vm.findClass "com/example/arcward/arcward/model/Instance" = some m.cls := findClass_of_methodNamed Bd.named
 have hnm := (name_of_methodNamed Bd.named Bd.method).1
 have X0 : Stand p l e ({ frames := 0, cells := 0, slots := 0, locals := 0 } : Room) s m #[(.ref a1)] below meth c s₁ [] 0 0 := Stand.of_body Bd
 have e0 : s₁.heap = h0 := by rw [← hh, Bd.state]; rfl
 have N0 := Fr.nil n0
 have p0 : GF p e below (s₁.setTop (entryFrame m #[(.ref a1)] 1)) s₁ m 0 #[.val (.ref a1)] [] := fun t_ k_ => castTop (ef_rm33 m a1 vr) k_
 have p101 : GF p e below _ s₁ m 1 #[.val (.ref a1)] [(.ref a1)] := fun t_ k_ => p0 t_ (by
  refine XS.aloadN X0.here hx rfl (hb hby d33_0) rfl rfl ?_
  exact k_)
 obtain ⟨T102, X102, e102, st102⟩ := getF X0 hx hZ hown (host := "") (Or.inl (own_w hw 184 rfl)) Via.refl e0 F1 (g := (mkF m 1 #[.val (.ref a1)] [(.ref a1)])) rfl rfl (hb hby d33_1)
 obtain ⟨fs, hr, hrun, hended, hW, hsame⟩ := X102.leave (v := some (.ref vr)) (fun h => by rw [Bd.returns] at h; cases h)
 refine ⟨_, _, (gc p101 st102) _ (retOut X102 hx (w := (.ref vr)) (i := .areturn) Bd.returns rfl (Or.inr (Or.inr (Or.inr (Or.inr ⟨rfl, rfl, rfl⟩)))) (hb hby d33_4) hr), hrun, hended, _, _, rfl, ?_, ⟨_, rfl⟩, hW, hsame.mono (by decide) (by decide)⟩
 show Q33 Z a1 vr h0 n0 _ T102.heap _
 rw [e102]
 exact ⟨rfl, N0, rfl⟩
theorem d34_0 : decode prog_43_method_4_code 0 = .ok (.aload_n 0, 1) := by decide +kernel
theorem d34_1 : decode prog_43_method_4_code 1 = .ok (.getfield 32, 3) := by decide +kernel
theorem d34_4 : decode prog_43_method_4_code 4 = .ok (.arraylength, 1) := by decide +kernel
theorem d34_5 : decode prog_43_method_4_code 5 = .ok (.ireturn, 1) := by decide +kernel
theorem pn34 : plainFor (⟨"com/example/arcward/arcward/model/Variable", "size", "()I"⟩ : MethodName) = true := plainFor_of_name (by first | (simp [plainName, overriddenIn]; done) | decide +kernel)
theorem ef_rm34_3 (m : MethodId) (a1 : Addr) (va : Addr) (ka : ClassId) (vv : List Value) : entryFrame m #[(.ref a1)] 1 = mkF m 0 #[.val (.ref a1)] [] := by first | (simp [entryFrame, mkF, argsToLocals, Value.category]; done) | rfl
def Q34_3 (Z : State) (a1 : Addr) (va : Addr) (ka : ClassId) (vv : List Value) (h0 : Heap) (n0 : Nat) (v : Option Value) (h : Heap) (L : List Loc) : Prop := v = some (.int 3) ∧ Fr n0 L ∧ (h = h0)
set_option maxRecDepth 65536 in
set_option maxHeartbeats 40000000 in
theorem rm34_3 (l : Launch) (Z : State) (a0 : Array Value) (hw : ∀ d ∈ tables_1, d.before a0 Z = true) (ws : List Jvm.Cond) (a1 : Addr) (va : Addr) (ka : ClassId) (vv : List Value) (h0 : Heap) (n0 : Nat) (Z0 : n0 ≤ h0.size) (F1 : Fld Z h0 a1 "com/example/arcward/arcward/model/Variable" "values" "[I" (.ref va)) (V1 : Arv Z h0 va ka .int (3 : Int32) vv (.int 0)) :
  MetFree l oM4 (head1 (Jvm.Cond.code oM4 prog_43_method_4_code 1 (some .int) :: ws) ({ frames := 0, cells := 0, slots := 0, locals := 0 } : Room)) (fun a U => a = #[(.ref a1)] ∧ Z.Warmed39 U.vm ∧ U.heap = h0) (fun _ _ _ _ _ => True) (fun _ U o U' => ∃ v L, o = .returned v ∧ Q34_3 Z a1 va ka vv h0 n0 v U'.heap L ∧ FrameEnd U o U' L ({ frames := 0, cells := 0, slots := 0, locals := 0 } : Room).cells ({ frames := 0, cells := 0, slots := 0, locals := 0 } : Room).slots) := by
 refine MetFree.of_bodySF pn34 hisR ?_
 intro p e s m args below meth c s₁ Bd hml0 hP hK
 obtain ⟨rfl, hZ, hh⟩ := hP
 have hx := Bd.exec
 have hby := Bd.bytes
 have hml : c.maxLocals = 1 := hml0
 have hown : s.vm.findClass "com/example/arcward/arcward/model/Variable" = some m.cls := findClass_of_methodNamed Bd.named
 have hnm := (name_of_methodNamed Bd.named Bd.method).1
 have X0 : Stand p l e ({ frames := 0, cells := 0, slots := 0, locals := 0 } : Room) s m #[(.ref a1)] below meth c s₁ [] 0 0 := Stand.of_body Bd
 have e0 : s₁.heap = h0 := by rw [← hh, Bd.state]; rfl
 have N0 := Fr.nil n0
 have p0 : GF p e below (s₁.setTop (entryFrame m #[(.ref a1)] 1)) s₁ m 0 #[.val (.ref a1)] [] := fun t_ k_ => castTop (ef_rm34_3 m a1 va ka vv) k_
 have p101 : GF p e below _ s₁ m 1 #[.val (.ref a1)] [(.ref a1)] := fun t_ k_ => p0 t_ (by
  refine XS.aloadN X0.here hx rfl (hb hby d34_0) rfl rfl ?_
  exact k_)
 obtain ⟨T102, X102, e102, st102⟩ := getF X0 hx hZ hown (host := "") (Or.inl (own_w hw 55 rfl)) Via.refl e0 F1 (g := (mkF m 1 #[.val (.ref a1)] [(.ref a1)])) rfl rfl (hb hby d34_1)
 obtain ⟨cl103, Ar103, -, S103, Ng103, -, -⟩ := id V1
 have p104 : GF p e below _ T102 m 5 #[.val (.ref a1)] [(.int 3)] := fun t_ k_ => (gc p101 st102) t_ (by
  refine X102.arraylength hx (by rw [e102]; exact Ar103.1) (State.isArrayOf_alike hZ.alike Ar103.2.1) (g := (mkF m 4 #[.val (.ref a1)] [(.ref va)])) rfl rfl (hb hby d34_4) _ ?_
  rw [len_of S103 Ng103]
  show Steps p.tables e below (T102.setTop (mkF m 5 #[.val (.ref a1)] [(.int 3)])) _
  exact k_)
 obtain ⟨fs, hr, hrun, hended, hW, hsame⟩ := X102.leave (v := some (.int 3)) (fun h => by rw [Bd.returns] at h; cases h)
 refine ⟨_, _, p104 _ (retI X102 hx Bd.returns (hb hby d34_5) hr), hrun, hended, _, _, rfl, ?_, ⟨_, rfl⟩, hW, hsame.mono (by decide) (by decide)⟩
 show Q34_3 Z a1 va ka vv h0 n0 _ T102.heap _
 rw [e102]
 exact ⟨rfl, N0, rfl⟩
theorem d35_0 : decode prog_50_method_12_code 0 = .ok (.iload_n 0, 1) := by decide +kernel
theorem d35_1 : decode prog_50_method_12_code 1 = .ok (.bipush 64, 2) := by decide +kernel
theorem d35_3 : decode prog_50_method_12_code 3 = .ok (.iadd, 1) := by decide +kernel
theorem d35_4 : decode prog_50_method_12_code 4 = .ok (.iconst 1, 1) := by decide +kernel
theorem d35_5 : decode prog_50_method_12_code 5 = .ok (.isub, 1) := by decide +kernel
theorem d35_6 : decode prog_50_method_12_code 6 = .ok (.bipush 64, 2) := by decide +kernel
theorem d35_8 : decode prog_50_method_12_code 8 = .ok (.idiv, 1) := by decide +kernel
theorem d35_9 : decode prog_50_method_12_code 9 = .ok (.ireturn, 1) := by decide +kernel
theorem pn35 : plainFor (⟨"com/example/arcward/arcward/solver/Domains", "wordsFor", "(I)I"⟩ : MethodName) = true := plainFor_of_name (by first | (simp [plainName, overriddenIn]; done) | decide +kernel)
theorem ef_rm35_3 (m : MethodId)  : entryFrame m #[(.int 3)] 1 = mkF m 0 #[.val (.int 3)] [] := by first | (simp [entryFrame, mkF, argsToLocals, Value.category]; done) | rfl
def Q35_3 (Z : State)  (h0 : Heap) (n0 : Nat) (v : Option Value) (h : Heap) (L : List Loc) : Prop := v = some (.int 1) ∧ Fr n0 L ∧ (h = h0)
set_option maxRecDepth 65536 in
set_option maxHeartbeats 40000000 in
theorem rm35_3 (l : Launch) (Z : State) (a0 : Array Value) (hw : ∀ d ∈ tables_1, d.before a0 Z = true) (ws : List Jvm.Cond)  (h0 : Heap) (n0 : Nat) (Z0 : n0 ≤ h0.size) :
  MetFree l oM12 (head1 (Jvm.Cond.code oM12 prog_50_method_12_code 1 (some .int) :: ws) ({ frames := 0, cells := 0, slots := 0, locals := 0 } : Room)) (fun a U => a = #[(.int 3)] ∧ Z.Warmed39 U.vm ∧ U.heap = h0) (fun _ _ _ _ _ => True) (fun _ U o U' => ∃ v L, o = .returned v ∧ Q35_3 Z  h0 n0 v U'.heap L ∧ FrameEnd U o U' L ({ frames := 0, cells := 0, slots := 0, locals := 0 } : Room).cells ({ frames := 0, cells := 0, slots := 0, locals := 0 } : Room).slots) := by
 refine MetFree.of_bodySF pn35 hisR ?_
 intro p e s m args below meth c s₁ Bd hml0 hP hK
 obtain ⟨rfl, hZ, hh⟩ := hP
 have hx := Bd.exec
 have hby := Bd.bytes
 have hml : c.maxLocals = 1 := hml0
 have hown : s.vm.findClass "com/example/arcward/arcward/solver/Domains" = some m.cls := findClass_of_methodNamed Bd.named
 have hnm := (name_of_methodNamed Bd.named Bd.method).1
 have X0 : Stand p l e ({ frames := 0, cells := 0, slots := 0, locals := 0 } : Room) s m #[(.int 3)] below meth c s₁ [] 0 0 := Stand.of_body Bd
 have e0 : s₁.heap = h0 := by rw [← hh, Bd.state]; rfl
 have N0 := Fr.nil n0
 have p0 : GF p e below (s₁.setTop (entryFrame m #[(.int 3)] 1)) s₁ m 0 #[.val (.int 3)] [] := fun t_ k_ => castTop (ef_rm35_3 m ) k_
 have p101 : GF p e below _ s₁ m 9 #[.val (.int 3)] [(.int ((66 : Int32) / (64 : Int32)))] := fun t_ k_ => p0 t_ (by
  refine XS.iloadN X0.here hx rfl (hb hby d35_0) rfl ?_
  refine XS.bipush X0.here hx rfl (hb hby d35_1) ?_
  refine XS.iadd X0.here hx rfl (hb hby d35_3) rfl ?_
  refine XS.iconst X0.here hx rfl (hb hby d35_4) ?_
  refine XS.isub X0.here hx rfl (hb hby d35_5) rfl ?_
  refine XS.bipush X0.here hx rfl (hb hby d35_6) ?_
  refine XS.idiv X0.here hx rfl (hb hby d35_8) rfl (by decide) ?_
  exact k_)
 obtain ⟨fs, hr, hrun, hended, hW, hsame⟩ := X0.leave (v := some (.int ((66 : Int32) / (64 : Int32)))) (fun h => by rw [Bd.returns] at h; cases h)
 refine ⟨_, _, p101 _ (retI X0 hx Bd.returns (hb hby d35_9) hr), hrun, hended, _, _, rfl, ?_, ⟨_, rfl⟩, hW, hsame.mono (by decide) (by decide)⟩
 show Q35_3 Z  h0 n0 _ s₁.heap _
 rw [e0]
 exact ⟨congrArg (fun q => some (Value.int q)) (by decide), N0, rfl⟩
theorem ef_rm34_70 (m : MethodId) (a1 : Addr) (va : Addr) (ka : ClassId) (vv : List Value) : entryFrame m #[(.ref a1)] 1 = mkF m 0 #[.val (.ref a1)] [] := by first | (simp [entryFrame, mkF, argsToLocals, Value.category]; done) | rfl
def Q34_70 (Z : State) (a1 : Addr) (va : Addr) (ka : ClassId) (vv : List Value) (h0 : Heap) (n0 : Nat) (v : Option Value) (h : Heap) (L : List Loc) : Prop := v = some (.int 70) ∧ Fr n0 L ∧ (h = h0)
set_option maxRecDepth 65536 in
set_option maxHeartbeats 40000000 in
theorem rm34_70 (l : Launch) (Z : State) (a0 : Array Value) (hw : ∀ d ∈ tables_1, d.before a0 Z = true) (ws : List Jvm.Cond) (a1 : Addr) (va : Addr) (ka : ClassId) (vv : List Value) (h0 : Heap) (n0 : Nat) (Z0 : n0 ≤ h0.size) (F1 : Fld Z h0 a1 "com/example/arcward/arcward/model/Variable" "values" "[I" (.ref va)) (V1 : Arv Z h0 va ka .int (70 : Int32) vv (.int 0)) :
  MetFree l oM4 (head1 (Jvm.Cond.code oM4 prog_43_method_4_code 1 (some .int) :: ws) ({ frames := 0, cells := 0, slots := 0, locals := 0 } : Room)) (fun a U => a = #[(.ref a1)] ∧ Z.Warmed39 U.vm ∧ U.heap = h0) (fun _ _ _ _ _ => True) (fun _ U o U' => ∃ v L, o = .returned v ∧ Q34_70 Z a1 va ka vv h0 n0 v U'.heap L ∧ FrameEnd U o U' L ({ frames := 0, cells := 0, slots := 0, locals := 0 } : Room).cells ({ frames := 0, cells := 0, slots := 0, locals := 0 } : Room).slots) := by
 refine MetFree.of_bodySF pn34 hisR ?_
 intro p e s m args below meth c s₁ Bd hml0 hP hK
 obtain ⟨rfl, hZ, hh⟩ := hP
 have hx := Bd.exec
 have hby := Bd.bytes
 have hml : c.maxLocals = 1 := hml0
 have hown : s.vm.findClass "com/example/arcward/arcward/model/Variable" = some m.cls := findClass_of_methodNamed Bd.named
 have hnm := (name_of_methodNamed Bd.named Bd.method).1
 have X0 : Stand p l e ({ frames := 0, cells := 0, slots := 0, locals := 0 } : Room) s m #[(.ref a1)] below meth c s₁ [] 0 0 := Stand.of_body Bd
 have e0 : s₁.heap = h0 := by rw [← hh, Bd.state]; rfl
 have N0 := Fr.nil n0
 have p0 : GF p e below (s₁.setTop (entryFrame m #[(.ref a1)] 1)) s₁ m 0 #[.val (.ref a1)] [] := fun t_ k_ => castTop (ef_rm34_70 m a1 va ka vv) k_
 have p101 : GF p e below _ s₁ m 1 #[.val (.ref a1)] [(.ref a1)] := fun t_ k_ => p0 t_ (by
  refine XS.aloadN X0.here hx rfl (hb hby d34_0) rfl rfl ?_
  exact k_)
 obtain ⟨T102, X102, e102, st102⟩ := getF X0 hx hZ hown (host := "") (Or.inl (own_w hw 55 rfl)) Via.refl e0 F1 (g := (mkF m 1 #[.val (.ref a1)] [(.ref a1)])) rfl rfl (hb hby d34_1)
 obtain ⟨cl103, Ar103, -, S103, Ng103, -, -⟩ := id V1
 have p104 : GF p e below _ T102 m 5 #[.val (.ref a1)] [(.int 70)] := fun t_ k_ => (gc p101 st102) t_ (by
  refine X102.arraylength hx (by rw [e102]; exact Ar103.1) (State.isArrayOf_alike hZ.alike Ar103.2.1) (g := (mkF m 4 #[.val (.ref a1)] [(.ref va)])) rfl rfl (hb hby d34_4) _ ?_
  rw [len_of S103 Ng103]
  show Steps p.tables e below (T102.setTop (mkF m 5 #[.val (.ref a1)] [(.int 70)])) _
  exact k_)
 obtain ⟨fs, hr, hrun, hended, hW, hsame⟩ := X102.leave (v := some (.int 70)) (fun h => by rw [Bd.returns] at h; cases h)
 refine ⟨_, _, p104 _ (retI X102 hx Bd.returns (hb hby d34_5) hr), hrun, hended, _, _, rfl, ?_, ⟨_, rfl⟩, hW, hsame.mono (by decide) (by decide)⟩
 show Q34_70 Z a1 va ka vv h0 n0 _ T102.heap _
 rw [e102]
 exact ⟨rfl, N0, rfl⟩
theorem ef_rm35_70 (m : MethodId)  : entryFrame m #[(.int 70)] 1 = mkF m 0 #[.val (.int 70)] [] := by first | (simp [entryFrame, mkF, argsToLocals, Value.category]; done) | rfl
def Q35_70 (Z : State)  (h0 : Heap) (n0 : Nat) (v : Option Value) (h : Heap) (L : List Loc) : Prop := v = some (.int 2) ∧ Fr n0 L ∧ (h = h0)
set_option maxRecDepth 65536 in
set_option maxHeartbeats 40000000 in
theorem rm35_70 (l : Launch) (Z : State) (a0 : Array Value) (hw : ∀ d ∈ tables_1, d.before a0 Z = true) (ws : List Jvm.Cond)  (h0 : Heap) (n0 : Nat) (Z0 : n0 ≤ h0.size) :
  MetFree l oM12 (head1 (Jvm.Cond.code oM12 prog_50_method_12_code 1 (some .int) :: ws) ({ frames := 0, cells := 0, slots := 0, locals := 0 } : Room)) (fun a U => a = #[(.int 70)] ∧ Z.Warmed39 U.vm ∧ U.heap = h0) (fun _ _ _ _ _ => True) (fun _ U o U' => ∃ v L, o = .returned v ∧ Q35_70 Z  h0 n0 v U'.heap L ∧ FrameEnd U o U' L ({ frames := 0, cells := 0, slots := 0, locals := 0 } : Room).cells ({ frames := 0, cells := 0, slots := 0, locals := 0 } : Room).slots) := by
 refine MetFree.of_bodySF pn35 hisR ?_
 intro p e s m args below meth c s₁ Bd hml0 hP hK
 obtain ⟨rfl, hZ, hh⟩ := hP
 have hx := Bd.exec
 have hby := Bd.bytes
 have hml : c.maxLocals = 1 := hml0
 have hown : s.vm.findClass "com/example/arcward/arcward/solver/Domains" = some m.cls := findClass_of_methodNamed Bd.named
 have hnm := (name_of_methodNamed Bd.named Bd.method).1
 have X0 : Stand p l e ({ frames := 0, cells := 0, slots := 0, locals := 0 } : Room) s m #[(.int 70)] below meth c s₁ [] 0 0 := Stand.of_body Bd
 have e0 : s₁.heap = h0 := by rw [← hh, Bd.state]; rfl
 have N0 := Fr.nil n0
 have p0 : GF p e below (s₁.setTop (entryFrame m #[(.int 70)] 1)) s₁ m 0 #[.val (.int 70)] [] := fun t_ k_ => castTop (ef_rm35_70 m ) k_
 have p101 : GF p e below _ s₁ m 9 #[.val (.int 70)] [(.int ((133 : Int32) / (64 : Int32)))] := fun t_ k_ => p0 t_ (by
  refine XS.iloadN X0.here hx rfl (hb hby d35_0) rfl ?_
  refine XS.bipush X0.here hx rfl (hb hby d35_1) ?_
  refine XS.iadd X0.here hx rfl (hb hby d35_3) rfl ?_
  refine XS.iconst X0.here hx rfl (hb hby d35_4) ?_
  refine XS.isub X0.here hx rfl (hb hby d35_5) rfl ?_
  refine XS.bipush X0.here hx rfl (hb hby d35_6) ?_
  refine XS.idiv X0.here hx rfl (hb hby d35_8) rfl (by decide) ?_
  exact k_)
 obtain ⟨fs, hr, hrun, hended, hW, hsame⟩ := X0.leave (v := some (.int ((133 : Int32) / (64 : Int32)))) (fun h => by rw [Bd.returns] at h; cases h)
 refine ⟨_, _, p101 _ (retI X0 hx Bd.returns (hb hby d35_9) hr), hrun, hended, _, _, rfl, ?_, ⟨_, rfl⟩, hW, hsame.mono (by decide) (by decide)⟩
 show Q35_70 Z  h0 n0 _ s₁.heap _
 rw [e0]
 exact ⟨congrArg (fun q => some (Value.int q)) (by decide), N0, rfl⟩
theorem d32_103 : decode prog_50_method_1_code 103 = .ok (.iload 6, 2) := by decide +kernel
theorem d32_105 : decode prog_50_method_1_code 105 = .ok (.iload 5, 2) := by decide +kernel
theorem d32_107 : decode prog_50_method_1_code 107 = .ok (.if_icmp .ge 29, 3) := by decide +kernel
theorem d32_110 : decode prog_50_method_1_code 110 = .ok (.aload_n 0, 1) := by decide +kernel
theorem d32_111 : decode prog_50_method_1_code 111 = .ok (.getfield 30, 3) := by decide +kernel
theorem d32_114 : decode prog_50_method_1_code 114 = .ok (.iload 4, 2) := by decide +kernel
theorem d32_116 : decode prog_50_method_1_code 116 = .ok (.aaload, 1) := by decide +kernel
theorem d32_117 : decode prog_50_method_1_code 117 = .ok (.iload 6, 2) := by decide +kernel
theorem d32_119 : decode prog_50_method_1_code 119 = .ok (.bipush 6, 2) := by decide +kernel
theorem d32_121 : decode prog_50_method_1_code 121 = .ok (.iushr, 1) := by decide +kernel
theorem d32_122 : decode prog_50_method_1_code 122 = .ok (.dup2, 1) := by decide +kernel
theorem d32_123 : decode prog_50_method_1_code 123 = .ok (.laload, 1) := by decide +kernel
theorem d32_124 : decode prog_50_method_1_code 124 = .ok (.lconst 1, 1) := by decide +kernel
theorem d32_125 : decode prog_50_method_1_code 125 = .ok (.iload 6, 2) := by decide +kernel
theorem d32_127 : decode prog_50_method_1_code 127 = .ok (.lshl, 1) := by decide +kernel
theorem d32_128 : decode prog_50_method_1_code 128 = .ok (.lor, 1) := by decide +kernel
theorem d32_129 : decode prog_50_method_1_code 129 = .ok (.lastore, 1) := by decide +kernel
theorem d32_130 : decode prog_50_method_1_code 130 = .ok (.iinc 6 1, 3) := by decide +kernel
theorem d32_133 : decode prog_50_method_1_code 133 = .ok (.goto (-30), 3) := by decide +kernel
set_option maxRecDepth 65536 in
set_option maxHeartbeats 40000000 in
theorem lpD0 {p : Program} {l : Launch} {e : Env} {R : Room} {s : State} {m : MethodId} {args : Array Value} {below : List Frame} {meth : Method} {c : Code} (Z : State) (a0 : Array Value) (hx : p.tables.exec = Jvm.exec) (hZ : Z.Warmed39 s.vm) (hw : ∀ d ∈ tables_1, d.before a0 Z = true) (hby : c.code = prog_50_method_1_code) (hml : c.maxLocals = 7) (hown : s.vm.findClass "com/example/arcward/arcward/solver/Domains" = some m.cls) (a1 a2 bi w : Addr) (kbi kw : ClassId) (n0 : Nat) (cc ss : Nat) (m1 : a1 ≠ w) (m2 : bi ≠ w) (gw : n0 ≤ w) : ∀ (k j : Nat) (T : State) (h0 : Heap) (locs : List Loc), j + k = 70 → Stand p l e R s m args below meth c T locs cc ss → T.heap = h0 → n0 ≤ h0.size → Fr n0 locs → Fld Z h0 a1 "com/example/arcward/arcward/solver/Domains" "bits" "[[J" (.ref bi) → Arv Z h0 bi kbi (.array .long) (2 : Int32) [(.ref w), .null] .null → Arv Z h0 w kw .long (2 : Int32) (own_ls (own_rw 2 j)) (.long 0) → ∃ (T' : State) (h' : Heap) (lc : List Loc), Stand p l e R s m args below meth c T' lc cc ss ∧ T'.heap = h' ∧ Fr n0 lc ∧ Keep h0 h' [w] ∧ Arv Z h' w kw .long (2 : Int32) (own_ls (own_rw 2 70)) (.long 0) ∧ GF p e below (T.setTop (mkF m 103 (oLR2I5 a1 a2 0 2 0 70 (Int32.ofNat j)) [])) T' m 136 (oLR2I5 a1 a2 0 2 0 70 (Int32.ofNat 70)) [] := by
 intro k
 induction k with
 | zero =>
  intro j T h0 locs hk X0 e0 Z0 N0 F1 V1 V2
  obtain rfl : j = 70 := by omega
  have p0 : GF p e below (T.setTop (mkF m 103 (oLR2I5 a1 a2 0 2 0 70 (Int32.ofNat 70)) [])) T m 103 (oLR2I5 a1 a2 0 2 0 70 (Int32.ofNat 70)) [] := fun t_ k_ => k_
  have p101 : GF p e below _ T m 107 (oLR2I5 a1 a2 0 2 0 70 (Int32.ofNat 70)) [(.int 70), (.int (Int32.ofNat 70))] := fun t_ k_ => p0 t_ (by
   refine XS.iload X0.here hx rfl (hb hby d32_103) rfl ?_
   refine XS.iload X0.here hx rfl (hb hby d32_105) rfl ?_
   exact k_)
  have c102 : ¬ ((Int32.ofNat 70) < (70 : Int32)) := (by decide)
  have p103 : GF p e below _ T m 136 (oLR2I5 a1 a2 0 2 0 70 (Int32.ofNat 70)) [] := fun t_ k_ => p101 t_ (by
   refine XS.icmpYes X0.here hx rfl (pc0 := 107) (pc' := 136) rfl (hb hby d32_107) rfl (flt c102).2.1 (by decide) (by decide) ?_
   exact k_)
  exact ⟨_, _, _, X0, e0, N0, (Keep.refl h0 [w]), V2, p103⟩
 | succ k ih =>
  intro j T h0 locs hk X0 e0 Z0 N0 F1 V1 V2
  have hj : j < 70 := by omega
  have p0 : GF p e below (T.setTop (mkF m 103 (oLR2I5 a1 a2 0 2 0 70 (Int32.ofNat j)) [])) T m 103 (oLR2I5 a1 a2 0 2 0 70 (Int32.ofNat j)) [] := fun t_ k_ => k_
  have p101 : GF p e below _ T m 107 (oLR2I5 a1 a2 0 2 0 70 (Int32.ofNat j)) [(.int 70), (.int (Int32.ofNat j))] := fun t_ k_ => p0 t_ (by
   refine XS.iload X0.here hx rfl (hb hby d32_103) rfl ?_
   refine XS.iload X0.here hx rfl (hb hby d32_105) rfl ?_
   exact k_)
  have c102 : ((Int32.ofNat j) < (70 : Int32)) := (own_lti (b := 70) (by omega) (by omega)).mpr hj
  have p103 : GF p e below _ T m 111 (oLR2I5 a1 a2 0 2 0 70 (Int32.ofNat j)) [(.ref a1)] := fun t_ k_ => p101 t_ (by
   refine XS.icmpNo X0.here hx rfl (hb hby d32_107) rfl (tlt c102).2.1 ?_
   refine XS.aloadN X0.here hx rfl (hb hby d32_110) rfl rfl ?_
   exact k_)
  obtain ⟨T104, X104, e104, st104⟩ := getF X0 hx hZ hown (host := "") (Or.inl (own_w hw 276 rfl)) Via.refl e0 F1 (g := (mkF m 111 (oLR2I5 a1 a2 0 2 0 70 (Int32.ofNat j)) [(.ref a1)])) rfl rfl (hb hby d32_111)
  have p105 : GF p e below _ T104 m 116 (oLR2I5 a1 a2 0 2 0 70 (Int32.ofNat j)) [(.int 0), (.ref bi)] := fun t_ k_ => (gc p103 st104) t_ (by
   refine XS.iload X104.here hx rfl (hb hby d32_114) rfl ?_
   exact k_)
  obtain ⟨cl106, Ar106, q106, S106, Ng106, H106, G106⟩ := id V1
  have hin106 := inb_of S106 (j := (0 : Int32)) ⟨by decide, by decide⟩
  have hat106 := H106.at (v := (.ref w)) hin106 rfl
  have p107 : GF p e below _ T104 m 123 (oLR2I5 a1 a2 0 2 0 70 (Int32.ofNat j)) [(.int (((Int32.ofNat j).toUInt32 >>> (6 : UInt32)).toInt32)), (.ref w), (.int (((Int32.ofNat j).toUInt32 >>> (6 : UInt32)).toInt32)), (.ref w)] := fun t_ k_ => p105 t_ (by
   refine X104.aaload hx (j := (0 : Int32)) (v := (.ref w)) (by rw [e104]; exact Ar106.1) (State.isArrayOf_alike hZ.alike Ar106.2.1) rfl Ar106.2.2 hin106 hat106 (g := (mkF m 116 (oLR2I5 a1 a2 0 2 0 70 (Int32.ofNat j)) [(.int 0), (.ref bi)])) rfl rfl (hb hby d32_116) _ ?_
   refine XS.iload X104.here hx rfl (hb hby d32_117) rfl ?_
   refine XS.bipush X104.here hx rfl (hb hby d32_119) ?_
   refine XS.iushr X104.here hx rfl (hb hby d32_121) rfl ?_
   jvm_step X104.here [X104.here.top, hx, (hb hby d32_122), Value.category]
   show Steps p.tables e below (T104.setTop (mkF m 123 (oLR2I5 a1 a2 0 2 0 70 (Int32.ofNat j)) [(.int (((Int32.ofNat j).toUInt32 >>> (6 : UInt32)).toInt32)), (.ref w), (.int (((Int32.ofNat j).toUInt32 >>> (6 : UInt32)).toInt32)), (.ref w)])) _
   exact k_)
  obtain ⟨cl108, Ar108, q108, S108, Ng108, H108, G108⟩ := id V2
  have hin108 := inb_of S108 (j := (((Int32.ofNat j).toUInt32 >>> (6 : UInt32)).toInt32)) (own_ix hj).1
  have hat108 := H108.at (v := (.long ((own_rw 2 j).getD (j / 64) 0))) hin108 ((congrArg (fun q => (own_ls (own_rw 2 j)).getD q (.long 0)) (own_ix hj).2).trans (own_lsg _ _))
  have p109 : GF p e below _ T104 m 129 (oLR2I5 a1 a2 0 2 0 70 (Int32.ofNat j)) [(.long (((own_rw 2 j).getD (j / 64) 0) ||| ((1 : Int64) <<< ((Int32.ofNat j) &&& 63).toInt64))), (.int (((Int32.ofNat j).toUInt32 >>> (6 : UInt32)).toInt32)), (.ref w)] := fun t_ k_ => p107 t_ (by
   refine X104.laload hx (j := (((Int32.ofNat j).toUInt32 >>> (6 : UInt32)).toInt32)) (v := (.long ((own_rw 2 j).getD (j / 64) 0))) (by rw [e104]; exact Ar108.1) (State.isArrayOf_alike hZ.alike Ar108.2.1) Ar108.2.2 hin108 hat108 (g := (mkF m 123 (oLR2I5 a1 a2 0 2 0 70 (Int32.ofNat j)) [(.int (((Int32.ofNat j).toUInt32 >>> (6 : UInt32)).toInt32)), (.ref w), (.int (((Int32.ofNat j).toUInt32 >>> (6 : UInt32)).toInt32)), (.ref w)])) rfl rfl (hb hby d32_123) _ ?_
   refine XS.lconst X104.here hx rfl (hb hby d32_124) ?_
   refine XS.iload X104.here hx rfl (hb hby d32_125) rfl ?_
   refine XS.lshl X104.here hx rfl (hb hby d32_127) rfl ?_
   refine XS.lor X104.here hx rfl (hb hby d32_128) rfl ?_
   exact k_)
  obtain ⟨cl110, Ar110, q110, S110, Ng110, H110, G110⟩ := id V2
  have hin110 := inb_of S110 (j := (((Int32.ofNat j).toUInt32 >>> (6 : UInt32)).toInt32)) (own_ix hj).1
  obtain ⟨T110, h110, X110, e110, W110, st110⟩ := stJ X104 hx hZ e104 Ar110 (j := (((Int32.ofNat j).toUInt32 >>> (6 : UInt32)).toInt32)) hin110 (g := (mkF m 129 (oLR2I5 a1 a2 0 2 0 70 (Int32.ofNat j)) [(.long (((own_rw 2 j).getD (j / 64) 0) ||| ((1 : Int64) <<< ((Int32.ofNat j) &&& 63).toInt64))), (.int (((Int32.ofNat j).toUInt32 >>> (6 : UInt32)).toInt32)), (.ref w)])) rfl rfl (hb hby d32_129)
  have K111 : Keep h0 h110 [w] := (Keep.refl h0 [w]).wr W110 (Or.inl (List.mem_of_getElem? (i := 0) rfl))
  have N110 := Fr.snoc X110 N0 gw
  have V110 : Arv Z h110 w kw .long (2 : Int32) (own_ls (own_rw 2 (j + 1))) (.long 0) := by
   have z := Arv.set Ar110 q110 S110 Ng110 H110 G110 rfl W110 (j / 64) (own_ix hj).2 (by rw [own_lsl, own_rwl]; omega)
   rw [← own_lss] at z; exact z
  have p112 : GF p e below _ T110 m 103 (oLR2I5 a1 a2 0 2 0 70 ((Int32.ofNat j) + (1 : Int32))) [] := fun t_ k_ => (gc p109 st110) t_ (by
   refine XS.iinc X110.here hx rfl (hb hby d32_130) rfl (l' := (oLR2I5 a1 a2 0 2 0 70 ((Int32.ofNat j) + (1 : Int32)))) rfl ?_
   refine XS.goto X110.here hx rfl (pc0 := 133) (pc' := 103) rfl (hb hby d32_133) (by decide) (by decide) ?_
   exact k_)
  have f113 := (F1.other W110 (Or.inl m1))
  have f114 := (V1.other W110 m2)
  obtain ⟨T', h', lc', X', e', N', K', V', g'⟩ := ih (j + 1) T110 h110 _ (by omega) X110 e110 (Nat.le_trans Z0 K111.1) N110 f113 f114 V110
  refine ⟨T', h', lc', X', e', N', K111.trans K' (allS (Or.inl (List.mem_of_getElem? (i := 0) rfl)) all0), V', fun t_ k_ => p112 t_ ?_⟩
  have z := g' t_ k_
  rw [own_up1 j] at z
  exact z
set_option maxRecDepth 65536 in
set_option maxHeartbeats 40000000 in
theorem lpD1 {p : Program} {l : Launch} {e : Env} {R : Room} {s : State} {m : MethodId} {args : Array Value} {below : List Frame} {meth : Method} {c : Code} (Z : State) (a0 : Array Value) (hx : p.tables.exec = Jvm.exec) (hZ : Z.Warmed39 s.vm) (hw : ∀ d ∈ tables_1, d.before a0 Z = true) (hby : c.code = prog_50_method_1_code) (hml : c.maxLocals = 7) (hown : s.vm.findClass "com/example/arcward/arcward/solver/Domains" = some m.cls) (a1 a2 bi w0 w : Addr) (kbi kw : ClassId) (n0 : Nat) (cc ss : Nat) (m1 : a1 ≠ w) (m2 : bi ≠ w) (gw : n0 ≤ w) : ∀ (k j : Nat) (T : State) (h0 : Heap) (locs : List Loc), j + k = 3 → Stand p l e R s m args below meth c T locs cc ss → T.heap = h0 → n0 ≤ h0.size → Fr n0 locs → Fld Z h0 a1 "com/example/arcward/arcward/solver/Domains" "bits" "[[J" (.ref bi) → Arv Z h0 bi kbi (.array .long) (2 : Int32) [(.ref w0), (.ref w)] .null → Arv Z h0 w kw .long (1 : Int32) (own_ls (own_rw 1 j)) (.long 0) → ∃ (T' : State) (h' : Heap) (lc : List Loc), Stand p l e R s m args below meth c T' lc cc ss ∧ T'.heap = h' ∧ Fr n0 lc ∧ Keep h0 h' [w] ∧ Arv Z h' w kw .long (1 : Int32) (own_ls (own_rw 1 3)) (.long 0) ∧ GF p e below (T.setTop (mkF m 103 (oLR2I5 a1 a2 0 2 1 3 (Int32.ofNat j)) [])) T' m 136 (oLR2I5 a1 a2 0 2 1 3 (Int32.ofNat 3)) [] := by
 intro k
 induction k with
 | zero =>
  intro j T h0 locs hk X0 e0 Z0 N0 F1 V1 V2
  obtain rfl : j = 3 := by omega
  have p0 : GF p e below (T.setTop (mkF m 103 (oLR2I5 a1 a2 0 2 1 3 (Int32.ofNat 3)) [])) T m 103 (oLR2I5 a1 a2 0 2 1 3 (Int32.ofNat 3)) [] := fun t_ k_ => k_
  have p101 : GF p e below _ T m 107 (oLR2I5 a1 a2 0 2 1 3 (Int32.ofNat 3)) [(.int 3), (.int (Int32.ofNat 3))] := fun t_ k_ => p0 t_ (by
   refine XS.iload X0.here hx rfl (hb hby d32_103) rfl ?_
   refine XS.iload X0.here hx rfl (hb hby d32_105) rfl ?_
   exact k_)
  have c102 : ¬ ((Int32.ofNat 3) < (3 : Int32)) := (by decide)
  have p103 : GF p e below _ T m 136 (oLR2I5 a1 a2 0 2 1 3 (Int32.ofNat 3)) [] := fun t_ k_ => p101 t_ (by
   refine XS.icmpYes X0.here hx rfl (pc0 := 107) (pc' := 136) rfl (hb hby d32_107) rfl (flt c102).2.1 (by decide) (by decide) ?_
   exact k_)
  exact ⟨_, _, _, X0, e0, N0, (Keep.refl h0 [w]), V2, p103⟩
 | succ k ih =>
  intro j T h0 locs hk X0 e0 Z0 N0 F1 V1 V2
  have hj : j < 3 := by omega
  have p0 : GF p e below (T.setTop (mkF m 103 (oLR2I5 a1 a2 0 2 1 3 (Int32.ofNat j)) [])) T m 103 (oLR2I5 a1 a2 0 2 1 3 (Int32.ofNat j)) [] := fun t_ k_ => k_
  have p101 : GF p e below _ T m 107 (oLR2I5 a1 a2 0 2 1 3 (Int32.ofNat j)) [(.int 3), (.int (Int32.ofNat j))] := fun t_ k_ => p0 t_ (by
   refine XS.iload X0.here hx rfl (hb hby d32_103) rfl ?_
   refine XS.iload X0.here hx rfl (hb hby d32_105) rfl ?_
   exact k_)
  have c102 : ((Int32.ofNat j) < (3 : Int32)) := (own_lti (b := 3) (by omega) (by omega)).mpr hj
  have p103 : GF p e below _ T m 111 (oLR2I5 a1 a2 0 2 1 3 (Int32.ofNat j)) [(.ref a1)] := fun t_ k_ => p101 t_ (by
   refine XS.icmpNo X0.here hx rfl (hb hby d32_107) rfl (tlt c102).2.1 ?_
   refine XS.aloadN X0.here hx rfl (hb hby d32_110) rfl rfl ?_
   exact k_)
  obtain ⟨T104, X104, e104, st104⟩ := getF X0 hx hZ hown (host := "") (Or.inl (own_w hw 276 rfl)) Via.refl e0 F1 (g := (mkF m 111 (oLR2I5 a1 a2 0 2 1 3 (Int32.ofNat j)) [(.ref a1)])) rfl rfl (hb hby d32_111)
  have p105 : GF p e below _ T104 m 116 (oLR2I5 a1 a2 0 2 1 3 (Int32.ofNat j)) [(.int 1), (.ref bi)] := fun t_ k_ => (gc p103 st104) t_ (by
   refine XS.iload X104.here hx rfl (hb hby d32_114) rfl ?_
   exact k_)
  obtain ⟨cl106, Ar106, q106, S106, Ng106, H106, G106⟩ := id V1
  have hin106 := inb_of S106 (j := (1 : Int32)) ⟨by decide, by decide⟩
  have hat106 := H106.at (v := (.ref w)) hin106 rfl
  have p107 : GF p e below _ T104 m 123 (oLR2I5 a1 a2 0 2 1 3 (Int32.ofNat j)) [(.int (((Int32.ofNat j).toUInt32 >>> (6 : UInt32)).toInt32)), (.ref w), (.int (((Int32.ofNat j).toUInt32 >>> (6 : UInt32)).toInt32)), (.ref w)] := fun t_ k_ => p105 t_ (by
   refine X104.aaload hx (j := (1 : Int32)) (v := (.ref w)) (by rw [e104]; exact Ar106.1) (State.isArrayOf_alike hZ.alike Ar106.2.1) rfl Ar106.2.2 hin106 hat106 (g := (mkF m 116 (oLR2I5 a1 a2 0 2 1 3 (Int32.ofNat j)) [(.int 1), (.ref bi)])) rfl rfl (hb hby d32_116) _ ?_
   refine XS.iload X104.here hx rfl (hb hby d32_117) rfl ?_
   refine XS.bipush X104.here hx rfl (hb hby d32_119) ?_
   refine XS.iushr X104.here hx rfl (hb hby d32_121) rfl ?_
   jvm_step X104.here [X104.here.top, hx, (hb hby d32_122), Value.category]
   show Steps p.tables e below (T104.setTop (mkF m 123 (oLR2I5 a1 a2 0 2 1 3 (Int32.ofNat j)) [(.int (((Int32.ofNat j).toUInt32 >>> (6 : UInt32)).toInt32)), (.ref w), (.int (((Int32.ofNat j).toUInt32 >>> (6 : UInt32)).toInt32)), (.ref w)])) _
   exact k_)
  obtain ⟨cl108, Ar108, q108, S108, Ng108, H108, G108⟩ := id V2
  have hin108 := inb_of S108 (j := (((Int32.ofNat j).toUInt32 >>> (6 : UInt32)).toInt32)) (own_ix1 hj).1
  have hat108 := H108.at (v := (.long ((own_rw 1 j).getD (j / 64) 0))) hin108 ((congrArg (fun q => (own_ls (own_rw 1 j)).getD q (.long 0)) (own_ix1 hj).2).trans (own_lsg _ _))
  have p109 : GF p e below _ T104 m 129 (oLR2I5 a1 a2 0 2 1 3 (Int32.ofNat j)) [(.long (((own_rw 1 j).getD (j / 64) 0) ||| ((1 : Int64) <<< ((Int32.ofNat j) &&& 63).toInt64))), (.int (((Int32.ofNat j).toUInt32 >>> (6 : UInt32)).toInt32)), (.ref w)] := fun t_ k_ => p107 t_ (by
   refine X104.laload hx (j := (((Int32.ofNat j).toUInt32 >>> (6 : UInt32)).toInt32)) (v := (.long ((own_rw 1 j).getD (j / 64) 0))) (by rw [e104]; exact Ar108.1) (State.isArrayOf_alike hZ.alike Ar108.2.1) Ar108.2.2 hin108 hat108 (g := (mkF m 123 (oLR2I5 a1 a2 0 2 1 3 (Int32.ofNat j)) [(.int (((Int32.ofNat j).toUInt32 >>> (6 : UInt32)).toInt32)), (.ref w), (.int (((Int32.ofNat j).toUInt32 >>> (6 : UInt32)).toInt32)), (.ref w)])) rfl rfl (hb hby d32_123) _ ?_
   refine XS.lconst X104.here hx rfl (hb hby d32_124) ?_
   refine XS.iload X104.here hx rfl (hb hby d32_125) rfl ?_
   refine XS.lshl X104.here hx rfl (hb hby d32_127) rfl ?_
   refine XS.lor X104.here hx rfl (hb hby d32_128) rfl ?_
   exact k_)
  obtain ⟨cl110, Ar110, q110, S110, Ng110, H110, G110⟩ := id V2
  have hin110 := inb_of S110 (j := (((Int32.ofNat j).toUInt32 >>> (6 : UInt32)).toInt32)) (own_ix1 hj).1
  obtain ⟨T110, h110, X110, e110, W110, st110⟩ := stJ X104 hx hZ e104 Ar110 (j := (((Int32.ofNat j).toUInt32 >>> (6 : UInt32)).toInt32)) hin110 (g := (mkF m 129 (oLR2I5 a1 a2 0 2 1 3 (Int32.ofNat j)) [(.long (((own_rw 1 j).getD (j / 64) 0) ||| ((1 : Int64) <<< ((Int32.ofNat j) &&& 63).toInt64))), (.int (((Int32.ofNat j).toUInt32 >>> (6 : UInt32)).toInt32)), (.ref w)])) rfl rfl (hb hby d32_129)
  have K111 : Keep h0 h110 [w] := (Keep.refl h0 [w]).wr W110 (Or.inl (List.mem_of_getElem? (i := 0) rfl))
  have N110 := Fr.snoc X110 N0 gw
  have V110 : Arv Z h110 w kw .long (1 : Int32) (own_ls (own_rw 1 (j + 1))) (.long 0) := by
   have z := Arv.set Ar110 q110 S110 Ng110 H110 G110 rfl W110 (j / 64) (own_ix1 hj).2 (by rw [own_lsl, own_rwl]; omega)
   rw [← own_lss] at z; exact z
  have p112 : GF p e below _ T110 m 103 (oLR2I5 a1 a2 0 2 1 3 ((Int32.ofNat j) + (1 : Int32))) [] := fun t_ k_ => (gc p109 st110) t_ (by
   refine XS.iinc X110.here hx rfl (hb hby d32_130) rfl (l' := (oLR2I5 a1 a2 0 2 1 3 ((Int32.ofNat j) + (1 : Int32)))) rfl ?_
   refine XS.goto X110.here hx rfl (pc0 := 133) (pc' := 103) rfl (hb hby d32_133) (by decide) (by decide) ?_
   exact k_)
  have f113 := (F1.other W110 (Or.inl m1))
  have f114 := (V1.other W110 m2)
  obtain ⟨T', h', lc', X', e', N', K', V', g'⟩ := ih (j + 1) T110 h110 _ (by omega) X110 e110 (Nat.le_trans Z0 K111.1) N110 f113 f114 V110
  refine ⟨T', h', lc', X', e', N', K111.trans K' (allS (Or.inl (List.mem_of_getElem? (i := 0) rfl)) all0), V', fun t_ k_ => p112 t_ ?_⟩
  have z := g' t_ k_
  rw [own_up1 j] at z
  exact z
theorem d32_0 : decode prog_50_method_1_code 0 = .ok (.aload_n 0, 1) := by decide +kernel
theorem d32_1 : decode prog_50_method_1_code 1 = .ok (.invokespecial 1, 3) := by decide +kernel
theorem d32_4 : decode prog_50_method_1_code 4 = .ok (.aload_n 0, 1) := by decide +kernel
theorem d32_5 : decode prog_50_method_1_code 5 = .ok (.bipush 96, 2) := by decide +kernel
theorem d32_7 : decode prog_50_method_1_code 7 = .ok (.newarray .int, 2) := by decide +kernel
theorem d32_9 : decode prog_50_method_1_code 9 = .ok (.putfield 7, 3) := by decide +kernel
theorem d32_12 : decode prog_50_method_1_code 12 = .ok (.aload_n 0, 1) := by decide +kernel
theorem d32_13 : decode prog_50_method_1_code 13 = .ok (.iload_n 2, 1) := by decide +kernel
theorem d32_14 : decode prog_50_method_1_code 14 = .ok (.newarray .int, 2) := by decide +kernel
theorem d32_16 : decode prog_50_method_1_code 16 = .ok (.putfield 13, 3) := by decide +kernel
theorem d32_19 : decode prog_50_method_1_code 19 = .ok (.aload_n 1, 1) := by decide +kernel
theorem d32_20 : decode prog_50_method_1_code 20 = .ok (.invokevirtual 16, 3) := by decide +kernel
theorem d32_23 : decode prog_50_method_1_code 23 = .ok (.invokeinterface 22 1, 5) := by decide +kernel
theorem d32_28 : decode prog_50_method_1_code 28 = .ok (.istore_n 3, 1) := by decide +kernel
theorem d32_29 : decode prog_50_method_1_code 29 = .ok (.aload_n 0, 1) := by decide +kernel
theorem d32_30 : decode prog_50_method_1_code 30 = .ok (.iload_n 3, 1) := by decide +kernel
theorem d32_31 : decode prog_50_method_1_code 31 = .ok (.anewarray 28, 3) := by decide +kernel
theorem d32_34 : decode prog_50_method_1_code 34 = .ok (.putfield 30, 3) := by decide +kernel
theorem d32_37 : decode prog_50_method_1_code 37 = .ok (.aload_n 0, 1) := by decide +kernel
theorem d32_38 : decode prog_50_method_1_code 38 = .ok (.iload_n 3, 1) := by decide +kernel
theorem d32_39 : decode prog_50_method_1_code 39 = .ok (.newarray .int, 2) := by decide +kernel
theorem d32_41 : decode prog_50_method_1_code 41 = .ok (.putfield 34, 3) := by decide +kernel
theorem d32_44 : decode prog_50_method_1_code 44 = .ok (.aload_n 0, 1) := by decide +kernel
theorem d32_45 : decode prog_50_method_1_code 45 = .ok (.iload_n 3, 1) := by decide +kernel
theorem d32_46 : decode prog_50_method_1_code 46 = .ok (.newarray .int, 2) := by decide +kernel
theorem d32_48 : decode prog_50_method_1_code 48 = .ok (.putfield 37, 3) := by decide +kernel
theorem d32_51 : decode prog_50_method_1_code 51 = .ok (.aload_n 0, 1) := by decide +kernel
theorem d32_52 : decode prog_50_method_1_code 52 = .ok (.iload_n 3, 1) := by decide +kernel
theorem d32_53 : decode prog_50_method_1_code 53 = .ok (.newarray .boolean, 2) := by decide +kernel
theorem d32_55 : decode prog_50_method_1_code 55 = .ok (.putfield 40, 3) := by decide +kernel
theorem d32_58 : decode prog_50_method_1_code 58 = .ok (.iconst 0, 1) := by decide +kernel
theorem d32_59 : decode prog_50_method_1_code 59 = .ok (.istore 4, 2) := by decide +kernel
theorem d32_61 : decode prog_50_method_1_code 61 = .ok (.iload 4, 2) := by decide +kernel
theorem d32_63 : decode prog_50_method_1_code 63 = .ok (.iload_n 3, 1) := by decide +kernel
theorem d32_64 : decode prog_50_method_1_code 64 = .ok (.if_icmp .ge 87, 3) := by decide +kernel
theorem d32_67 : decode prog_50_method_1_code 67 = .ok (.aload_n 1, 1) := by decide +kernel
theorem d32_68 : decode prog_50_method_1_code 68 = .ok (.invokevirtual 16, 3) := by decide +kernel
theorem d32_71 : decode prog_50_method_1_code 71 = .ok (.iload 4, 2) := by decide +kernel
theorem d32_73 : decode prog_50_method_1_code 73 = .ok (.invokeinterface 44 2, 5) := by decide +kernel
theorem d32_78 : decode prog_50_method_1_code 78 = .ok (.checkcast 48, 3) := by decide +kernel
theorem d32_81 : decode prog_50_method_1_code 81 = .ok (.invokevirtual 50, 3) := by decide +kernel
theorem d32_84 : decode prog_50_method_1_code 84 = .ok (.istore 5, 2) := by decide +kernel
theorem d32_86 : decode prog_50_method_1_code 86 = .ok (.aload_n 0, 1) := by decide +kernel
theorem d32_87 : decode prog_50_method_1_code 87 = .ok (.getfield 30, 3) := by decide +kernel
theorem d32_90 : decode prog_50_method_1_code 90 = .ok (.iload 4, 2) := by decide +kernel
theorem d32_92 : decode prog_50_method_1_code 92 = .ok (.iload 5, 2) := by decide +kernel
theorem d32_94 : decode prog_50_method_1_code 94 = .ok (.invokestatic 51, 3) := by decide +kernel
theorem d32_97 : decode prog_50_method_1_code 97 = .ok (.newarray .long, 2) := by decide +kernel
theorem d32_99 : decode prog_50_method_1_code 99 = .ok (.aastore, 1) := by decide +kernel
theorem d32_100 : decode prog_50_method_1_code 100 = .ok (.iconst 0, 1) := by decide +kernel
theorem d32_101 : decode prog_50_method_1_code 101 = .ok (.istore 6, 2) := by decide +kernel
theorem d32_136 : decode prog_50_method_1_code 136 = .ok (.aload_n 0, 1) := by decide +kernel
theorem d32_137 : decode prog_50_method_1_code 137 = .ok (.getfield 34, 3) := by decide +kernel
theorem d32_140 : decode prog_50_method_1_code 140 = .ok (.iload 4, 2) := by decide +kernel
theorem d32_142 : decode prog_50_method_1_code 142 = .ok (.iload 5, 2) := by decide +kernel
theorem d32_144 : decode prog_50_method_1_code 144 = .ok (.iastore, 1) := by decide +kernel
theorem d32_145 : decode prog_50_method_1_code 145 = .ok (.iinc 4 1, 3) := by decide +kernel
theorem d32_148 : decode prog_50_method_1_code 148 = .ok (.goto (-87), 3) := by decide +kernel
theorem d32_151 : decode prog_50_method_1_code 151 = .ok (.return_, 1) := by decide +kernel
theorem pd17 : parseMethodDescriptor "(I)I" = some ⟨[.int], some .int⟩ := by decide +kernel
theorem pn32 : plainFor (⟨"com/example/arcward/arcward/solver/Domains", "<init>", "(Lcom/example/arcward/arcward/model/Instance;I)V"⟩ : MethodName) = true := plainFor_of_name (by first | (simp [plainName, overriddenIn]; done) | decide +kernel)
theorem ef_rm32 (m : MethodId) (a1 : Addr) (a2 : Addr) (vl : Addr) (x0 : Addr) (x1 : Addr) (v0 : Addr) (v1 : Addr) (kv0 : ClassId) (kv1 : ClassId) (vv0 : List Value) (vv1 : List Value) (de : Addr) (kde : ClassId) (el : Addr) (ea : Addr) (kea : ClassId) (em : Addr) (mr : Addr) : entryFrame m #[(.ref a1), (.ref a2), (.int 0)] 7 = mkF m 0 (oLR2Iu4 a1 a2 0) [] := by first | (simp [entryFrame, mkF, argsToLocals, Value.category]; done) | rfl
def Q32 (Z : State) (a1 : Addr) (a2 : Addr) (vl : Addr) (x0 : Addr) (x1 : Addr) (v0 : Addr) (v1 : Addr) (kv0 : ClassId) (kv1 : ClassId) (vv0 : List Value) (vv1 : List Value) (de : Addr) (kde : ClassId) (el : Addr) (ea : Addr) (kea : ClassId) (em : Addr) (mr : Addr) (h0 : Heap) (n0 : Nat) (v : Option Value) (h : Heap) (L : List Loc) : Prop := ∃ (tr : Addr) (bi : Addr) (sz : Addr) (rs : Addr) (ir : Addr) (w0 : Addr) (w1 : Addr) (rb : Addr) (ktr : ClassId) (kbi : ClassId) (ksz : ClassId) (krs : ClassId) (kir : ClassId) (kw0 : ClassId) (kw1 : ClassId), v = none ∧ Fr n0 L ∧ (Keep h0 h [a1]) ∧ (Exa Z h a1 "com/example/arcward/arcward/solver/Domains") ∧ (Fld Z h a1 "com/example/arcward/arcward/solver/Domains" "trail" "[I" (.ref tr)) ∧ (Fld Z h a1 "com/example/arcward/arcward/solver/Domains" "removedBy" "[I" (.ref rb)) ∧ (Fld Z h a1 "com/example/arcward/arcward/solver/Domains" "bits" "[[J" (.ref bi)) ∧ (Fld Z h a1 "com/example/arcward/arcward/solver/Domains" "sizes" "[I" (.ref sz)) ∧ (Fld Z h a1 "com/example/arcward/arcward/solver/Domains" "resized" "[I" (.ref rs)) ∧ (Fld Z h a1 "com/example/arcward/arcward/solver/Domains" "inResized" "[Z" (.ref ir)) ∧ (Fld Z h a1 "com/example/arcward/arcward/solver/Domains" "resizedCount" "I" (.int 0)) ∧ (Fld Z h a1 "com/example/arcward/arcward/solver/Domains" "trailLength" "I" (.int 0)) ∧ (Arv Z h tr ktr .int (96 : Int32) (List.replicate 96 (.int 0)) (.int 0)) ∧ (Arv Z h bi kbi (.array .long) (2 : Int32) [(.ref w0), (.ref w1)] .null) ∧ (Arv Z h sz ksz .int (2 : Int32) [(.int 70), (.int 3)] (.int 0)) ∧ (Arv Z h rs krs .int (2 : Int32) [(.int 0), (.int 0)] (.int 0)) ∧ (Arv Z h ir kir .boolean (2 : Int32) [(.int 0), (.int 0)] (.int 0)) ∧ (Arv Z h w0 kw0 .long (2 : Int32) [(.long (-1)), (.long 63)] (.long 0)) ∧ (Arv Z h w1 kw1 .long (1 : Int32) [(.long 7)] (.long 0)) ∧ (own_SZ h0 tr bi sz rs ir w0 w1) ∧ (own_ND a1 tr bi sz rs ir w0 w1) ∧ (own_GE n0 a1 tr bi sz rs ir w0 w1) ∧ (OvrA Z kbi .long "[J")
set_option maxRecDepth 65536 in
set_option maxHeartbeats 40000000 in
theorem rm32 (l : Launch) (Z : State) (a0 : Array Value) (hw : ∀ d ∈ tables_1, d.before a0 Z = true) (ws : List Jvm.Cond) (a1 : Addr) (a2 : Addr) (vl : Addr) (x0 : Addr) (x1 : Addr) (v0 : Addr) (v1 : Addr) (kv0 : ClassId) (kv1 : ClassId) (vv0 : List Value) (vv1 : List Value) (de : Addr) (kde : ClassId) (el : Addr) (ea : Addr) (kea : ClassId) (em : Addr) (mr : Addr) (h0 : Heap) (n0 : Nat) (Z0 : n0 ≤ h0.size) (O1 : Old Z n0 h0) (G : own_H Z de kde el ea kea em mr) (F0 : Exa Z h0 a1 "com/example/arcward/arcward/solver/Domains") (F1 : Fld Z h0 a1 "com/example/arcward/arcward/solver/Domains" "trail" "[I" .null) (F2 : Fld Z h0 a1 "com/example/arcward/arcward/solver/Domains" "removedBy" "[I" .null) (F3 : Fld Z h0 a1 "com/example/arcward/arcward/solver/Domains" "bits" "[[J" .null) (F4 : Fld Z h0 a1 "com/example/arcward/arcward/solver/Domains" "sizes" "[I" .null) (F5 : Fld Z h0 a1 "com/example/arcward/arcward/solver/Domains" "resized" "[I" .null) (F6 : Fld Z h0 a1 "com/example/arcward/arcward/solver/Domains" "inResized" "[Z" .null) (F7 : Fld Z h0 a1 "com/example/arcward/arcward/solver/Domains" "resizedCount" "I" (.int 0)) (F8 : Fld Z h0 a1 "com/example/arcward/arcward/solver/Domains" "trailLength" "I" (.int 0)) (g1 : n0 ≤ a1) (I0 : Exa Z h0 a2 "com/example/arcward/arcward/model/Instance") (I1 : Fld Z h0 a2 "com/example/arcward/arcward/model/Instance" "variables" "Ljava/util/List;" (.ref vl)) (I2 : Exa Z h0 vl "java/util/ImmutableCollections$List12") (I3 : Fld Z h0 vl "java/util/ImmutableCollections$List12" "e0" "Ljava/lang/Object;" (.ref x0)) (I4 : Fld Z h0 vl "java/util/ImmutableCollections$List12" "e1" "Ljava/lang/Object;" (.ref x1)) (gx : n0 ≤ x1) (Y0 : Exa Z h0 x0 "com/example/arcward/arcward/model/Variable") (Y1 : Fld Z h0 x0 "com/example/arcward/arcward/model/Variable" "values" "[I" (.ref v0)) (Y2 : Arv Z h0 v0 kv0 .int (70 : Int32) vv0 (.int 0)) (Y3 : Exa Z h0 x1 "com/example/arcward/arcward/model/Variable") (Y4 : Fld Z h0 x1 "com/example/arcward/arcward/model/Variable" "values" "[I" (.ref v1)) (Y5 : Arv Z h0 v1 kv1 .int (3 : Int32) vv1 (.int 0)) (na2 : a1 ≠ a2) (nvl : a1 ≠ vl) (nx0 : a1 ≠ x0) (nx1 : a1 ≠ x1) (nv0 : a1 ≠ v0) (nv1 : a1 ≠ v1) :
  MetFree l oM5 (head1 (Jvm.Cond.code oM5 prog_50_method_1_code 7 none :: ws) ({ frames := 1, cells := 8, slots := 107, locals := 14 } : Room)) (fun a U => a = #[(.ref a1), (.ref a2), (.int 0)] ∧ Z.Warmed39 U.vm ∧ U.heap = h0) (fun _ _ _ _ _ => True) (fun _ U o U' => ∃ v L, o = .returned v ∧ Q32 Z a1 a2 vl x0 x1 v0 v1 kv0 kv1 vv0 vv1 de kde el ea kea em mr h0 n0 v U'.heap L ∧ FrameEnd U o U' L ({ frames := 1, cells := 8, slots := 107, locals := 14 } : Room).cells ({ frames := 1, cells := 8, slots := 107, locals := 14 } : Room).slots) := by
 refine MetFree.of_bodySF pn32 hisR ?_
 intro p e s m args below meth c s₁ Bd hml0 hP hK
 obtain ⟨rfl, hZ, hh⟩ := hP
 have hx := Bd.exec
 have hby := Bd.bytes
 have hml : c.maxLocals = 7 := hml0
 have hown : s.vm.findClass "com/example/arcward/arcward/solver/Domains" = some m.cls := findClass_of_methodNamed Bd.named
 have hnm := (name_of_methodNamed Bd.named Bd.method).1
 have X0 : Stand p l e ({ frames := 1, cells := 8, slots := 107, locals := 14 } : Room) s m #[(.ref a1), (.ref a2), (.int 0)] below meth c s₁ [] 0 0 := Stand.of_body Bd
 have e0 : s₁.heap = h0 := by rw [← hh, Bd.state]; rfl
 have N0 := Fr.nil n0
 have p0 : GF p e below (s₁.setTop (entryFrame m #[(.ref a1), (.ref a2), (.int 0)] 7)) s₁ m 0 (oLR2Iu4 a1 a2 0) [] := fun t_ k_ => castTop (ef_rm32 m a1 a2 vl x0 x1 v0 v1 kv0 kv1 vv0 vv1 de kde el ea kea em mr) k_
 have p101 : GF p e below _ s₁ m 1 (oLR2Iu4 a1 a2 0) [(.ref a1)] := fun t_ k_ => p0 t_ (by
  refine XS.aloadN X0.here hx rfl (hb hby d32_0) rfl rfl ?_
  exact k_)
 obtain ⟨T102, X102, e102, st102⟩ := initO X0 hx hZ hown (own_w hw 263 rfl) (own_w hw 20 rfl) (own_w hw 21 rfl) e0 (g := (mkF m 1 (oLR2Iu4 a1 a2 0) [(.ref a1)])) rfl (by rw [hml]; rfl) rfl (hb hby d32_1) (by decide) (W := 0) (by show 2 * 0 + _ ≤ _; exact Nat.le_of_eq rfl) (by decide)
 have p103 : GF p e below _ T102 m 7 (oLR2Iu4 a1 a2 0) [(.int 96), (.ref a1)] := fun t_ k_ => (gc p101 st102) t_ (by
  refine XS.aloadN X102.here hx rfl (hb hby d32_4) rfl rfl ?_
  refine XS.bipush X102.here hx rfl (hb hby d32_5) ?_
  exact k_)
 obtain ⟨T104, h104, k104, X104, e104, E104, A104, AE104, st104⟩ := newPE X102 hx hZ (own_w hw 0 rfl) e102 (g := (mkF m 7 (oLR2Iu4 a1 a2 0) [(.int 96), (.ref a1)])) rfl (hb hby d32_7) rfl (by decide) (cap := 96) (by decide) (by decide) (by decide) (by decide) (ad := "[I") (by decide)
 obtain ⟨b104, g104⟩ : ∃ z, z = h0.size := ⟨_, rfl⟩
 rw [← g104] at A104 AE104 st104
 have ne_a1_b104 : a1 ≠ b104 := Nat.ne_of_lt (Nat.lt_of_lt_of_le F0.lt (Nat.le_of_eq g104.symm))
 have ne_a2_b104 : a2 ≠ b104 := Nat.ne_of_lt (Nat.lt_of_lt_of_le I0.lt (Nat.le_of_eq g104.symm))
 have ne_vl_b104 : vl ≠ b104 := Nat.ne_of_lt (Nat.lt_of_lt_of_le I2.lt (Nat.le_of_eq g104.symm))
 have ne_x0_b104 : x0 ≠ b104 := Nat.ne_of_lt (Nat.lt_of_lt_of_le Y0.lt (Nat.le_of_eq g104.symm))
 have ne_v0_b104 : v0 ≠ b104 := Nat.ne_of_lt (Nat.lt_of_lt_of_le Y2.lt (Nat.le_of_eq g104.symm))
 have ne_x1_b104 : x1 ≠ b104 := Nat.ne_of_lt (Nat.lt_of_lt_of_le Y3.lt (Nat.le_of_eq g104.symm))
 have ne_v1_b104 : v1 ≠ b104 := Nat.ne_of_lt (Nat.lt_of_lt_of_le Y5.lt (Nat.le_of_eq g104.symm))
 have ge_b104 : n0 ≤ b104 := Nat.le_trans (Nat.le_trans Z0 (Keep.refl h0 [a1]).1) (Nat.le_of_eq g104.symm)
 have sz_b104 : h0.size ≤ b104 := Nat.le_trans (Keep.refl h0 [a1]).1 (Nat.le_of_eq g104.symm)
 have K105 : Keep h0 h104 [a1] := (Keep.refl h0 [a1]).ext E104
 have V104 : Arv Z h104 b104 k104 .int (96 : Int32) (List.replicate 96 (.int 0)) (.int 0) := (Arv.new A104 (by decide)).pad (pad_rep [] (.int 0) 96)
 have f106 := (F1.ext E104)
 have f107 := (F0.ext E104)
 obtain ⟨T108, h108, X108, e108, W108, st108⟩ := putF X104 hx hZ hown (host := "") (Or.inl (own_w hw 264 rfl)) Via.refl e104 f106 f107 (Or.inl (own_w hw 265 rfl)) (own_w hw 90 rfl) (ty := (.array .int)) (by decide) rfl rfl (g := (mkF m 9 (oLR2Iu4 a1 a2 0) [(.ref b104), (.ref a1)])) rfl rfl (hb hby d32_9)
 have K109 : Keep h0 h108 [a1] := K105.wr W108 (Or.inl (List.mem_of_getElem? (i := 0) rfl))
 have N108 := Fr.snoc X108 N0 g1
 have F108 : Fld Z h108 a1 "com/example/arcward/arcward/solver/Domains" "trail" "[I" (.ref b104) := f106.same W108
 have p110 : GF p e below _ T108 m 14 (oLR2Iu4 a1 a2 0) [(.int 0), (.ref a1)] := fun t_ k_ => (gc (gc p103 st104) st108) t_ (by
  refine XS.aloadN X108.here hx rfl (hb hby d32_12) rfl rfl ?_
  refine XS.iloadN X108.here hx rfl (hb hby d32_13) rfl ?_
  exact k_)
 obtain ⟨T111, h111, k111, X111, e111, E111, A111, AE111, st111⟩ := newPE X108 hx hZ (own_w hw 0 rfl) e108 (g := (mkF m 14 (oLR2Iu4 a1 a2 0) [(.int 0), (.ref a1)])) rfl (hb hby d32_14) rfl (by decide) (cap := 0) (by decide) (by decide) (by decide) (by decide) (ad := "[I") (by decide)
 obtain ⟨b111, g111⟩ : ∃ z, z = h108.size := ⟨_, rfl⟩
 rw [← g111] at A111 AE111 st111
 have f112 := (f107.wr W108)
 have ne_a1_b111 : a1 ≠ b111 := Nat.ne_of_lt (Nat.lt_of_lt_of_le f112.lt (Nat.le_of_eq g111.symm))
 have f113 := ((I0.ext E104).wr W108)
 have ne_a2_b111 : a2 ≠ b111 := Nat.ne_of_lt (Nat.lt_of_lt_of_le f113.lt (Nat.le_of_eq g111.symm))
 have f114 := ((I2.ext E104).wr W108)
 have ne_vl_b111 : vl ≠ b111 := Nat.ne_of_lt (Nat.lt_of_lt_of_le f114.lt (Nat.le_of_eq g111.symm))
 have f115 := ((Y0.ext E104).wr W108)
 have ne_x0_b111 : x0 ≠ b111 := Nat.ne_of_lt (Nat.lt_of_lt_of_le f115.lt (Nat.le_of_eq g111.symm))
 have f116 := ((Y2.ext E104).other W108 (Ne.symm nv0))
 have ne_v0_b111 : v0 ≠ b111 := Nat.ne_of_lt (Nat.lt_of_lt_of_le f116.lt (Nat.le_of_eq g111.symm))
 have f117 := ((Y3.ext E104).wr W108)
 have ne_x1_b111 : x1 ≠ b111 := Nat.ne_of_lt (Nat.lt_of_lt_of_le f117.lt (Nat.le_of_eq g111.symm))
 have f118 := ((Y5.ext E104).other W108 (Ne.symm nv1))
 have ne_v1_b111 : v1 ≠ b111 := Nat.ne_of_lt (Nat.lt_of_lt_of_le f118.lt (Nat.le_of_eq g111.symm))
 have f119 := (AE104.wr W108)
 have ne_b104_b111 : b104 ≠ b111 := Nat.ne_of_lt (Nat.lt_of_lt_of_le f119.lt (Nat.le_of_eq g111.symm))
 have ge_b111 : n0 ≤ b111 := Nat.le_trans (Nat.le_trans Z0 K109.1) (Nat.le_of_eq g111.symm)
 have sz_b111 : h0.size ≤ b111 := Nat.le_trans K109.1 (Nat.le_of_eq g111.symm)
 have K120 : Keep h0 h111 [a1] := K109.ext E111
 have V111 : Arv Z h111 b111 k111 .int (0 : Int32) [] (.int 0) := Arv.new A111 (by decide)
 have f121 := (((F2.ext E104).other W108 (Or.inr (slot_ne (Or.inr (own_w hw 267 rfl)) (Or.inl (own_w hw 265 rfl)) (by decide) (t := (.array .int)) (t' := (.array .int)) (by decide) (by decide)))).ext E111)
 have f122 := (f112.ext E111)
 obtain ⟨T123, h123, X123, e123, W123, st123⟩ := putF X111 hx hZ hown (host := "") (Or.inl (own_w hw 266 rfl)) Via.refl e111 f121 f122 (Or.inr ⟨(own_w hw 267 rfl), rfl, hnm⟩) (own_w hw 90 rfl) (ty := (.array .int)) (by decide) rfl rfl (g := (mkF m 16 (oLR2Iu4 a1 a2 0) [(.ref b111), (.ref a1)])) rfl rfl (hb hby d32_16)
 have K124 : Keep h0 h123 [a1] := K120.wr W123 (Or.inl (List.mem_of_getElem? (i := 0) rfl))
 have N123 := Fr.snoc X123 N108 g1
 have F123 : Fld Z h123 a1 "com/example/arcward/arcward/solver/Domains" "removedBy" "[I" (.ref b111) := f121.same W123
 have p125 : GF p e below _ T123 m 20 (oLR2Iu4 a1 a2 0) [(.ref a2)] := fun t_ k_ => (gc (gc p110 st111) st123) t_ (by
  refine XS.aloadN X123.here hx rfl (hb hby d32_19) rfl rfl ?_
  exact k_)
 have f126 := ((((I1.ext E104).other W108 (Or.inl (Ne.symm na2))).ext E111).other W123 (Or.inl (Ne.symm na2)))
 have f128 := ((f113.ext E111).wr W123)
 obtain ⟨cq127, kq127, q127a, q127b, q127c⟩ := isOf hZ e123 f128
 obtain ⟨_, _, ⟨T127, L127, k127, n127⟩, -, X127, ⟨Lc127, hQ127, l127, y127, z127⟩, st127⟩ := X123.virtualBack hx (y := oM1) (z := oM1) hown (mvT hZ (own_w hw 268 rfl)) (mvT hZ (own_w hw 269 rfl)) (notFace_of_selects (args := #[]) (mvT hZ (own_w hw 271 rfl))) (mvT hZ (own_w hw 271 rfl)) (mvT hZ (own_w hw 270 rfl)) (by decide) (backOf (W := 0) (rm33 l Z a0 hw [] a2 vl h123 n0 (Nat.le_trans Z0 K124.1) f126) hZ (own_w hw 272 rfl) (own_w hw 94 rfl) (by decide) (by decide)) q127a q127c (g := (mkF m 20 (oLR2Iu4 a1 a2 0) [(.ref a2)])) rfl (by rw [hml]; rfl) (Steps.refl _) (argsL := []) (rest := []) (lenOf pd12 rfl) rfl (by show 2 * 0 + _ ≤ _; exact Nat.le_of_eq rfl) (hb hby d32_20) (fun _ _ => ⟨rfl, e123, (by decide : 2 + 0 ≤ _), (by decide : 96 + 0 ≤ _)⟩)
 dsimp only [Pt.U, Pt.locs, Pt.cells, Pt.slots] at X127 l127 y127 z127 st127 hQ127
 subst l127 y127 z127
 obtain ⟨rfl, N127q, q127_hh⟩ := hQ127
 have N127 := Fr.app N123 N127q
 have f129 := ((((O1.ext E104).wr W108 g1).ext E111).wr W123 g1)
 have f130 := ((f114.ext E111).wr W123)
 have f131 := ((((I3.ext E104).other W108 (Or.inl (Ne.symm nvl))).ext E111).other W123 (Or.inl (Ne.symm nvl)))
 have f132 := ((((I4.ext E104).other W108 (Or.inl (Ne.symm nvl))).ext E111).other W123 (Or.inl (Ne.symm nvl)))
 obtain ⟨cq133, kq133, q133a, q133b, q133c⟩ := isOf hZ q127_hh f130
 obtain ⟨_, _, ⟨T133, L133, k133, n133⟩, -, X133, ⟨Lc133, hQ133, l133, y133, z133⟩, st133⟩ := X127.interfaceBack hx (xi := oM42) (y := oM34) hown (mvT hZ (own_w hw 273 rfl)) (mvT hZ (own_w hw 193 rfl)) (mvT hZ (own_w hw 194 rfl)) (mvT hZ (own_w hw 195 rfl)) (mvT hZ (own_w hw 196 rfl)) (mvT hZ (own_w hw 197 rfl)) (mvT hZ (own_w hw 198 rfl)) (mvT hZ (own_w hw 199 rfl)) (by decide) (backOf (W := 0) (rm25 l Z a0 hw [] vl x0 x1 de kde el ea kea em mr h123 n0 (Nat.le_trans Z0 K124.1) f129 G f130 f131 f132 gx) hZ (own_w hw 200 rfl) (own_w hw 157 rfl) (by decide) (by decide)) q133a q133b q133c (g := (mkF m 23 (oLR2Iu4 a1 a2 0) [(.ref vl)])) rfl (by rw [hml]; rfl) (Steps.refl _) (argsL := []) (rest := []) (lenOf pd13 rfl) rfl (by show 2 * 0 + _ ≤ _; exact Nat.le_of_eq rfl) (hb hby d32_23) (fun _ _ => ⟨rfl, q127_hh, (by decide : 2 + 0 ≤ _), (by decide : 96 + 0 ≤ _)⟩)
 dsimp only [Pt.U, Pt.locs, Pt.cells, Pt.slots] at X133 l133 y133 z133 st133 hQ133
 subst l133 y133 z133
 obtain ⟨rfl, N133q, q133_hh⟩ := hQ133
 have N133 := Fr.app N127 N133q
 have p134 : GF p e below _ T133 m 31 (oLR2I2u3 a1 a2 0 2) [(.int 2), (.ref a1)] := fun t_ k_ => (gcT (gcT p125 st127) st133) t_ (by
  refine XS.istoreN X133.here hx rfl (hb hby d32_28) rfl (l' := (oLR2I2u3 a1 a2 0 2)) rfl ?_
  refine XS.aloadN X133.here hx rfl (hb hby d32_29) rfl rfl ?_
  refine XS.iloadN X133.here hx rfl (hb hby d32_30) rfl ?_
  exact k_)
 obtain ⟨T135, h135, k135, X135, e135, E135, A135, AE135, O135, st135⟩ := newRA (ty := .long) X133 hx hZ hown (by decide) (own_w hw 274 rfl) (own_w hw 275 rfl) q133_hh (g := (mkF m 31 (oLR2I2u3 a1 a2 0 2) [(.int 2), (.ref a1)])) rfl (hb hby d32_31) rfl (by decide) (cap := 2) (by decide) (by decide) (by decide) (by decide) (ad := "[[J") (by decide)
 obtain ⟨b135, g135⟩ : ∃ z, z = h123.size := ⟨_, rfl⟩
 rw [← g135] at A135 AE135 st135
 have f136 := (f122.wr W123)
 have ne_a1_b135 : a1 ≠ b135 := Nat.ne_of_lt (Nat.lt_of_lt_of_le f136.lt (Nat.le_of_eq g135.symm))
 have ne_a2_b135 : a2 ≠ b135 := Nat.ne_of_lt (Nat.lt_of_lt_of_le f128.lt (Nat.le_of_eq g135.symm))
 have ne_vl_b135 : vl ≠ b135 := Nat.ne_of_lt (Nat.lt_of_lt_of_le f130.lt (Nat.le_of_eq g135.symm))
 have f137 := ((f115.ext E111).wr W123)
 have ne_x0_b135 : x0 ≠ b135 := Nat.ne_of_lt (Nat.lt_of_lt_of_le f137.lt (Nat.le_of_eq g135.symm))
 have f138 := ((f116.ext E111).other W123 (Ne.symm nv0))
 have ne_v0_b135 : v0 ≠ b135 := Nat.ne_of_lt (Nat.lt_of_lt_of_le f138.lt (Nat.le_of_eq g135.symm))
 have f139 := ((f117.ext E111).wr W123)
 have ne_x1_b135 : x1 ≠ b135 := Nat.ne_of_lt (Nat.lt_of_lt_of_le f139.lt (Nat.le_of_eq g135.symm))
 have f140 := ((f118.ext E111).other W123 (Ne.symm nv1))
 have ne_v1_b135 : v1 ≠ b135 := Nat.ne_of_lt (Nat.lt_of_lt_of_le f140.lt (Nat.le_of_eq g135.symm))
 have f141 := ((f119.ext E111).wr W123)
 have ne_b104_b135 : b104 ≠ b135 := Nat.ne_of_lt (Nat.lt_of_lt_of_le f141.lt (Nat.le_of_eq g135.symm))
 have f142 := (AE111.wr W123)
 have ne_b111_b135 : b111 ≠ b135 := Nat.ne_of_lt (Nat.lt_of_lt_of_le f142.lt (Nat.le_of_eq g135.symm))
 have ge_b135 : n0 ≤ b135 := Nat.le_trans (Nat.le_trans Z0 K124.1) (Nat.le_of_eq g135.symm)
 have sz_b135 : h0.size ≤ b135 := Nat.le_trans K124.1 (Nat.le_of_eq g135.symm)
 have K143 : Keep h0 h135 [a1] := K124.ext E135
 have V135 : Arv Z h135 b135 k135 (.array .long) (2 : Int32) [.null, .null] .null := (Arv.new A135 (by decide)).pad (pad_rep [] .null 2)
 have f144 := (((((F3.ext E104).other W108 (Or.inr (slot_ne (Or.inr (own_w hw 277 rfl)) (Or.inl (own_w hw 265 rfl)) (by decide) (t := (.array (.array .long))) (t' := (.array .int)) (by decide) (by decide)))).ext E111).other W123 (Or.inr (slot_ne (Or.inr (own_w hw 277 rfl)) (Or.inr (own_w hw 267 rfl)) (by decide) (t := (.array (.array .long))) (t' := (.array .int)) (by decide) (by decide)))).ext E135)
 have f145 := (f136.ext E135)
 obtain ⟨T146, h146, X146, e146, W146, st146⟩ := putF X135 hx hZ hown (host := "") (Or.inl (own_w hw 276 rfl)) Via.refl e135 f144 f145 (Or.inr ⟨(own_w hw 277 rfl), rfl, hnm⟩) (own_w hw 90 rfl) (ty := (.array (.array .long))) (by decide) rfl rfl (g := (mkF m 34 (oLR2I2u3 a1 a2 0 2) [(.ref b135), (.ref a1)])) rfl rfl (hb hby d32_34)
 have K147 : Keep h0 h146 [a1] := K143.wr W146 (Or.inl (List.mem_of_getElem? (i := 0) rfl))
 have N146 := Fr.snoc X146 N133 g1
 have F146 : Fld Z h146 a1 "com/example/arcward/arcward/solver/Domains" "bits" "[[J" (.ref b135) := f144.same W146
 have p148 : GF p e below _ T146 m 39 (oLR2I2u3 a1 a2 0 2) [(.int 2), (.ref a1)] := fun t_ k_ => (gc (gc p134 st135) st146) t_ (by
  refine XS.aloadN X146.here hx rfl (hb hby d32_37) rfl rfl ?_
  refine XS.iloadN X146.here hx rfl (hb hby d32_38) rfl ?_
  exact k_)
 obtain ⟨T149, h149, k149, X149, e149, E149, A149, AE149, st149⟩ := newPE X146 hx hZ (own_w hw 0 rfl) e146 (g := (mkF m 39 (oLR2I2u3 a1 a2 0 2) [(.int 2), (.ref a1)])) rfl (hb hby d32_39) rfl (by decide) (cap := 2) (by decide) (by decide) (by decide) (by decide) (ad := "[I") (by decide)
 obtain ⟨b149, g149⟩ : ∃ z, z = h146.size := ⟨_, rfl⟩
 rw [← g149] at A149 AE149 st149
 have f150 := (f145.wr W146)
 have ne_a1_b149 : a1 ≠ b149 := Nat.ne_of_lt (Nat.lt_of_lt_of_le f150.lt (Nat.le_of_eq g149.symm))
 have f151 := ((f128.ext E135).wr W146)
 have ne_a2_b149 : a2 ≠ b149 := Nat.ne_of_lt (Nat.lt_of_lt_of_le f151.lt (Nat.le_of_eq g149.symm))
 have f152 := ((f130.ext E135).wr W146)
 have ne_vl_b149 : vl ≠ b149 := Nat.ne_of_lt (Nat.lt_of_lt_of_le f152.lt (Nat.le_of_eq g149.symm))
 have f153 := ((f137.ext E135).wr W146)
 have ne_x0_b149 : x0 ≠ b149 := Nat.ne_of_lt (Nat.lt_of_lt_of_le f153.lt (Nat.le_of_eq g149.symm))
 have f154 := ((f138.ext E135).other W146 (Ne.symm nv0))
 have ne_v0_b149 : v0 ≠ b149 := Nat.ne_of_lt (Nat.lt_of_lt_of_le f154.lt (Nat.le_of_eq g149.symm))
 have f155 := ((f139.ext E135).wr W146)
 have ne_x1_b149 : x1 ≠ b149 := Nat.ne_of_lt (Nat.lt_of_lt_of_le f155.lt (Nat.le_of_eq g149.symm))
 have f156 := ((f140.ext E135).other W146 (Ne.symm nv1))
 have ne_v1_b149 : v1 ≠ b149 := Nat.ne_of_lt (Nat.lt_of_lt_of_le f156.lt (Nat.le_of_eq g149.symm))
 have f157 := ((f141.ext E135).wr W146)
 have ne_b104_b149 : b104 ≠ b149 := Nat.ne_of_lt (Nat.lt_of_lt_of_le f157.lt (Nat.le_of_eq g149.symm))
 have f158 := ((f142.ext E135).wr W146)
 have ne_b111_b149 : b111 ≠ b149 := Nat.ne_of_lt (Nat.lt_of_lt_of_le f158.lt (Nat.le_of_eq g149.symm))
 have f159 := (AE135.wr W146)
 have ne_b135_b149 : b135 ≠ b149 := Nat.ne_of_lt (Nat.lt_of_lt_of_le f159.lt (Nat.le_of_eq g149.symm))
 have ge_b149 : n0 ≤ b149 := Nat.le_trans (Nat.le_trans Z0 K147.1) (Nat.le_of_eq g149.symm)
 have sz_b149 : h0.size ≤ b149 := Nat.le_trans K147.1 (Nat.le_of_eq g149.symm)
 have K160 : Keep h0 h149 [a1] := K147.ext E149
 have V149 : Arv Z h149 b149 k149 .int (2 : Int32) [(.int 0), (.int 0)] (.int 0) := (Arv.new A149 (by decide)).pad (pad_rep [] (.int 0) 2)
 have f161 := (((((((F4.ext E104).other W108 (Or.inr (slot_ne (Or.inr (own_w hw 279 rfl)) (Or.inl (own_w hw 265 rfl)) (by decide) (t := (.array .int)) (t' := (.array .int)) (by decide) (by decide)))).ext E111).other W123 (Or.inr (slot_ne (Or.inr (own_w hw 279 rfl)) (Or.inr (own_w hw 267 rfl)) (by decide) (t := (.array .int)) (t' := (.array .int)) (by decide) (by decide)))).ext E135).other W146 (Or.inr (slot_ne (Or.inr (own_w hw 279 rfl)) (Or.inr (own_w hw 277 rfl)) (by decide) (t := (.array .int)) (t' := (.array (.array .long))) (by decide) (by decide)))).ext E149)
 have f162 := (f150.ext E149)
 obtain ⟨T163, h163, X163, e163, W163, st163⟩ := putF X149 hx hZ hown (host := "") (Or.inl (own_w hw 278 rfl)) Via.refl e149 f161 f162 (Or.inr ⟨(own_w hw 279 rfl), rfl, hnm⟩) (own_w hw 90 rfl) (ty := (.array .int)) (by decide) rfl rfl (g := (mkF m 41 (oLR2I2u3 a1 a2 0 2) [(.ref b149), (.ref a1)])) rfl rfl (hb hby d32_41)
 have K164 : Keep h0 h163 [a1] := K160.wr W163 (Or.inl (List.mem_of_getElem? (i := 0) rfl))
 have N163 := Fr.snoc X163 N146 g1
 have F163 : Fld Z h163 a1 "com/example/arcward/arcward/solver/Domains" "sizes" "[I" (.ref b149) := f161.same W163
 have p165 : GF p e below _ T163 m 46 (oLR2I2u3 a1 a2 0 2) [(.int 2), (.ref a1)] := fun t_ k_ => (gc (gc p148 st149) st163) t_ (by
  refine XS.aloadN X163.here hx rfl (hb hby d32_44) rfl rfl ?_
  refine XS.iloadN X163.here hx rfl (hb hby d32_45) rfl ?_
  exact k_)
 obtain ⟨T166, h166, k166, X166, e166, E166, A166, AE166, st166⟩ := newPE X163 hx hZ (own_w hw 0 rfl) e163 (g := (mkF m 46 (oLR2I2u3 a1 a2 0 2) [(.int 2), (.ref a1)])) rfl (hb hby d32_46) rfl (by decide) (cap := 2) (by decide) (by decide) (by decide) (by decide) (ad := "[I") (by decide)
 obtain ⟨b166, g166⟩ : ∃ z, z = h163.size := ⟨_, rfl⟩
 rw [← g166] at A166 AE166 st166
 have f167 := (f162.wr W163)
 have ne_a1_b166 : a1 ≠ b166 := Nat.ne_of_lt (Nat.lt_of_lt_of_le f167.lt (Nat.le_of_eq g166.symm))
 have f168 := ((f151.ext E149).wr W163)
 have ne_a2_b166 : a2 ≠ b166 := Nat.ne_of_lt (Nat.lt_of_lt_of_le f168.lt (Nat.le_of_eq g166.symm))
 have f169 := ((f152.ext E149).wr W163)
 have ne_vl_b166 : vl ≠ b166 := Nat.ne_of_lt (Nat.lt_of_lt_of_le f169.lt (Nat.le_of_eq g166.symm))
 have f170 := ((f153.ext E149).wr W163)
 have ne_x0_b166 : x0 ≠ b166 := Nat.ne_of_lt (Nat.lt_of_lt_of_le f170.lt (Nat.le_of_eq g166.symm))
 have f171 := ((f154.ext E149).other W163 (Ne.symm nv0))
 have ne_v0_b166 : v0 ≠ b166 := Nat.ne_of_lt (Nat.lt_of_lt_of_le f171.lt (Nat.le_of_eq g166.symm))
 have f172 := ((f155.ext E149).wr W163)
 have ne_x1_b166 : x1 ≠ b166 := Nat.ne_of_lt (Nat.lt_of_lt_of_le f172.lt (Nat.le_of_eq g166.symm))
 have f173 := ((f156.ext E149).other W163 (Ne.symm nv1))
 have ne_v1_b166 : v1 ≠ b166 := Nat.ne_of_lt (Nat.lt_of_lt_of_le f173.lt (Nat.le_of_eq g166.symm))
 have f174 := ((f157.ext E149).wr W163)
 have ne_b104_b166 : b104 ≠ b166 := Nat.ne_of_lt (Nat.lt_of_lt_of_le f174.lt (Nat.le_of_eq g166.symm))
 have f175 := ((f158.ext E149).wr W163)
 have ne_b111_b166 : b111 ≠ b166 := Nat.ne_of_lt (Nat.lt_of_lt_of_le f175.lt (Nat.le_of_eq g166.symm))
 have f176 := ((f159.ext E149).wr W163)
 have ne_b135_b166 : b135 ≠ b166 := Nat.ne_of_lt (Nat.lt_of_lt_of_le f176.lt (Nat.le_of_eq g166.symm))
 have f177 := (AE149.wr W163)
 have ne_b149_b166 : b149 ≠ b166 := Nat.ne_of_lt (Nat.lt_of_lt_of_le f177.lt (Nat.le_of_eq g166.symm))
 have ge_b166 : n0 ≤ b166 := Nat.le_trans (Nat.le_trans Z0 K164.1) (Nat.le_of_eq g166.symm)
 have sz_b166 : h0.size ≤ b166 := Nat.le_trans K164.1 (Nat.le_of_eq g166.symm)
 have K178 : Keep h0 h166 [a1] := K164.ext E166
 have V166 : Arv Z h166 b166 k166 .int (2 : Int32) [(.int 0), (.int 0)] (.int 0) := (Arv.new A166 (by decide)).pad (pad_rep [] (.int 0) 2)
 have f179 := (((((((((F5.ext E104).other W108 (Or.inr (slot_ne (Or.inr (own_w hw 281 rfl)) (Or.inl (own_w hw 265 rfl)) (by decide) (t := (.array .int)) (t' := (.array .int)) (by decide) (by decide)))).ext E111).other W123 (Or.inr (slot_ne (Or.inr (own_w hw 281 rfl)) (Or.inr (own_w hw 267 rfl)) (by decide) (t := (.array .int)) (t' := (.array .int)) (by decide) (by decide)))).ext E135).other W146 (Or.inr (slot_ne (Or.inr (own_w hw 281 rfl)) (Or.inr (own_w hw 277 rfl)) (by decide) (t := (.array .int)) (t' := (.array (.array .long))) (by decide) (by decide)))).ext E149).other W163 (Or.inr (slot_ne (Or.inr (own_w hw 281 rfl)) (Or.inr (own_w hw 279 rfl)) (by decide) (t := (.array .int)) (t' := (.array .int)) (by decide) (by decide)))).ext E166)
 have f180 := (f167.ext E166)
 obtain ⟨T181, h181, X181, e181, W181, st181⟩ := putF X166 hx hZ hown (host := "") (Or.inl (own_w hw 280 rfl)) Via.refl e166 f179 f180 (Or.inr ⟨(own_w hw 281 rfl), rfl, hnm⟩) (own_w hw 90 rfl) (ty := (.array .int)) (by decide) rfl rfl (g := (mkF m 48 (oLR2I2u3 a1 a2 0 2) [(.ref b166), (.ref a1)])) rfl rfl (hb hby d32_48)
 have K182 : Keep h0 h181 [a1] := K178.wr W181 (Or.inl (List.mem_of_getElem? (i := 0) rfl))
 have N181 := Fr.snoc X181 N163 g1
 have F181 : Fld Z h181 a1 "com/example/arcward/arcward/solver/Domains" "resized" "[I" (.ref b166) := f179.same W181
 have p183 : GF p e below _ T181 m 53 (oLR2I2u3 a1 a2 0 2) [(.int 2), (.ref a1)] := fun t_ k_ => (gc (gc p165 st166) st181) t_ (by
  refine XS.aloadN X181.here hx rfl (hb hby d32_51) rfl rfl ?_
  refine XS.iloadN X181.here hx rfl (hb hby d32_52) rfl ?_
  exact k_)
 obtain ⟨T184, h184, k184, X184, e184, E184, A184, AE184, st184⟩ := newPE X181 hx hZ (own_w hw 282 rfl) e181 (g := (mkF m 53 (oLR2I2u3 a1 a2 0 2) [(.int 2), (.ref a1)])) rfl (hb hby d32_53) rfl (by decide) (cap := 2) (by decide) (by decide) (by decide) (by decide) (ad := "[Z") (by decide)
 obtain ⟨b184, g184⟩ : ∃ z, z = h181.size := ⟨_, rfl⟩
 rw [← g184] at A184 AE184 st184
 have f185 := (f180.wr W181)
 have ne_a1_b184 : a1 ≠ b184 := Nat.ne_of_lt (Nat.lt_of_lt_of_le f185.lt (Nat.le_of_eq g184.symm))
 have f186 := ((f168.ext E166).wr W181)
 have ne_a2_b184 : a2 ≠ b184 := Nat.ne_of_lt (Nat.lt_of_lt_of_le f186.lt (Nat.le_of_eq g184.symm))
 have f187 := ((f169.ext E166).wr W181)
 have ne_vl_b184 : vl ≠ b184 := Nat.ne_of_lt (Nat.lt_of_lt_of_le f187.lt (Nat.le_of_eq g184.symm))
 have f188 := ((f170.ext E166).wr W181)
 have ne_x0_b184 : x0 ≠ b184 := Nat.ne_of_lt (Nat.lt_of_lt_of_le f188.lt (Nat.le_of_eq g184.symm))
 have f189 := ((f171.ext E166).other W181 (Ne.symm nv0))
 have ne_v0_b184 : v0 ≠ b184 := Nat.ne_of_lt (Nat.lt_of_lt_of_le f189.lt (Nat.le_of_eq g184.symm))
 have f190 := ((f172.ext E166).wr W181)
 have ne_x1_b184 : x1 ≠ b184 := Nat.ne_of_lt (Nat.lt_of_lt_of_le f190.lt (Nat.le_of_eq g184.symm))
 have f191 := ((f173.ext E166).other W181 (Ne.symm nv1))
 have ne_v1_b184 : v1 ≠ b184 := Nat.ne_of_lt (Nat.lt_of_lt_of_le f191.lt (Nat.le_of_eq g184.symm))
 have f192 := ((f174.ext E166).wr W181)
 have ne_b104_b184 : b104 ≠ b184 := Nat.ne_of_lt (Nat.lt_of_lt_of_le f192.lt (Nat.le_of_eq g184.symm))
 have f193 := ((f175.ext E166).wr W181)
 have ne_b111_b184 : b111 ≠ b184 := Nat.ne_of_lt (Nat.lt_of_lt_of_le f193.lt (Nat.le_of_eq g184.symm))
 have f194 := ((f176.ext E166).wr W181)
 have ne_b135_b184 : b135 ≠ b184 := Nat.ne_of_lt (Nat.lt_of_lt_of_le f194.lt (Nat.le_of_eq g184.symm))
 have f195 := ((f177.ext E166).wr W181)
 have ne_b149_b184 : b149 ≠ b184 := Nat.ne_of_lt (Nat.lt_of_lt_of_le f195.lt (Nat.le_of_eq g184.symm))
 have f196 := (AE166.wr W181)
 have ne_b166_b184 : b166 ≠ b184 := Nat.ne_of_lt (Nat.lt_of_lt_of_le f196.lt (Nat.le_of_eq g184.symm))
 have ge_b184 : n0 ≤ b184 := Nat.le_trans (Nat.le_trans Z0 K182.1) (Nat.le_of_eq g184.symm)
 have sz_b184 : h0.size ≤ b184 := Nat.le_trans K182.1 (Nat.le_of_eq g184.symm)
 have K197 : Keep h0 h184 [a1] := K182.ext E184
 have V184 : Arv Z h184 b184 k184 .boolean (2 : Int32) [(.int 0), (.int 0)] (.int 0) := (Arv.new A184 (by decide)).pad (pad_rep [] (.int 0) 2)
 have f198 := (((((((((((F6.ext E104).other W108 (Or.inr (slot_ne (Or.inr (own_w hw 284 rfl)) (Or.inl (own_w hw 265 rfl)) (by decide) (t := (.array .boolean)) (t' := (.array .int)) (by decide) (by decide)))).ext E111).other W123 (Or.inr (slot_ne (Or.inr (own_w hw 284 rfl)) (Or.inr (own_w hw 267 rfl)) (by decide) (t := (.array .boolean)) (t' := (.array .int)) (by decide) (by decide)))).ext E135).other W146 (Or.inr (slot_ne (Or.inr (own_w hw 284 rfl)) (Or.inr (own_w hw 277 rfl)) (by decide) (t := (.array .boolean)) (t' := (.array (.array .long))) (by decide) (by decide)))).ext E149).other W163 (Or.inr (slot_ne (Or.inr (own_w hw 284 rfl)) (Or.inr (own_w hw 279 rfl)) (by decide) (t := (.array .boolean)) (t' := (.array .int)) (by decide) (by decide)))).ext E166).other W181 (Or.inr (slot_ne (Or.inr (own_w hw 284 rfl)) (Or.inr (own_w hw 281 rfl)) (by decide) (t := (.array .boolean)) (t' := (.array .int)) (by decide) (by decide)))).ext E184)
 have f199 := (f185.ext E184)
 obtain ⟨T200, h200, X200, e200, W200, st200⟩ := putF X184 hx hZ hown (host := "") (Or.inl (own_w hw 283 rfl)) Via.refl e184 f198 f199 (Or.inr ⟨(own_w hw 284 rfl), rfl, hnm⟩) (own_w hw 90 rfl) (ty := (.array .boolean)) (by decide) rfl rfl (g := (mkF m 55 (oLR2I2u3 a1 a2 0 2) [(.ref b184), (.ref a1)])) rfl rfl (hb hby d32_55)
 have K201 : Keep h0 h200 [a1] := K197.wr W200 (Or.inl (List.mem_of_getElem? (i := 0) rfl))
 have N200 := Fr.snoc X200 N181 g1
 have F200 : Fld Z h200 a1 "com/example/arcward/arcward/solver/Domains" "inResized" "[Z" (.ref b184) := f198.same W200
 have p202 : GF p e below _ T200 m 68 (oLR2I3u2 a1 a2 0 2 0) [(.ref a2)] := fun t_ k_ => (gc (gc p183 st184) st200) t_ (by
  refine XS.iconst X200.here hx rfl (hb hby d32_58) ?_
  refine XS.istore X200.here hx rfl (hb hby d32_59) rfl (l' := (oLR2I3u2 a1 a2 0 2 0)) rfl ?_
  refine XS.iload X200.here hx rfl (hb hby d32_61) rfl ?_
  refine XS.iloadN X200.here hx rfl (hb hby d32_63) rfl ?_
  refine XS.icmpNo X200.here hx rfl (hb hby d32_64) rfl (tlt (by decide : ((0 : Int32) < (2 : Int32)))).2.1 ?_
  refine XS.aloadN X200.here hx rfl (hb hby d32_67) rfl rfl ?_
  exact k_)
 have f203 := ((((((((f126.ext E135).other W146 (Or.inl (Ne.symm na2))).ext E149).other W163 (Or.inl (Ne.symm na2))).ext E166).other W181 (Or.inl (Ne.symm na2))).ext E184).other W200 (Or.inl (Ne.symm na2)))
 have f205 := ((f186.ext E184).wr W200)
 obtain ⟨cq204, kq204, q204a, q204b, q204c⟩ := isOf hZ e200 f205
 obtain ⟨_, _, ⟨T204, L204, k204, n204⟩, -, X204, ⟨Lc204, hQ204, l204, y204, z204⟩, st204⟩ := X200.virtualBack hx (y := oM1) (z := oM1) hown (mvT hZ (own_w hw 268 rfl)) (mvT hZ (own_w hw 269 rfl)) (notFace_of_selects (args := #[]) (mvT hZ (own_w hw 271 rfl))) (mvT hZ (own_w hw 271 rfl)) (mvT hZ (own_w hw 270 rfl)) (by decide) (backOf (W := 0) (rm33 l Z a0 hw [] a2 vl h200 n0 (Nat.le_trans Z0 K201.1) f203) hZ (own_w hw 272 rfl) (own_w hw 94 rfl) (by decide) (by decide)) q204a q204c (g := (mkF m 68 (oLR2I3u2 a1 a2 0 2 0) [(.ref a2)])) rfl (by rw [hml]; rfl) (Steps.refl _) (argsL := []) (rest := []) (lenOf pd12 rfl) rfl (by show 2 * 0 + _ ≤ _; exact Nat.le_of_eq rfl) (hb hby d32_68) (fun _ _ => ⟨rfl, e200, (by decide : 6 + 0 ≤ _), (by decide : 104 + 0 ≤ _)⟩)
 dsimp only [Pt.U, Pt.locs, Pt.cells, Pt.slots] at X204 l204 y204 z204 st204 hQ204
 subst l204 y204 z204
 obtain ⟨rfl, N204q, q204_hh⟩ := hQ204
 have N204 := Fr.app N200 N204q
 have p206 : GF p e below _ T204 m 73 (oLR2I3u2 a1 a2 0 2 0) [(.int 0), (.ref vl)] := fun t_ k_ => (gcT p202 st204) t_ (by
  refine XS.iload X204.here hx rfl (hb hby d32_71) rfl ?_
  exact k_)
 have f207 := ((((((((f129.ext E135).wr W146 g1).ext E149).wr W163 g1).ext E166).wr W181 g1).ext E184).wr W200 g1)
 have f208 := ((f187.ext E184).wr W200)
 have f209 := ((((((((f131.ext E135).other W146 (Or.inl (Ne.symm nvl))).ext E149).other W163 (Or.inl (Ne.symm nvl))).ext E166).other W181 (Or.inl (Ne.symm nvl))).ext E184).other W200 (Or.inl (Ne.symm nvl)))
 have f210 := ((((((((f132.ext E135).other W146 (Or.inl (Ne.symm nvl))).ext E149).other W163 (Or.inl (Ne.symm nvl))).ext E166).other W181 (Or.inl (Ne.symm nvl))).ext E184).other W200 (Or.inl (Ne.symm nvl)))
 obtain ⟨cq211, kq211, q211a, q211b, q211c⟩ := isOf hZ q204_hh f208
 obtain ⟨_, _, ⟨T211, L211, k211, n211⟩, -, X211, ⟨Lc211, hQ211, l211, y211, z211⟩, st211⟩ := X204.interfaceBack hx (xi := oM39) (y := oM33) hown (mvT hZ (own_w hw 285 rfl)) (mvT hZ (own_w hw 203 rfl)) (mvT hZ (own_w hw 204 rfl)) (mvT hZ (own_w hw 205 rfl)) (mvT hZ (own_w hw 206 rfl)) (mvT hZ (own_w hw 207 rfl)) (mvT hZ (own_w hw 208 rfl)) (mvT hZ (own_w hw 199 rfl)) (by decide) (backOf (W := 0) (rm26_0 l Z a0 hw [] vl x0 x1 de kde el ea kea em mr h200 n0 (Nat.le_trans Z0 K201.1) f207 G f208 f209 f210 gx) hZ (own_w hw 209 rfl) (own_w hw 157 rfl) (by decide) (by decide)) q211a q211b q211c (g := (mkF m 73 (oLR2I3u2 a1 a2 0 2 0) [(.int 0), (.ref vl)])) rfl (by rw [hml]; rfl) (Steps.refl _) (argsL := [(.int 0)]) (rest := []) (lenOf pd15 rfl) rfl (by show 2 * 0 + _ ≤ _; exact Nat.le_of_eq rfl) (hb hby d32_73) (fun _ _ => ⟨rfl, q204_hh, (by decide : 6 + 0 ≤ _), (by decide : 104 + 0 ≤ _)⟩)
 dsimp only [Pt.U, Pt.locs, Pt.cells, Pt.slots] at X211 l211 y211 z211 st211 hQ211
 subst l211 y211 z211
 obtain ⟨rfl, N211q, q211_hh⟩ := hQ211
 have N211 := Fr.app N204 N211q
 have f212 := ((f188.ext E184).wr W200)
 obtain ⟨T213, X213, e213, st213⟩ := castY X211 hx hZ hown (own_w hw 286 rfl) q211_hh (Ins.self f212) (g := (mkF m 78 (oLR2I3u2 a1 a2 0 2 0) [(.ref x0)])) rfl rfl (hb hby d32_78)
 have f214 := ((((((((((((Y1.ext E104).other W108 (Or.inl (Ne.symm nx0))).ext E111).other W123 (Or.inl (Ne.symm nx0))).ext E135).other W146 (Or.inl (Ne.symm nx0))).ext E149).other W163 (Or.inl (Ne.symm nx0))).ext E166).other W181 (Or.inl (Ne.symm nx0))).ext E184).other W200 (Or.inl (Ne.symm nx0)))
 have f215 := ((f189.ext E184).other W200 (Ne.symm nv0))
 obtain ⟨cq216, kq216, q216a, q216b, q216c⟩ := isOf hZ e213 f212
 obtain ⟨_, _, ⟨T216, L216, k216, n216⟩, -, X216, ⟨Lc216, hQ216, l216, y216, z216⟩, st216⟩ := X213.virtualBack hx (y := oM4) (z := oM4) hown (mvT hZ (own_w hw 287 rfl)) (mvT hZ (own_w hw 288 rfl)) (notFace_of_selects (args := #[]) (mvT hZ (own_w hw 290 rfl))) (mvT hZ (own_w hw 290 rfl)) (mvT hZ (own_w hw 289 rfl)) (by decide) (backOf (W := 0) (rm34_70 l Z a0 hw [] x0 v0 kv0 vv0 h200 n0 (Nat.le_trans Z0 K201.1) f214 f215) hZ (own_w hw 291 rfl) (own_w hw 29 rfl) (by decide) (by decide)) q216a q216c (g := (mkF m 81 (oLR2I3u2 a1 a2 0 2 0) [(.ref x0)])) rfl (by rw [hml]; rfl) (Steps.refl _) (argsL := []) (rest := []) (lenOf pd13 rfl) rfl (by show 2 * 0 + _ ≤ _; exact Nat.le_of_eq rfl) (hb hby d32_81) (fun _ _ => ⟨rfl, e213, (by decide : 6 + 0 ≤ _), (by decide : 104 + 0 ≤ _)⟩)
 dsimp only [Pt.U, Pt.locs, Pt.cells, Pt.slots] at X216 l216 y216 z216 st216 hQ216
 subst l216 y216 z216
 obtain ⟨rfl, N216q, q216_hh⟩ := hQ216
 have N216 := Fr.app N211 N216q
 have p217 : GF p e below _ T216 m 87 (oLR2I4u a1 a2 0 2 0 70) [(.ref a1)] := fun t_ k_ => (gcT (gc (gcT p206 st211) st213) st216) t_ (by
  refine XS.istore X216.here hx rfl (hb hby d32_84) rfl (l' := (oLR2I4u a1 a2 0 2 0 70)) rfl ?_
  refine XS.aloadN X216.here hx rfl (hb hby d32_86) rfl rfl ?_
  exact k_)
 have f218 := ((((((F146.ext E149).other W163 (Or.inr (slot_ne (Or.inr (own_w hw 277 rfl)) (Or.inr (own_w hw 279 rfl)) (by decide) (t := (.array (.array .long))) (t' := (.array .int)) (by decide) (by decide)))).ext E166).other W181 (Or.inr (slot_ne (Or.inr (own_w hw 277 rfl)) (Or.inr (own_w hw 281 rfl)) (by decide) (t := (.array (.array .long))) (t' := (.array .int)) (by decide) (by decide)))).ext E184).other W200 (Or.inr (slot_ne (Or.inr (own_w hw 277 rfl)) (Or.inr (own_w hw 284 rfl)) (by decide) (t := (.array (.array .long))) (t' := (.array .boolean)) (by decide) (by decide))))
 obtain ⟨T219, X219, e219, st219⟩ := getF X216 hx hZ hown (host := "") (Or.inl (own_w hw 276 rfl)) Via.refl q216_hh f218 (g := (mkF m 87 (oLR2I4u a1 a2 0 2 0 70) [(.ref a1)])) rfl rfl (hb hby d32_87)
 have p220 : GF p e below _ T219 m 94 (oLR2I4u a1 a2 0 2 0 70) [(.int 70), (.int 0), (.ref b135)] := fun t_ k_ => (gc p217 st219) t_ (by
  refine XS.iload X219.here hx rfl (hb hby d32_90) rfl ?_
  refine XS.iload X219.here hx rfl (hb hby d32_92) rfl ?_
  exact k_)
 obtain ⟨_, _, ⟨T221, L221, k221, n221⟩, -, X221, ⟨Lc221, hQ221, l221, y221, z221⟩, st221⟩ := Jvm.LawKit.callS X219 hx (y := oM12) hown (mvT hZ (own_w hw 292 rfl)) (mvT hZ (own_w hw 293 rfl)) (mvT hZ (own_w hw 91 rfl)) (mvT hZ (own_w hw 294 rfl)) (by decide) (backOf (W := 2) (rm35_70 l Z a0 hw []  h200 n0 (Nat.le_trans Z0 K201.1) ) hZ (own_w hw 294 rfl) (own_w hw 91 rfl) (by decide) (by decide)) (g := (mkF m 94 (oLR2I4u a1 a2 0 2 0 70) [(.int 70), (.int 0), (.ref b135)])) rfl (by rw [hml]; rfl) (argsL := [(.int 70)]) (rest := [(.int 0), (.ref b135)]) (lenOf pd17 rfl) rfl (by show 2 * 0 + _ ≤ _; exact Nat.le_of_eq rfl) (hb hby d32_94) (fun _ _ => ⟨rfl, e219, (by decide : 6 + 0 ≤ _), (by decide : 104 + 0 ≤ _)⟩)
 dsimp only [Pt.U, Pt.locs, Pt.cells, Pt.slots] at X221 l221 y221 z221 st221 hQ221
 subst l221 y221 z221
 obtain ⟨rfl, N221q, q221_hh⟩ := hQ221
 have N221 := Fr.app N216 N221q
 obtain ⟨T222, h222, k222, X222, e222, E222, A222, AE222, st222⟩ := newPE X221 hx hZ (own_w hw 295 rfl) q221_hh (g := (mkF m 97 (oLR2I4u a1 a2 0 2 0 70) [(.int 2), (.int 0), (.ref b135)])) rfl (hb hby d32_97) rfl (by decide) (cap := 2) (by decide) (by decide) (by decide) (by decide) (ad := "[J") (by decide)
 obtain ⟨b222, g222⟩ : ∃ z, z = h200.size := ⟨_, rfl⟩
 rw [← g222] at A222 AE222 st222
 have f223 := (f199.wr W200)
 have ne_a1_b222 : a1 ≠ b222 := Nat.ne_of_lt (Nat.lt_of_lt_of_le f223.lt (Nat.le_of_eq g222.symm))
 have ne_a2_b222 : a2 ≠ b222 := Nat.ne_of_lt (Nat.lt_of_lt_of_le f205.lt (Nat.le_of_eq g222.symm))
 have ne_vl_b222 : vl ≠ b222 := Nat.ne_of_lt (Nat.lt_of_lt_of_le f208.lt (Nat.le_of_eq g222.symm))
 have ne_x0_b222 : x0 ≠ b222 := Nat.ne_of_lt (Nat.lt_of_lt_of_le f212.lt (Nat.le_of_eq g222.symm))
 have ne_v0_b222 : v0 ≠ b222 := Nat.ne_of_lt (Nat.lt_of_lt_of_le f215.lt (Nat.le_of_eq g222.symm))
 have f224 := ((f190.ext E184).wr W200)
 have ne_x1_b222 : x1 ≠ b222 := Nat.ne_of_lt (Nat.lt_of_lt_of_le f224.lt (Nat.le_of_eq g222.symm))
 have f225 := ((f191.ext E184).other W200 (Ne.symm nv1))
 have ne_v1_b222 : v1 ≠ b222 := Nat.ne_of_lt (Nat.lt_of_lt_of_le f225.lt (Nat.le_of_eq g222.symm))
 have f226 := ((f192.ext E184).wr W200)
 have ne_b104_b222 : b104 ≠ b222 := Nat.ne_of_lt (Nat.lt_of_lt_of_le f226.lt (Nat.le_of_eq g222.symm))
 have f227 := ((f193.ext E184).wr W200)
 have ne_b111_b222 : b111 ≠ b222 := Nat.ne_of_lt (Nat.lt_of_lt_of_le f227.lt (Nat.le_of_eq g222.symm))
 have f228 := ((f194.ext E184).wr W200)
 have ne_b135_b222 : b135 ≠ b222 := Nat.ne_of_lt (Nat.lt_of_lt_of_le f228.lt (Nat.le_of_eq g222.symm))
 have f229 := ((f195.ext E184).wr W200)
 have ne_b149_b222 : b149 ≠ b222 := Nat.ne_of_lt (Nat.lt_of_lt_of_le f229.lt (Nat.le_of_eq g222.symm))
 have f230 := ((f196.ext E184).wr W200)
 have ne_b166_b222 : b166 ≠ b222 := Nat.ne_of_lt (Nat.lt_of_lt_of_le f230.lt (Nat.le_of_eq g222.symm))
 have f231 := (AE184.wr W200)
 have ne_b184_b222 : b184 ≠ b222 := Nat.ne_of_lt (Nat.lt_of_lt_of_le f231.lt (Nat.le_of_eq g222.symm))
 have ge_b222 : n0 ≤ b222 := Nat.le_trans (Nat.le_trans Z0 K201.1) (Nat.le_of_eq g222.symm)
 have sz_b222 : h0.size ≤ b222 := Nat.le_trans K201.1 (Nat.le_of_eq g222.symm)
 have K232 : Keep h0 h222 [a1] := K201.ext E222
 have V222 : Arv Z h222 b222 k222 .long (2 : Int32) [(.long 0), (.long 0)] (.long 0) := (Arv.new A222 (by decide)).pad (pad_rep [] (.long 0) 2)
 have f233 := ((((((((V135.other W146 (Ne.symm ne_a1_b135)).ext E149).other W163 (Ne.symm ne_a1_b135)).ext E166).other W181 (Ne.symm ne_a1_b135)).ext E184).other W200 (Ne.symm ne_a1_b135)).ext E222)
 obtain ⟨cl234, Ar234, q234, S234, Ng234, H234, G234⟩ := id f233
 have hin234 := inb_of S234 (j := (0 : Int32)) ⟨by decide, by decide⟩
 obtain ⟨T234, h234, X234, e234, W234, st234⟩ := stR X222 hx hZ e222 Ar234 (j := (0 : Int32)) hin234 rfl (Sto.ofVA Ar234 q234 O135 (Ins.self AE222)) (g := (mkF m 99 (oLR2I4u a1 a2 0 2 0 70) [(.ref b222), (.int 0), (.ref b135)])) rfl rfl (hb hby d32_99)
 have K235 : Keep h0 h234 [a1] := K232.wr W234 (Or.inr sz_b135)
 have N234 := Fr.snoc X234 N221 ge_b135
 have V234 : Arv Z h234 b135 k135 (.array .long) (2 : Int32) [(.ref b222), .null] .null := Arv.set Ar234 q234 S234 Ng234 H234 G234 rfl W234 0 rfl (Nat.le_of_ble_eq_true rfl)
 have p236 : GF p e below _ T234 m 103 (oLR2I5 a1 a2 0 2 0 70 0) [] := fun t_ k_ => (gc (gc (gc p220 st221) st222) st234) t_ (by
  refine XS.iconst X234.here hx rfl (hb hby d32_100) ?_
  refine XS.istore X234.here hx rfl (hb hby d32_101) rfl (l' := (oLR2I5 a1 a2 0 2 0 70 0)) rfl ?_
  exact k_)
 have p238 : GF p e below _ T234 m 103 (oLR2I5 a1 a2 0 2 0 70 (Int32.ofNat 0)) [] := p236
 have f239 := (V222.other W234 (Ne.symm ne_b135_b222))
 have vs237 : Arv Z h234 b222 k222 .long (2 : Int32) (own_ls (own_rw 2 0)) (.long 0) := f239
 have f240 := ((f218.ext E222).other W234 (Or.inl ne_a1_b135))
 obtain ⟨T237, h237, lc237, X237, e237, N237, K237, V237, g237⟩ := lpD0 Z a0 hx hZ hw hby hml hown a1 a2 b135 b222 k135 k222 n0 7 106 ne_a1_b222 ne_b135_b222 ge_b222 70 0 T234 h234 _ (by omega) X234 e234 (Nat.le_trans Z0 K235.1) N234 f240 V234 vs237
 have K241 : Keep h0 h237 [a1] := K235.trans K237 (allS (Or.inr sz_b222) all0)
 have p242 : GF p e below _ T237 m 136 (oLR2I5 a1 a2 0 2 0 70 (Int32.ofNat 70)) [] := fun t_ k_ => p238 t_ (g237 t_ k_)
 have VE237 : Arv Z h237 b222 k222 .long (2 : Int32) [(.long (-1)), (.long 63)] (.long 0) := by rw [own_rw70] at V237; exact V237
 have p243 : GF p e below _ T237 m 137 (oLR2I5 a1 a2 0 2 0 70 (Int32.ofNat 70)) [(.ref a1)] := fun t_ k_ => p242 t_ (by
  refine XS.aloadN X237.here hx rfl (hb hby d32_136) rfl rfl ?_
  exact k_)
 have f244 := (((((((F163.ext E166).other W181 (Or.inr (slot_ne (Or.inr (own_w hw 279 rfl)) (Or.inr (own_w hw 281 rfl)) (by decide) (t := (.array .int)) (t' := (.array .int)) (by decide) (by decide)))).ext E184).other W200 (Or.inr (slot_ne (Or.inr (own_w hw 279 rfl)) (Or.inr (own_w hw 284 rfl)) (by decide) (t := (.array .int)) (t' := (.array .boolean)) (by decide) (by decide)))).ext E222).other W234 (Or.inl ne_a1_b135)).keep K237 (ninS ne_a1_b222 nin0))
 obtain ⟨T245, X245, e245, st245⟩ := getF X237 hx hZ hown (host := "") (Or.inl (own_w hw 278 rfl)) Via.refl e237 f244 (g := (mkF m 137 (oLR2I5 a1 a2 0 2 0 70 (Int32.ofNat 70)) [(.ref a1)])) rfl rfl (hb hby d32_137)
 have p246 : GF p e below _ T245 m 144 (oLR2I5 a1 a2 0 2 0 70 (Int32.ofNat 70)) [(.int 70), (.int 0), (.ref b149)] := fun t_ k_ => (gc p243 st245) t_ (by
  refine XS.iload X245.here hx rfl (hb hby d32_140) rfl ?_
  refine XS.iload X245.here hx rfl (hb hby d32_142) rfl ?_
  exact k_)
 have f247 := ((((((((V149.other W163 (Ne.symm ne_a1_b149)).ext E166).other W181 (Ne.symm ne_a1_b149)).ext E184).other W200 (Ne.symm ne_a1_b149)).ext E222).other W234 (Ne.symm ne_b135_b149)).keep K237 (ninS ne_b149_b222 nin0))
 obtain ⟨cl248, Ar248, q248, S248, Ng248, H248, G248⟩ := id f247
 have hin248 := inb_of S248 (j := (0 : Int32)) ⟨by decide, by decide⟩
 obtain ⟨T248, h248, X248, e248, W248, st248⟩ := stI X245 hx hZ e245 Ar248 (j := (0 : Int32)) hin248 (g := (mkF m 144 (oLR2I5 a1 a2 0 2 0 70 (Int32.ofNat 70)) [(.int 70), (.int 0), (.ref b149)])) rfl rfl (hb hby d32_144)
 have K249 : Keep h0 h248 [a1] := K241.wr W248 (Or.inr sz_b149)
 have N248 := Fr.snoc X248 N237 ge_b149
 have V248 : Arv Z h248 b149 k149 .int (2 : Int32) [(.int 70), (.int 0)] (.int 0) := Arv.set Ar248 q248 S248 Ng248 H248 G248 rfl W248 0 rfl (Nat.le_of_ble_eq_true rfl)
 have p250 : GF p e below _ T248 m 68 (oLR2I5 a1 a2 0 2 1 70 (Int32.ofNat 70)) [(.ref a2)] := fun t_ k_ => (gc p246 st248) t_ (by
  refine XS.iinc X248.here hx rfl (hb hby d32_145) rfl (l' := (oLR2I5 a1 a2 0 2 1 70 (Int32.ofNat 70))) rfl ?_
  refine XS.goto X248.here hx rfl (pc0 := 148) (pc' := 61) rfl (hb hby d32_148) (by decide) (by decide) ?_
  refine XS.iload X248.here hx rfl (hb hby d32_61) rfl ?_
  refine XS.iloadN X248.here hx rfl (hb hby d32_63) rfl ?_
  refine XS.icmpNo X248.here hx rfl (hb hby d32_64) rfl (tlt (by decide : ((1 : Int32) < (2 : Int32)))).2.1 ?_
  refine XS.aloadN X248.here hx rfl (hb hby d32_67) rfl rfl ?_
  exact k_)
 have f251 := ((((f203.ext E222).other W234 (Or.inl ne_a2_b135)).keep K237 (ninS ne_a2_b222 nin0)).other W248 (Or.inl ne_a2_b149))
 have f253 := ((((f205.ext E222).wr W234).keep K237).wr W248)
 obtain ⟨cq252, kq252, q252a, q252b, q252c⟩ := isOf hZ e248 f253
 obtain ⟨_, _, ⟨T252, L252, k252, n252⟩, -, X252, ⟨Lc252, hQ252, l252, y252, z252⟩, st252⟩ := X248.virtualBack hx (y := oM1) (z := oM1) hown (mvT hZ (own_w hw 268 rfl)) (mvT hZ (own_w hw 269 rfl)) (notFace_of_selects (args := #[]) (mvT hZ (own_w hw 271 rfl))) (mvT hZ (own_w hw 271 rfl)) (mvT hZ (own_w hw 270 rfl)) (by decide) (backOf (W := 0) (rm33 l Z a0 hw [] a2 vl h248 n0 (Nat.le_trans Z0 K249.1) f251) hZ (own_w hw 272 rfl) (own_w hw 94 rfl) (by decide) (by decide)) q252a q252c (g := (mkF m 68 (oLR2I5 a1 a2 0 2 1 70 (Int32.ofNat 70)) [(.ref a2)])) rfl (by rw [hml]; rfl) (Steps.refl _) (argsL := []) (rest := []) (lenOf pd12 rfl) rfl (by show 2 * 0 + _ ≤ _; exact Nat.le_of_eq rfl) (hb hby d32_68) (fun _ _ => ⟨rfl, e248, (by decide : 7 + 0 ≤ _), (by decide : 106 + 0 ≤ _)⟩)
 dsimp only [Pt.U, Pt.locs, Pt.cells, Pt.slots] at X252 l252 y252 z252 st252 hQ252
 subst l252 y252 z252
 obtain ⟨rfl, N252q, q252_hh⟩ := hQ252
 have N252 := Fr.app N248 N252q
 have p254 : GF p e below _ T252 m 73 (oLR2I5 a1 a2 0 2 1 70 (Int32.ofNat 70)) [(.int 1), (.ref vl)] := fun t_ k_ => (gcT p250 st252) t_ (by
  refine XS.iload X252.here hx rfl (hb hby d32_71) rfl ?_
  exact k_)
 have f255 := ((((f207.ext E222).wr W234 ge_b135).keep K237 (allS ge_b222 all0)).wr W248 ge_b149)
 have f256 := ((((f208.ext E222).wr W234).keep K237).wr W248)
 have f257 := ((((f209.ext E222).other W234 (Or.inl ne_vl_b135)).keep K237 (ninS ne_vl_b222 nin0)).other W248 (Or.inl ne_vl_b149))
 have f258 := ((((f210.ext E222).other W234 (Or.inl ne_vl_b135)).keep K237 (ninS ne_vl_b222 nin0)).other W248 (Or.inl ne_vl_b149))
 obtain ⟨cq259, kq259, q259a, q259b, q259c⟩ := isOf hZ q252_hh f256
 obtain ⟨_, _, ⟨T259, L259, k259, n259⟩, -, X259, ⟨Lc259, hQ259, l259, y259, z259⟩, st259⟩ := X252.interfaceBack hx (xi := oM39) (y := oM33) hown (mvT hZ (own_w hw 285 rfl)) (mvT hZ (own_w hw 203 rfl)) (mvT hZ (own_w hw 204 rfl)) (mvT hZ (own_w hw 205 rfl)) (mvT hZ (own_w hw 206 rfl)) (mvT hZ (own_w hw 207 rfl)) (mvT hZ (own_w hw 208 rfl)) (mvT hZ (own_w hw 199 rfl)) (by decide) (backOf (W := 0) (rm26_1 l Z a0 hw [] vl x0 x1 de kde el ea kea em mr h248 n0 (Nat.le_trans Z0 K249.1) f255 G f256 f257 f258 gx) hZ (own_w hw 209 rfl) (own_w hw 157 rfl) (by decide) (by decide)) q259a q259b q259c (g := (mkF m 73 (oLR2I5 a1 a2 0 2 1 70 (Int32.ofNat 70)) [(.int 1), (.ref vl)])) rfl (by rw [hml]; rfl) (Steps.refl _) (argsL := [(.int 1)]) (rest := []) (lenOf pd15 rfl) rfl (by show 2 * 0 + _ ≤ _; exact Nat.le_of_eq rfl) (hb hby d32_73) (fun _ _ => ⟨rfl, q252_hh, (by decide : 7 + 0 ≤ _), (by decide : 106 + 0 ≤ _)⟩)
 dsimp only [Pt.U, Pt.locs, Pt.cells, Pt.slots] at X259 l259 y259 z259 st259 hQ259
 subst l259 y259 z259
 obtain ⟨rfl, N259q, q259_hh⟩ := hQ259
 have N259 := Fr.app N252 N259q
 have f260 := ((((f224.ext E222).wr W234).keep K237).wr W248)
 obtain ⟨T261, X261, e261, st261⟩ := castY X259 hx hZ hown (own_w hw 286 rfl) q259_hh (Ins.self f260) (g := (mkF m 78 (oLR2I5 a1 a2 0 2 1 70 (Int32.ofNat 70)) [(.ref x1)])) rfl rfl (hb hby d32_78)
 have f262 := ((((((((((((((((Y4.ext E104).other W108 (Or.inl (Ne.symm nx1))).ext E111).other W123 (Or.inl (Ne.symm nx1))).ext E135).other W146 (Or.inl (Ne.symm nx1))).ext E149).other W163 (Or.inl (Ne.symm nx1))).ext E166).other W181 (Or.inl (Ne.symm nx1))).ext E184).other W200 (Or.inl (Ne.symm nx1))).ext E222).other W234 (Or.inl ne_x1_b135)).keep K237 (ninS ne_x1_b222 nin0)).other W248 (Or.inl ne_x1_b149))
 have f263 := ((((f225.ext E222).other W234 ne_v1_b135).keep K237 (ninS ne_v1_b222 nin0)).other W248 ne_v1_b149)
 obtain ⟨cq264, kq264, q264a, q264b, q264c⟩ := isOf hZ e261 f260
 obtain ⟨_, _, ⟨T264, L264, k264, n264⟩, -, X264, ⟨Lc264, hQ264, l264, y264, z264⟩, st264⟩ := X261.virtualBack hx (y := oM4) (z := oM4) hown (mvT hZ (own_w hw 287 rfl)) (mvT hZ (own_w hw 288 rfl)) (notFace_of_selects (args := #[]) (mvT hZ (own_w hw 290 rfl))) (mvT hZ (own_w hw 290 rfl)) (mvT hZ (own_w hw 289 rfl)) (by decide) (backOf (W := 0) (rm34_3 l Z a0 hw [] x1 v1 kv1 vv1 h248 n0 (Nat.le_trans Z0 K249.1) f262 f263) hZ (own_w hw 291 rfl) (own_w hw 29 rfl) (by decide) (by decide)) q264a q264c (g := (mkF m 81 (oLR2I5 a1 a2 0 2 1 70 (Int32.ofNat 70)) [(.ref x1)])) rfl (by rw [hml]; rfl) (Steps.refl _) (argsL := []) (rest := []) (lenOf pd13 rfl) rfl (by show 2 * 0 + _ ≤ _; exact Nat.le_of_eq rfl) (hb hby d32_81) (fun _ _ => ⟨rfl, e261, (by decide : 7 + 0 ≤ _), (by decide : 106 + 0 ≤ _)⟩)
 dsimp only [Pt.U, Pt.locs, Pt.cells, Pt.slots] at X264 l264 y264 z264 st264 hQ264
 subst l264 y264 z264
 obtain ⟨rfl, N264q, q264_hh⟩ := hQ264
 have N264 := Fr.app N259 N264q
 have p265 : GF p e below _ T264 m 87 (oLR2I5 a1 a2 0 2 1 3 (Int32.ofNat 70)) [(.ref a1)] := fun t_ k_ => (gcT (gc (gcT p254 st259) st261) st264) t_ (by
  refine XS.istore X264.here hx rfl (hb hby d32_84) rfl (l' := (oLR2I5 a1 a2 0 2 1 3 (Int32.ofNat 70))) rfl ?_
  refine XS.aloadN X264.here hx rfl (hb hby d32_86) rfl rfl ?_
  exact k_)
 have f266 := ((f240.keep K237 (ninS ne_a1_b222 nin0)).other W248 (Or.inl ne_a1_b149))
 obtain ⟨T267, X267, e267, st267⟩ := getF X264 hx hZ hown (host := "") (Or.inl (own_w hw 276 rfl)) Via.refl q264_hh f266 (g := (mkF m 87 (oLR2I5 a1 a2 0 2 1 3 (Int32.ofNat 70)) [(.ref a1)])) rfl rfl (hb hby d32_87)
 have p268 : GF p e below _ T267 m 94 (oLR2I5 a1 a2 0 2 1 3 (Int32.ofNat 70)) [(.int 3), (.int 1), (.ref b135)] := fun t_ k_ => (gc p265 st267) t_ (by
  refine XS.iload X267.here hx rfl (hb hby d32_90) rfl ?_
  refine XS.iload X267.here hx rfl (hb hby d32_92) rfl ?_
  exact k_)
 obtain ⟨_, _, ⟨T269, L269, k269, n269⟩, -, X269, ⟨Lc269, hQ269, l269, y269, z269⟩, st269⟩ := Jvm.LawKit.callS X267 hx (y := oM12) hown (mvT hZ (own_w hw 292 rfl)) (mvT hZ (own_w hw 293 rfl)) (mvT hZ (own_w hw 91 rfl)) (mvT hZ (own_w hw 294 rfl)) (by decide) (backOf (W := 2) (rm35_3 l Z a0 hw []  h248 n0 (Nat.le_trans Z0 K249.1) ) hZ (own_w hw 294 rfl) (own_w hw 91 rfl) (by decide) (by decide)) (g := (mkF m 94 (oLR2I5 a1 a2 0 2 1 3 (Int32.ofNat 70)) [(.int 3), (.int 1), (.ref b135)])) rfl (by rw [hml]; rfl) (argsL := [(.int 3)]) (rest := [(.int 1), (.ref b135)]) (lenOf pd17 rfl) rfl (by show 2 * 0 + _ ≤ _; exact Nat.le_of_eq rfl) (hb hby d32_94) (fun _ _ => ⟨rfl, e267, (by decide : 7 + 0 ≤ _), (by decide : 106 + 0 ≤ _)⟩)
 dsimp only [Pt.U, Pt.locs, Pt.cells, Pt.slots] at X269 l269 y269 z269 st269 hQ269
 subst l269 y269 z269
 obtain ⟨rfl, N269q, q269_hh⟩ := hQ269
 have N269 := Fr.app N264 N269q
 obtain ⟨T270, h270, k270, X270, e270, E270, A270, AE270, st270⟩ := newPE X269 hx hZ (own_w hw 295 rfl) q269_hh (g := (mkF m 97 (oLR2I5 a1 a2 0 2 1 3 (Int32.ofNat 70)) [(.int 1), (.int 1), (.ref b135)])) rfl (hb hby d32_97) rfl (by decide) (cap := 1) (by decide) (by decide) (by decide) (by decide) (ad := "[J") (by decide)
 obtain ⟨b270, g270⟩ : ∃ z, z = h248.size := ⟨_, rfl⟩
 rw [← g270] at A270 AE270 st270
 have f271 := ((((f223.ext E222).wr W234).keep K237).wr W248)
 have ne_a1_b270 : a1 ≠ b270 := Nat.ne_of_lt (Nat.lt_of_lt_of_le f271.lt (Nat.le_of_eq g270.symm))
 have ne_a2_b270 : a2 ≠ b270 := Nat.ne_of_lt (Nat.lt_of_lt_of_le f253.lt (Nat.le_of_eq g270.symm))
 have ne_vl_b270 : vl ≠ b270 := Nat.ne_of_lt (Nat.lt_of_lt_of_le f256.lt (Nat.le_of_eq g270.symm))
 have f272 := ((((f212.ext E222).wr W234).keep K237).wr W248)
 have ne_x0_b270 : x0 ≠ b270 := Nat.ne_of_lt (Nat.lt_of_lt_of_le f272.lt (Nat.le_of_eq g270.symm))
 have f273 := ((((f215.ext E222).other W234 ne_v0_b135).keep K237 (ninS ne_v0_b222 nin0)).other W248 ne_v0_b149)
 have ne_v0_b270 : v0 ≠ b270 := Nat.ne_of_lt (Nat.lt_of_lt_of_le f273.lt (Nat.le_of_eq g270.symm))
 have ne_x1_b270 : x1 ≠ b270 := Nat.ne_of_lt (Nat.lt_of_lt_of_le f260.lt (Nat.le_of_eq g270.symm))
 have ne_v1_b270 : v1 ≠ b270 := Nat.ne_of_lt (Nat.lt_of_lt_of_le f263.lt (Nat.le_of_eq g270.symm))
 have f274 := ((((f226.ext E222).wr W234).keep K237).wr W248)
 have ne_b104_b270 : b104 ≠ b270 := Nat.ne_of_lt (Nat.lt_of_lt_of_le f274.lt (Nat.le_of_eq g270.symm))
 have f275 := ((((f227.ext E222).wr W234).keep K237).wr W248)
 have ne_b111_b270 : b111 ≠ b270 := Nat.ne_of_lt (Nat.lt_of_lt_of_le f275.lt (Nat.le_of_eq g270.symm))
 have f276 := ((((f228.ext E222).wr W234).keep K237).wr W248)
 have ne_b135_b270 : b135 ≠ b270 := Nat.ne_of_lt (Nat.lt_of_lt_of_le f276.lt (Nat.le_of_eq g270.symm))
 have f277 := ((((f229.ext E222).wr W234).keep K237).wr W248)
 have ne_b149_b270 : b149 ≠ b270 := Nat.ne_of_lt (Nat.lt_of_lt_of_le f277.lt (Nat.le_of_eq g270.symm))
 have f278 := ((((f230.ext E222).wr W234).keep K237).wr W248)
 have ne_b166_b270 : b166 ≠ b270 := Nat.ne_of_lt (Nat.lt_of_lt_of_le f278.lt (Nat.le_of_eq g270.symm))
 have f279 := ((((f231.ext E222).wr W234).keep K237).wr W248)
 have ne_b184_b270 : b184 ≠ b270 := Nat.ne_of_lt (Nat.lt_of_lt_of_le f279.lt (Nat.le_of_eq g270.symm))
 have f280 := (((AE222.wr W234).keep K237).wr W248)
 have ne_b222_b270 : b222 ≠ b270 := Nat.ne_of_lt (Nat.lt_of_lt_of_le f280.lt (Nat.le_of_eq g270.symm))
 have ge_b270 : n0 ≤ b270 := Nat.le_trans (Nat.le_trans Z0 K249.1) (Nat.le_of_eq g270.symm)
 have sz_b270 : h0.size ≤ b270 := Nat.le_trans K249.1 (Nat.le_of_eq g270.symm)
 have K281 : Keep h0 h270 [a1] := K249.ext E270
 have V270 : Arv Z h270 b270 k270 .long (1 : Int32) [(.long 0)] (.long 0) := (Arv.new A270 (by decide)).pad (pad_rep [] (.long 0) 1)
 have f282 := (((V234.keep K237 (ninS ne_b135_b222 nin0)).other W248 ne_b135_b149).ext E270)
 obtain ⟨cl283, Ar283, q283, S283, Ng283, H283, G283⟩ := id f282
 have hin283 := inb_of S283 (j := (1 : Int32)) ⟨by decide, by decide⟩
 obtain ⟨T283, h283, X283, e283, W283, st283⟩ := stR X270 hx hZ e270 Ar283 (j := (1 : Int32)) hin283 rfl (Sto.ofVA Ar283 q283 O135 (Ins.self AE270)) (g := (mkF m 99 (oLR2I5 a1 a2 0 2 1 3 (Int32.ofNat 70)) [(.ref b270), (.int 1), (.ref b135)])) rfl rfl (hb hby d32_99)
 have K284 : Keep h0 h283 [a1] := K281.wr W283 (Or.inr sz_b135)
 have N283 := Fr.snoc X283 N269 ge_b135
 have V283 : Arv Z h283 b135 k135 (.array .long) (2 : Int32) [(.ref b222), (.ref b270)] .null := Arv.set Ar283 q283 S283 Ng283 H283 G283 rfl W283 1 rfl (Nat.le_of_ble_eq_true rfl)
 have p285 : GF p e below _ T283 m 103 (oLR2I5 a1 a2 0 2 1 3 0) [] := fun t_ k_ => (gc (gc (gc p268 st269) st270) st283) t_ (by
  refine XS.iconst X283.here hx rfl (hb hby d32_100) ?_
  refine XS.istore X283.here hx rfl (hb hby d32_101) rfl (l' := (oLR2I5 a1 a2 0 2 1 3 0)) rfl ?_
  exact k_)
 have p287 : GF p e below _ T283 m 103 (oLR2I5 a1 a2 0 2 1 3 (Int32.ofNat 0)) [] := p285
 have f288 := (V270.other W283 (Ne.symm ne_b135_b270))
 have vs286 : Arv Z h283 b270 k270 .long (1 : Int32) (own_ls (own_rw 1 0)) (.long 0) := f288
 have f289 := ((f266.ext E270).other W283 (Or.inl ne_a1_b135))
 obtain ⟨T286, h286, lc286, X286, e286, N286, K286, V286, g286⟩ := lpD1 Z a0 hx hZ hw hby hml hown a1 a2 b135 b222 b270 k135 k270 n0 8 107 ne_a1_b270 ne_b135_b270 ge_b270 3 0 T283 h283 _ (by omega) X283 e283 (Nat.le_trans Z0 K284.1) N283 f289 V283 vs286
 have K290 : Keep h0 h286 [a1] := K284.trans K286 (allS (Or.inr sz_b270) all0)
 have p291 : GF p e below _ T286 m 136 (oLR2I5 a1 a2 0 2 1 3 (Int32.ofNat 3)) [] := fun t_ k_ => p287 t_ (g286 t_ k_)
 have VE286 : Arv Z h286 b270 k270 .long (1 : Int32) [(.long 7)] (.long 0) := by rw [own_rw3] at V286; exact V286
 have p292 : GF p e below _ T286 m 137 (oLR2I5 a1 a2 0 2 1 3 (Int32.ofNat 3)) [(.ref a1)] := fun t_ k_ => p291 t_ (by
  refine XS.aloadN X286.here hx rfl (hb hby d32_136) rfl rfl ?_
  exact k_)
 have f293 := ((((f244.other W248 (Or.inl ne_a1_b149)).ext E270).other W283 (Or.inl ne_a1_b135)).keep K286 (ninS ne_a1_b270 nin0))
 obtain ⟨T294, X294, e294, st294⟩ := getF X286 hx hZ hown (host := "") (Or.inl (own_w hw 278 rfl)) Via.refl e286 f293 (g := (mkF m 137 (oLR2I5 a1 a2 0 2 1 3 (Int32.ofNat 3)) [(.ref a1)])) rfl rfl (hb hby d32_137)
 have p295 : GF p e below _ T294 m 144 (oLR2I5 a1 a2 0 2 1 3 (Int32.ofNat 3)) [(.int 3), (.int 1), (.ref b149)] := fun t_ k_ => (gc p292 st294) t_ (by
  refine XS.iload X294.here hx rfl (hb hby d32_140) rfl ?_
  refine XS.iload X294.here hx rfl (hb hby d32_142) rfl ?_
  exact k_)
 have f296 := (((V248.ext E270).other W283 (Ne.symm ne_b135_b149)).keep K286 (ninS ne_b149_b270 nin0))
 obtain ⟨cl297, Ar297, q297, S297, Ng297, H297, G297⟩ := id f296
 have hin297 := inb_of S297 (j := (1 : Int32)) ⟨by decide, by decide⟩
 obtain ⟨T297, h297, X297, e297, W297, st297⟩ := stI X294 hx hZ e294 Ar297 (j := (1 : Int32)) hin297 (g := (mkF m 144 (oLR2I5 a1 a2 0 2 1 3 (Int32.ofNat 3)) [(.int 3), (.int 1), (.ref b149)])) rfl rfl (hb hby d32_144)
 have K298 : Keep h0 h297 [a1] := K290.wr W297 (Or.inr sz_b149)
 have N297 := Fr.snoc X297 N286 ge_b149
 have V297 : Arv Z h297 b149 k149 .int (2 : Int32) [(.int 70), (.int 3)] (.int 0) := Arv.set Ar297 q297 S297 Ng297 H297 G297 rfl W297 1 rfl (Nat.le_of_ble_eq_true rfl)
 have p299 : GF p e below _ T297 m 151 (oLR2I5 a1 a2 0 2 2 3 (Int32.ofNat 3)) [] := fun t_ k_ => (gc p295 st297) t_ (by
  refine XS.iinc X297.here hx rfl (hb hby d32_145) rfl (l' := (oLR2I5 a1 a2 0 2 2 3 (Int32.ofNat 3))) rfl ?_
  refine XS.goto X297.here hx rfl (pc0 := 148) (pc' := 61) rfl (hb hby d32_148) (by decide) (by decide) ?_
  refine XS.iload X297.here hx rfl (hb hby d32_61) rfl ?_
  refine XS.iloadN X297.here hx rfl (hb hby d32_63) rfl ?_
  refine XS.icmpYes X297.here hx rfl (pc0 := 64) (pc' := 151) rfl (hb hby d32_64) rfl (flt (by decide : ¬ ((2 : Int32) < (2 : Int32)))).2.1 (by decide) (by decide) ?_
  exact k_)
 have f300 := ((((f271.ext E270).wr W283).keep K286).wr W297)
 have f301 := ((((((((((((((((((F108.ext E111).other W123 (Or.inr (slot_ne (Or.inl (own_w hw 265 rfl)) (Or.inr (own_w hw 267 rfl)) (by decide) (t := (.array .int)) (t' := (.array .int)) (by decide) (by decide)))).ext E135).other W146 (Or.inr (slot_ne (Or.inl (own_w hw 265 rfl)) (Or.inr (own_w hw 277 rfl)) (by decide) (t := (.array .int)) (t' := (.array (.array .long))) (by decide) (by decide)))).ext E149).other W163 (Or.inr (slot_ne (Or.inl (own_w hw 265 rfl)) (Or.inr (own_w hw 279 rfl)) (by decide) (t := (.array .int)) (t' := (.array .int)) (by decide) (by decide)))).ext E166).other W181 (Or.inr (slot_ne (Or.inl (own_w hw 265 rfl)) (Or.inr (own_w hw 281 rfl)) (by decide) (t := (.array .int)) (t' := (.array .int)) (by decide) (by decide)))).ext E184).other W200 (Or.inr (slot_ne (Or.inl (own_w hw 265 rfl)) (Or.inr (own_w hw 284 rfl)) (by decide) (t := (.array .int)) (t' := (.array .boolean)) (by decide) (by decide)))).ext E222).other W234 (Or.inl ne_a1_b135)).keep K237 (ninS ne_a1_b222 nin0)).other W248 (Or.inl ne_a1_b149)).ext E270).other W283 (Or.inl ne_a1_b135)).keep K286 (ninS ne_a1_b270 nin0)).other W297 (Or.inl ne_a1_b149))
 have f302 := ((((((((((((((((F123.ext E135).other W146 (Or.inr (slot_ne (Or.inr (own_w hw 267 rfl)) (Or.inr (own_w hw 277 rfl)) (by decide) (t := (.array .int)) (t' := (.array (.array .long))) (by decide) (by decide)))).ext E149).other W163 (Or.inr (slot_ne (Or.inr (own_w hw 267 rfl)) (Or.inr (own_w hw 279 rfl)) (by decide) (t := (.array .int)) (t' := (.array .int)) (by decide) (by decide)))).ext E166).other W181 (Or.inr (slot_ne (Or.inr (own_w hw 267 rfl)) (Or.inr (own_w hw 281 rfl)) (by decide) (t := (.array .int)) (t' := (.array .int)) (by decide) (by decide)))).ext E184).other W200 (Or.inr (slot_ne (Or.inr (own_w hw 267 rfl)) (Or.inr (own_w hw 284 rfl)) (by decide) (t := (.array .int)) (t' := (.array .boolean)) (by decide) (by decide)))).ext E222).other W234 (Or.inl ne_a1_b135)).keep K237 (ninS ne_a1_b222 nin0)).other W248 (Or.inl ne_a1_b149)).ext E270).other W283 (Or.inl ne_a1_b135)).keep K286 (ninS ne_a1_b270 nin0)).other W297 (Or.inl ne_a1_b149))
 have f303 := ((f289.keep K286 (ninS ne_a1_b270 nin0)).other W297 (Or.inl ne_a1_b149))
 have f304 := (f293.other W297 (Or.inl ne_a1_b149))
 have f305 := ((((((((((F181.ext E184).other W200 (Or.inr (slot_ne (Or.inr (own_w hw 281 rfl)) (Or.inr (own_w hw 284 rfl)) (by decide) (t := (.array .int)) (t' := (.array .boolean)) (by decide) (by decide)))).ext E222).other W234 (Or.inl ne_a1_b135)).keep K237 (ninS ne_a1_b222 nin0)).other W248 (Or.inl ne_a1_b149)).ext E270).other W283 (Or.inl ne_a1_b135)).keep K286 (ninS ne_a1_b270 nin0)).other W297 (Or.inl ne_a1_b149))
 have f306 := ((((((((F200.ext E222).other W234 (Or.inl ne_a1_b135)).keep K237 (ninS ne_a1_b222 nin0)).other W248 (Or.inl ne_a1_b149)).ext E270).other W283 (Or.inl ne_a1_b135)).keep K286 (ninS ne_a1_b270 nin0)).other W297 (Or.inl ne_a1_b149))
 have f307 := ((((((((((((((((((((F7.ext E104).other W108 (Or.inr (slot_ne (Or.inl (own_w hw 335 rfl)) (Or.inl (own_w hw 265 rfl)) (by decide) (t := .int) (t' := (.array .int)) (by decide) (by decide)))).ext E111).other W123 (Or.inr (slot_ne (Or.inl (own_w hw 335 rfl)) (Or.inr (own_w hw 267 rfl)) (by decide) (t := .int) (t' := (.array .int)) (by decide) (by decide)))).ext E135).other W146 (Or.inr (slot_ne (Or.inl (own_w hw 335 rfl)) (Or.inr (own_w hw 277 rfl)) (by decide) (t := .int) (t' := (.array (.array .long))) (by decide) (by decide)))).ext E149).other W163 (Or.inr (slot_ne (Or.inl (own_w hw 335 rfl)) (Or.inr (own_w hw 279 rfl)) (by decide) (t := .int) (t' := (.array .int)) (by decide) (by decide)))).ext E166).other W181 (Or.inr (slot_ne (Or.inl (own_w hw 335 rfl)) (Or.inr (own_w hw 281 rfl)) (by decide) (t := .int) (t' := (.array .int)) (by decide) (by decide)))).ext E184).other W200 (Or.inr (slot_ne (Or.inl (own_w hw 335 rfl)) (Or.inr (own_w hw 284 rfl)) (by decide) (t := .int) (t' := (.array .boolean)) (by decide) (by decide)))).ext E222).other W234 (Or.inl ne_a1_b135)).keep K237 (ninS ne_a1_b222 nin0)).other W248 (Or.inl ne_a1_b149)).ext E270).other W283 (Or.inl ne_a1_b135)).keep K286 (ninS ne_a1_b270 nin0)).other W297 (Or.inl ne_a1_b149))
 have f308 := ((((((((((((((((((((F8.ext E104).other W108 (Or.inr (slot_ne (Or.inl (own_w hw 308 rfl)) (Or.inl (own_w hw 265 rfl)) (by decide) (t := .int) (t' := (.array .int)) (by decide) (by decide)))).ext E111).other W123 (Or.inr (slot_ne (Or.inl (own_w hw 308 rfl)) (Or.inr (own_w hw 267 rfl)) (by decide) (t := .int) (t' := (.array .int)) (by decide) (by decide)))).ext E135).other W146 (Or.inr (slot_ne (Or.inl (own_w hw 308 rfl)) (Or.inr (own_w hw 277 rfl)) (by decide) (t := .int) (t' := (.array (.array .long))) (by decide) (by decide)))).ext E149).other W163 (Or.inr (slot_ne (Or.inl (own_w hw 308 rfl)) (Or.inr (own_w hw 279 rfl)) (by decide) (t := .int) (t' := (.array .int)) (by decide) (by decide)))).ext E166).other W181 (Or.inr (slot_ne (Or.inl (own_w hw 308 rfl)) (Or.inr (own_w hw 281 rfl)) (by decide) (t := .int) (t' := (.array .int)) (by decide) (by decide)))).ext E184).other W200 (Or.inr (slot_ne (Or.inl (own_w hw 308 rfl)) (Or.inr (own_w hw 284 rfl)) (by decide) (t := .int) (t' := (.array .boolean)) (by decide) (by decide)))).ext E222).other W234 (Or.inl ne_a1_b135)).keep K237 (ninS ne_a1_b222 nin0)).other W248 (Or.inl ne_a1_b149)).ext E270).other W283 (Or.inl ne_a1_b135)).keep K286 (ninS ne_a1_b270 nin0)).other W297 (Or.inl ne_a1_b149))
 have f309 := (((((((((((((((((((V104.other W108 (Ne.symm ne_a1_b104)).ext E111).other W123 (Ne.symm ne_a1_b104)).ext E135).other W146 (Ne.symm ne_a1_b104)).ext E149).other W163 (Ne.symm ne_a1_b104)).ext E166).other W181 (Ne.symm ne_a1_b104)).ext E184).other W200 (Ne.symm ne_a1_b104)).ext E222).other W234 ne_b104_b135).keep K237 (ninS ne_b104_b222 nin0)).other W248 ne_b104_b149).ext E270).other W283 ne_b104_b135).keep K286 (ninS ne_b104_b270 nin0)).other W297 ne_b104_b149)
 have f310 := ((V283.keep K286 (ninS ne_b135_b270 nin0)).other W297 ne_b135_b149)
 have f311 := (((((((((((V166.other W181 (Ne.symm ne_a1_b166)).ext E184).other W200 (Ne.symm ne_a1_b166)).ext E222).other W234 (Ne.symm ne_b135_b166)).keep K237 (ninS ne_b166_b222 nin0)).other W248 (Ne.symm ne_b149_b166)).ext E270).other W283 (Ne.symm ne_b135_b166)).keep K286 (ninS ne_b166_b270 nin0)).other W297 (Ne.symm ne_b149_b166))
 have f312 := (((((((((V184.other W200 (Ne.symm ne_a1_b184)).ext E222).other W234 (Ne.symm ne_b135_b184)).keep K237 (ninS ne_b184_b222 nin0)).other W248 (Ne.symm ne_b149_b184)).ext E270).other W283 (Ne.symm ne_b135_b184)).keep K286 (ninS ne_b184_b270 nin0)).other W297 (Ne.symm ne_b149_b184))
 have f313 := (((((VE237.other W248 (Ne.symm ne_b149_b222)).ext E270).other W283 (Ne.symm ne_b135_b222)).keep K286 (ninS ne_b222_b270 nin0)).other W297 (Ne.symm ne_b149_b222))
 have f314 := (VE286.other W297 (Ne.symm ne_b149_b270))
 obtain ⟨fs, hr, hrun, hended, hW, hsame⟩ := X297.leave (v := none) (fun _ => rfl)
 refine ⟨_, _, p299 _ (X297.returnOut hx Bd.returns (hb hby d32_151) hr), hrun, hended, _, _, rfl, ?_, ⟨_, rfl⟩, hW, hsame.mono (by decide) (by decide)⟩
 show Q32 Z a1 a2 vl x0 x1 v0 v1 kv0 kv1 vv0 vv1 de kde el ea kea em mr h0 n0 _ T297.heap _
 rw [e297]
 exact ⟨b104, b135, b149, b166, b184, b222, b270, b111, k104, k135, k149, k166, k184, k222, k270, rfl, N297, K298, f300, f301, f302, f303, f304, f305, f306, f307, f308, f309, f310, V297, f311, f312, f313, f314, ⟨sz_b104, sz_b135, sz_b149, sz_b166, sz_b184, sz_b222, sz_b270⟩, ⟨ne_a1_b104, ne_a1_b135, ne_a1_b149, ne_a1_b166, ne_a1_b184, ne_a1_b222, ne_a1_b270, ne_b104_b135, ne_b104_b149, ne_b104_b166, ne_b104_b184, ne_b104_b222, ne_b104_b270, ne_b135_b149, ne_b135_b166, ne_b135_b184, ne_b135_b222, ne_b135_b270, ne_b149_b166, ne_b149_b184, ne_b149_b222, ne_b149_b270, ne_b166_b184, ne_b166_b222, ne_b166_b270, ne_b184_b222, ne_b184_b270, ne_b222_b270⟩, ⟨g1, ge_b104, ge_b135, ge_b149, ge_b166, ge_b184, ge_b222, ge_b270⟩, O135⟩
theorem d42_0 : decode prog_50_method_23_code 0 = .ok (.aload_n 0, 1) := by decide +kernel
theorem d42_1 : decode prog_50_method_23_code 1 = .ok (.getfield 40, 3) := by decide +kernel
theorem d42_4 : decode prog_50_method_23_code 4 = .ok (.iload_n 1, 1) := by decide +kernel
theorem d42_5 : decode prog_50_method_23_code 5 = .ok (.baload, 1) := by decide +kernel
theorem d42_6 : decode prog_50_method_23_code 6 = .ok (.ifCond .ne 27, 3) := by decide +kernel
theorem d42_9 : decode prog_50_method_23_code 9 = .ok (.aload_n 0, 1) := by decide +kernel
theorem d42_10 : decode prog_50_method_23_code 10 = .ok (.getfield 40, 3) := by decide +kernel
theorem d42_13 : decode prog_50_method_23_code 13 = .ok (.iload_n 1, 1) := by decide +kernel
theorem d42_14 : decode prog_50_method_23_code 14 = .ok (.iconst 1, 1) := by decide +kernel
theorem d42_15 : decode prog_50_method_23_code 15 = .ok (.bastore, 1) := by decide +kernel
theorem d42_16 : decode prog_50_method_23_code 16 = .ok (.aload_n 0, 1) := by decide +kernel
theorem d42_17 : decode prog_50_method_23_code 17 = .ok (.getfield 37, 3) := by decide +kernel
theorem d42_20 : decode prog_50_method_23_code 20 = .ok (.aload_n 0, 1) := by decide +kernel
theorem d42_21 : decode prog_50_method_23_code 21 = .ok (.dup, 1) := by decide +kernel
theorem d42_22 : decode prog_50_method_23_code 22 = .ok (.getfield 55, 3) := by decide +kernel
theorem d42_25 : decode prog_50_method_23_code 25 = .ok (.dup_x1, 1) := by decide +kernel
theorem d42_26 : decode prog_50_method_23_code 26 = .ok (.iconst 1, 1) := by decide +kernel
theorem d42_27 : decode prog_50_method_23_code 27 = .ok (.iadd, 1) := by decide +kernel
theorem d42_28 : decode prog_50_method_23_code 28 = .ok (.putfield 55, 3) := by decide +kernel
theorem d42_31 : decode prog_50_method_23_code 31 = .ok (.iload_n 1, 1) := by decide +kernel
theorem d42_32 : decode prog_50_method_23_code 32 = .ok (.iastore, 1) := by decide +kernel
theorem d42_33 : decode prog_50_method_23_code 33 = .ok (.return_, 1) := by decide +kernel
theorem pn42 : plainFor (⟨"com/example/arcward/arcward/solver/Domains", "markResized", "(I)V"⟩ : MethodName) = true := plainFor_of_name (by first | (simp [plainName, overriddenIn]; done) | decide +kernel)
theorem ef_rm42 (m : MethodId) (a1 : Addr) (tr : Addr) (bi : Addr) (sz : Addr) (rs : Addr) (ir : Addr) (w0 : Addr) (w1 : Addr) (rb : Addr) (krs : ClassId) (kir : ClassId) (tl : Int32) (rc : Int32) (u0 : Int32) (u1 : Int32) (eb0 : Int32) (eb1 : Int32) (p2 : Int32) : entryFrame m #[(.ref a1), (.int p2)] 2 = mkF m 0 #[.val (.ref a1), .val (.int p2)] [] := by first | (simp [entryFrame, mkF, argsToLocals, Value.category]; done) | rfl
def Q42 (Z : State) (a1 : Addr) (tr : Addr) (bi : Addr) (sz : Addr) (rs : Addr) (ir : Addr) (w0 : Addr) (w1 : Addr) (rb : Addr) (krs : ClassId) (kir : ClassId) (tl : Int32) (rc : Int32) (u0 : Int32) (u1 : Int32) (eb0 : Int32) (eb1 : Int32) (p2 : Int32) (h0 : Heap) (n0 : Nat) (v : Option Value) (h : Heap) (L : List Loc) : Prop := ∃ (rcn : Int32) (u0n : Int32) (u1n : Int32) (e0n : Int32) (e1n : Int32), v = none ∧ Fr n0 L ∧ (Keep h0 h [a1, rs, ir]) ∧ (Exa Z h a1 "com/example/arcward/arcward/solver/Domains") ∧ (Fld Z h a1 "com/example/arcward/arcward/solver/Domains" "trail" "[I" (.ref tr)) ∧ (Fld Z h a1 "com/example/arcward/arcward/solver/Domains" "removedBy" "[I" (.ref rb)) ∧ (Fld Z h a1 "com/example/arcward/arcward/solver/Domains" "bits" "[[J" (.ref bi)) ∧ (Fld Z h a1 "com/example/arcward/arcward/solver/Domains" "sizes" "[I" (.ref sz)) ∧ (Fld Z h a1 "com/example/arcward/arcward/solver/Domains" "resized" "[I" (.ref rs)) ∧ (Fld Z h a1 "com/example/arcward/arcward/solver/Domains" "inResized" "[Z" (.ref ir)) ∧ (Fld Z h a1 "com/example/arcward/arcward/solver/Domains" "resizedCount" "I" (.int rcn)) ∧ (Fld Z h a1 "com/example/arcward/arcward/solver/Domains" "trailLength" "I" (.int tl)) ∧ (Arv Z h rs krs .int (2 : Int32) [(.int u0n), (.int u1n)] (.int 0)) ∧ (Arv Z h ir kir .boolean (2 : Int32) [(.int e0n), (.int e1n)] (.int 0)) ∧ (own_M rcn e0n e1n)
set_option maxRecDepth 65536 in
set_option maxHeartbeats 40000000 in
theorem rm42 (l : Launch) (Z : State) (a0 : Array Value) (hw : ∀ d ∈ tables_1, d.before a0 Z = true) (ws : List Jvm.Cond) (a1 : Addr) (tr : Addr) (bi : Addr) (sz : Addr) (rs : Addr) (ir : Addr) (w0 : Addr) (w1 : Addr) (rb : Addr) (krs : ClassId) (kir : ClassId) (tl : Int32) (rc : Int32) (u0 : Int32) (u1 : Int32) (eb0 : Int32) (eb1 : Int32) (p2 : Int32) (h0 : Heap) (n0 : Nat) (Z0 : n0 ≤ h0.size) (F0 : Exa Z h0 a1 "com/example/arcward/arcward/solver/Domains") (F1 : Fld Z h0 a1 "com/example/arcward/arcward/solver/Domains" "trail" "[I" (.ref tr)) (F2 : Fld Z h0 a1 "com/example/arcward/arcward/solver/Domains" "removedBy" "[I" (.ref rb)) (F3 : Fld Z h0 a1 "com/example/arcward/arcward/solver/Domains" "bits" "[[J" (.ref bi)) (F4 : Fld Z h0 a1 "com/example/arcward/arcward/solver/Domains" "sizes" "[I" (.ref sz)) (F5 : Fld Z h0 a1 "com/example/arcward/arcward/solver/Domains" "resized" "[I" (.ref rs)) (F6 : Fld Z h0 a1 "com/example/arcward/arcward/solver/Domains" "inResized" "[Z" (.ref ir)) (F7 : Fld Z h0 a1 "com/example/arcward/arcward/solver/Domains" "resizedCount" "I" (.int rc)) (F8 : Fld Z h0 a1 "com/example/arcward/arcward/solver/Domains" "trailLength" "I" (.int tl)) (F9 : Arv Z h0 rs krs .int (2 : Int32) [(.int u0), (.int u1)] (.int 0)) (F10 : Arv Z h0 ir kir .boolean (2 : Int32) [(.int eb0), (.int eb1)] (.int 0)) (ND : own_ND a1 tr bi sz rs ir w0 w1) (GE : own_GE n0 a1 tr bi sz rs ir w0 w1) (HM : own_M rc eb0 eb1) (hx2 : p2 = 0 ∨ p2 = 1) :
  MetFree l oM8 (head1 (Jvm.Cond.code oM8 prog_50_method_23_code 2 none :: ws) ({ frames := 0, cells := 0, slots := 0, locals := 0 } : Room)) (fun a U => a = #[(.ref a1), (.int p2)] ∧ Z.Warmed39 U.vm ∧ U.heap = h0) (fun _ _ _ _ _ => True) (fun _ U o U' => ∃ v L, o = .returned v ∧ Q42 Z a1 tr bi sz rs ir w0 w1 rb krs kir tl rc u0 u1 eb0 eb1 p2 h0 n0 v U'.heap L ∧ FrameEnd U o U' L ({ frames := 0, cells := 0, slots := 0, locals := 0 } : Room).cells ({ frames := 0, cells := 0, slots := 0, locals := 0 } : Room).slots) := by
 refine MetFree.of_bodySF pn42 hisR ?_
 intro p e s m args below meth c s₁ Bd hml0 hP hK
 obtain ⟨rfl, hZ, hh⟩ := hP
 have hx := Bd.exec
 have hby := Bd.bytes
 have hml : c.maxLocals = 2 := hml0
 have hown : s.vm.findClass "com/example/arcward/arcward/solver/Domains" = some m.cls := findClass_of_methodNamed Bd.named
 have hnm := (name_of_methodNamed Bd.named Bd.method).1
 have X0 : Stand p l e ({ frames := 0, cells := 0, slots := 0, locals := 0 } : Room) s m #[(.ref a1), (.int p2)] below meth c s₁ [] 0 0 := Stand.of_body Bd
 have e0 : s₁.heap = h0 := by rw [← hh, Bd.state]; rfl
 have N0 := Fr.nil n0
 have p0 : GF p e below (s₁.setTop (entryFrame m #[(.ref a1), (.int p2)] 2)) s₁ m 0 #[.val (.ref a1), .val (.int p2)] [] := fun t_ k_ => castTop (ef_rm42 m a1 tr bi sz rs ir w0 w1 rb krs kir tl rc u0 u1 eb0 eb1 p2) k_
 rcases id hx2 with hx0 | hx0
 ·rcases id HM with ⟨r1, r2, r3⟩ | ⟨r1, r2, r3⟩ | ⟨r1, r2, r3⟩ | ⟨r1, r2, r3⟩
  ·have p101 : GF p e below _ s₁ m 0 #[.val (.ref a1), .val (.int 0)] [] := goF p0 (by rw [hx0])
   have G7 : Fld Z h0 a1 "com/example/arcward/arcward/solver/Domains" "resizedCount" "I" (.int 0) := by have z := F7; rw [r1] at z; exact z
   have Gir : Arv Z h0 ir kir .boolean (2 : Int32) [(.int 0), (.int 0)] (.int 0) := by have z := F10; rw [r2, r3] at z; exact z
   have p102 : GF p e below _ s₁ m 1 #[.val (.ref a1), .val (.int 0)] [(.ref a1)] := fun t_ k_ => p101 t_ (by
    refine XS.aloadN X0.here hx rfl (hb hby d42_0) rfl rfl ?_
    exact k_)
   obtain ⟨T103, X103, e103, st103⟩ := getF X0 hx hZ hown (host := "") (Or.inl (own_w hw 283 rfl)) Via.refl e0 F6 (g := (mkF m 1 #[.val (.ref a1), .val (.int 0)] [(.ref a1)])) rfl rfl (hb hby d42_1)
   have p104 : GF p e below _ T103 m 5 #[.val (.ref a1), .val (.int 0)] [(.int 0), (.ref ir)] := fun t_ k_ => (gc p102 st103) t_ (by
    refine XS.iloadN X103.here hx rfl (hb hby d42_4) rfl ?_
    exact k_)
   obtain ⟨cl105, Ar105, q105, S105, Ng105, H105, G105⟩ := id Gir
   have hin105 := inb_of S105 (j := (0 : Int32)) ⟨by decide, by decide⟩
   have hat105 := H105.at (v := (.int 0)) hin105 rfl
   have p106 : GF p e below _ T103 m 10 #[.val (.ref a1), .val (.int 0)] [(.ref a1)] := fun t_ k_ => p104 t_ (by
    refine X103.baloadBooleans hx (j := (0 : Int32)) (v := (.int 0)) (by rw [e103]; exact Ar105.1) (State.isArrayOf_alike hZ.alike Ar105.2.1) Ar105.2.2 hin105 hat105 (g := (mkF m 5 #[.val (.ref a1), .val (.int 0)] [(.int 0), (.ref ir)])) rfl rfl (hb hby d42_5) _ ?_
    refine XS.ifNo X103.here hx rfl (hb hby d42_6) rfl ((if0 _ _).trans (teq (by decide : ((0 : Int32) = (0 : Int32)))).2) ?_
    refine XS.aloadN X103.here hx rfl (hb hby d42_9) rfl rfl ?_
    exact k_)
   obtain ⟨T107, X107, e107, st107⟩ := getF X103 hx hZ hown (host := "") (Or.inl (own_w hw 283 rfl)) Via.refl e103 F6 (g := (mkF m 10 #[.val (.ref a1), .val (.int 0)] [(.ref a1)])) rfl rfl (hb hby d42_10)
   have p108 : GF p e below _ T107 m 15 #[.val (.ref a1), .val (.int 0)] [(.int 1), (.int 0), (.ref ir)] := fun t_ k_ => (gc p106 st107) t_ (by
    refine XS.iloadN X107.here hx rfl (hb hby d42_13) rfl ?_
    refine XS.iconst X107.here hx rfl (hb hby d42_14) ?_
    exact k_)
   obtain ⟨cl109, Ar109, q109, S109, Ng109, H109, G109⟩ := id Gir
   have hin109 := inb_of S109 (j := (0 : Int32)) ⟨by decide, by decide⟩
   obtain ⟨T109, h109, X109, e109, W109, st109⟩ := stZ X107 hx hZ e107 Ar109 (j := (0 : Int32)) hin109 (g := (mkF m 15 #[.val (.ref a1), .val (.int 0)] [(.int 1), (.int 0), (.ref ir)])) rfl rfl (hb hby d42_15)
   have K110 : Keep h0 h109 [a1, rs, ir] := (Keep.refl h0 [a1, rs, ir]).wr W109 (Or.inl (List.mem_of_getElem? (i := 2) rfl))
   have N109 := Fr.snoc X109 N0 GE.2.2.2.2.2.1
   have V109 : Arv Z h109 ir kir .boolean (2 : Int32) [(.int 1), (.int 0)] (.int 0) := Arv.set Ar109 q109 S109 Ng109 H109 G109 (by decide) W109 0 rfl (Nat.le_of_ble_eq_true rfl)
   have p111 : GF p e below _ T109 m 17 #[.val (.ref a1), .val (.int 0)] [(.ref a1)] := fun t_ k_ => (gc p108 st109) t_ (by
    refine XS.aloadN X109.here hx rfl (hb hby d42_16) rfl rfl ?_
    exact k_)
   have f112 := (F5.other W109 (Or.inl ND.2.2.2.2.1))
   obtain ⟨T113, X113, e113, st113⟩ := getF X109 hx hZ hown (host := "") (Or.inl (own_w hw 280 rfl)) Via.refl e109 f112 (g := (mkF m 17 #[.val (.ref a1), .val (.int 0)] [(.ref a1)])) rfl rfl (hb hby d42_17)
   have p114 : GF p e below _ T113 m 22 #[.val (.ref a1), .val (.int 0)] [(.ref a1), (.ref a1), (.ref rs)] := fun t_ k_ => (gc p111 st113) t_ (by
    refine XS.aloadN X113.here hx rfl (hb hby d42_20) rfl rfl ?_
    refine XS.dup X113.here hx rfl (hb hby d42_21) rfl rfl ?_
    exact k_)
   have f115 := (G7.other W109 (Or.inl ND.2.2.2.2.1))
   obtain ⟨T116, X116, e116, st116⟩ := getF X113 hx hZ hown (host := "") (Or.inl (own_w hw 334 rfl)) Via.refl e113 f115 (g := (mkF m 22 #[.val (.ref a1), .val (.int 0)] [(.ref a1), (.ref a1), (.ref rs)])) rfl rfl (hb hby d42_22)
   have p117 : GF p e below _ T116 m 28 #[.val (.ref a1), .val (.int 0)] [(.int 1), (.ref a1), (.int 0), (.ref rs)] := fun t_ k_ => (gc p114 st116) t_ (by
    refine XS.dupX1 X116.here hx rfl (hb hby d42_25) rfl rfl rfl ?_
    refine XS.iconst X116.here hx rfl (hb hby d42_26) ?_
    refine XS.iadd X116.here hx rfl (hb hby d42_27) rfl ?_
    exact k_)
   have f118 := (F0.wr W109)
   obtain ⟨T119, h119, X119, e119, W119, st119⟩ := putF X116 hx hZ hown (host := "") (Or.inl (own_w hw 334 rfl)) Via.refl e116 f115 f118 (Or.inl (own_w hw 335 rfl)) (own_w hw 90 rfl) (ty := .int) (by decide) rfl rfl (g := (mkF m 28 #[.val (.ref a1), .val (.int 0)] [(.int 1), (.ref a1), (.int 0), (.ref rs)])) rfl rfl (hb hby d42_28)
   have K120 : Keep h0 h119 [a1, rs, ir] := K110.wr W119 (Or.inl (List.mem_of_getElem? (i := 0) rfl))
   have N119 := Fr.snoc X119 N109 GE.1
   have F119 : Fld Z h119 a1 "com/example/arcward/arcward/solver/Domains" "resizedCount" "I" (.int 1) := f115.same W119
   have p121 : GF p e below _ T119 m 32 #[.val (.ref a1), .val (.int 0)] [(.int 0), (.int 0), (.ref rs)] := fun t_ k_ => (gc p117 st119) t_ (by
    refine XS.iloadN X119.here hx rfl (hb hby d42_31) rfl ?_
    exact k_)
   have f122 := ((F9.other W109 ND.2.2.2.2.2.2.2.2.2.2.2.2.2.2.2.2.2.2.2.2.2.2.1).other W119 (Ne.symm ND.2.2.2.1))
   obtain ⟨cl123, Ar123, q123, S123, Ng123, H123, G123⟩ := id f122
   have hin123 := inb_of S123 (j := (0 : Int32)) ⟨by decide, by decide⟩
   obtain ⟨T123, h123, X123, e123, W123, st123⟩ := stI X119 hx hZ e119 Ar123 (j := (0 : Int32)) hin123 (g := (mkF m 32 #[.val (.ref a1), .val (.int 0)] [(.int 0), (.int 0), (.ref rs)])) rfl rfl (hb hby d42_32)
   have K124 : Keep h0 h123 [a1, rs, ir] := K120.wr W123 (Or.inl (List.mem_of_getElem? (i := 1) rfl))
   have N123 := Fr.snoc X123 N119 GE.2.2.2.2.1
   have V123 : Arv Z h123 rs krs .int (2 : Int32) [(.int 0), (.int u1)] (.int 0) := Arv.set Ar123 q123 S123 Ng123 H123 G123 rfl W123 0 rfl (Nat.le_of_ble_eq_true rfl)
   have f125 := ((f118.wr W119).wr W123)
   have f126 := (((F1.other W109 (Or.inl ND.2.2.2.2.1)).other W119 (Or.inr (slot_ne (Or.inl (own_w hw 265 rfl)) (Or.inl (own_w hw 335 rfl)) (by decide) (t := (.array .int)) (t' := .int) (by decide) (by decide)))).other W123 (Or.inl ND.2.2.2.1))
   have f127 := (((F2.other W109 (Or.inl ND.2.2.2.2.1)).other W119 (Or.inr (slot_ne (Or.inr (own_w hw 267 rfl)) (Or.inl (own_w hw 335 rfl)) (by decide) (t := (.array .int)) (t' := .int) (by decide) (by decide)))).other W123 (Or.inl ND.2.2.2.1))
   have f128 := (((F3.other W109 (Or.inl ND.2.2.2.2.1)).other W119 (Or.inr (slot_ne (Or.inr (own_w hw 277 rfl)) (Or.inl (own_w hw 335 rfl)) (by decide) (t := (.array (.array .long))) (t' := .int) (by decide) (by decide)))).other W123 (Or.inl ND.2.2.2.1))
   have f129 := (((F4.other W109 (Or.inl ND.2.2.2.2.1)).other W119 (Or.inr (slot_ne (Or.inr (own_w hw 279 rfl)) (Or.inl (own_w hw 335 rfl)) (by decide) (t := (.array .int)) (t' := .int) (by decide) (by decide)))).other W123 (Or.inl ND.2.2.2.1))
   have f130 := ((f112.other W119 (Or.inr (slot_ne (Or.inr (own_w hw 281 rfl)) (Or.inl (own_w hw 335 rfl)) (by decide) (t := (.array .int)) (t' := .int) (by decide) (by decide)))).other W123 (Or.inl ND.2.2.2.1))
   have f131 := (((F6.other W109 (Or.inl ND.2.2.2.2.1)).other W119 (Or.inr (slot_ne (Or.inr (own_w hw 284 rfl)) (Or.inl (own_w hw 335 rfl)) (by decide) (t := (.array .boolean)) (t' := .int) (by decide) (by decide)))).other W123 (Or.inl ND.2.2.2.1))
   have f132 := (F119.other W123 (Or.inl ND.2.2.2.1))
   have f133 := (((F8.other W109 (Or.inl ND.2.2.2.2.1)).other W119 (Or.inr (slot_ne (Or.inl (own_w hw 308 rfl)) (Or.inl (own_w hw 335 rfl)) (by decide) (t := .int) (t' := .int) (by decide) (by decide)))).other W123 (Or.inl ND.2.2.2.1))
   have f134 := ((V109.other W119 (Ne.symm ND.2.2.2.2.1)).other W123 (Ne.symm ND.2.2.2.2.2.2.2.2.2.2.2.2.2.2.2.2.2.2.2.2.2.2.1))
   obtain ⟨fs, hr, hrun, hended, hW, hsame⟩ := X123.leave (v := none) (fun _ => rfl)
   refine ⟨_, _, (gc p121 st123) _ (X123.returnOut hx Bd.returns (hb hby d42_33) hr), hrun, hended, _, _, rfl, ?_, ⟨_, rfl⟩, hW, hsame.mono (by decide) (by decide)⟩
   show Q42 Z a1 tr bi sz rs ir w0 w1 rb krs kir tl rc u0 u1 eb0 eb1 p2 h0 n0 _ T123.heap _
   rw [e123]
   exact ⟨(1 : Int32), (0 : Int32), u1, (1 : Int32), (0 : Int32), rfl, N123, K124, f125, f126, f127, f128, f129, f130, f131, f132, f133, V123, f134, (by unfold own_M; decide)⟩
  ·have p135 : GF p e below _ s₁ m 0 #[.val (.ref a1), .val (.int 0)] [] := goF p0 (by rw [hx0])
   have G7 : Fld Z h0 a1 "com/example/arcward/arcward/solver/Domains" "resizedCount" "I" (.int 1) := by have z := F7; rw [r1] at z; exact z
   have Gir : Arv Z h0 ir kir .boolean (2 : Int32) [(.int 1), (.int 0)] (.int 0) := by have z := F10; rw [r2, r3] at z; exact z
   have p136 : GF p e below _ s₁ m 1 #[.val (.ref a1), .val (.int 0)] [(.ref a1)] := fun t_ k_ => p135 t_ (by
    refine XS.aloadN X0.here hx rfl (hb hby d42_0) rfl rfl ?_
    exact k_)
   obtain ⟨T137, X137, e137, st137⟩ := getF X0 hx hZ hown (host := "") (Or.inl (own_w hw 283 rfl)) Via.refl e0 F6 (g := (mkF m 1 #[.val (.ref a1), .val (.int 0)] [(.ref a1)])) rfl rfl (hb hby d42_1)
   have p138 : GF p e below _ T137 m 5 #[.val (.ref a1), .val (.int 0)] [(.int 0), (.ref ir)] := fun t_ k_ => (gc p136 st137) t_ (by
    refine XS.iloadN X137.here hx rfl (hb hby d42_4) rfl ?_
    exact k_)
   obtain ⟨cl139, Ar139, q139, S139, Ng139, H139, G139⟩ := id Gir
   have hin139 := inb_of S139 (j := (0 : Int32)) ⟨by decide, by decide⟩
   have hat139 := H139.at (v := (.int 1)) hin139 rfl
   have p140 : GF p e below _ T137 m 33 #[.val (.ref a1), .val (.int 0)] [] := fun t_ k_ => p138 t_ (by
    refine X137.baloadBooleans hx (j := (0 : Int32)) (v := (.int 1)) (by rw [e137]; exact Ar139.1) (State.isArrayOf_alike hZ.alike Ar139.2.1) Ar139.2.2 hin139 hat139 (g := (mkF m 5 #[.val (.ref a1), .val (.int 0)] [(.int 0), (.ref ir)])) rfl rfl (hb hby d42_5) _ ?_
    refine XS.ifYes X137.here hx rfl (pc0 := 6) (pc' := 33) rfl (hb hby d42_6) rfl ((if0 _ _).trans (feq (by decide : ¬ ((1 : Int32) = (0 : Int32)))).2) (by decide) (by decide) ?_
    exact k_)
   obtain ⟨fs, hr, hrun, hended, hW, hsame⟩ := X137.leave (v := none) (fun _ => rfl)
   refine ⟨_, _, p140 _ (X137.returnOut hx Bd.returns (hb hby d42_33) hr), hrun, hended, _, _, rfl, ?_, ⟨_, rfl⟩, hW, hsame.mono (by decide) (by decide)⟩
   show Q42 Z a1 tr bi sz rs ir w0 w1 rb krs kir tl rc u0 u1 eb0 eb1 p2 h0 n0 _ T137.heap _
   rw [e137]
   exact ⟨(1 : Int32), u0, u1, (1 : Int32), (0 : Int32), rfl, N0, (Keep.refl h0 [a1, rs, ir]), F0, F1, F2, F3, F4, F5, F6, G7, F8, F9, Gir, (by unfold own_M; decide)⟩
  ·have p141 : GF p e below _ s₁ m 0 #[.val (.ref a1), .val (.int 0)] [] := goF p0 (by rw [hx0])
   have G7 : Fld Z h0 a1 "com/example/arcward/arcward/solver/Domains" "resizedCount" "I" (.int 1) := by have z := F7; rw [r1] at z; exact z
   have Gir : Arv Z h0 ir kir .boolean (2 : Int32) [(.int 0), (.int 1)] (.int 0) := by have z := F10; rw [r2, r3] at z; exact z
   have p142 : GF p e below _ s₁ m 1 #[.val (.ref a1), .val (.int 0)] [(.ref a1)] := fun t_ k_ => p141 t_ (by
    refine XS.aloadN X0.here hx rfl (hb hby d42_0) rfl rfl ?_
    exact k_)
   obtain ⟨T143, X143, e143, st143⟩ := getF X0 hx hZ hown (host := "") (Or.inl (own_w hw 283 rfl)) Via.refl e0 F6 (g := (mkF m 1 #[.val (.ref a1), .val (.int 0)] [(.ref a1)])) rfl rfl (hb hby d42_1)
   have p144 : GF p e below _ T143 m 5 #[.val (.ref a1), .val (.int 0)] [(.int 0), (.ref ir)] := fun t_ k_ => (gc p142 st143) t_ (by
    refine XS.iloadN X143.here hx rfl (hb hby d42_4) rfl ?_
    exact k_)
   obtain ⟨cl145, Ar145, q145, S145, Ng145, H145, G145⟩ := id Gir
   have hin145 := inb_of S145 (j := (0 : Int32)) ⟨by decide, by decide⟩
   have hat145 := H145.at (v := (.int 0)) hin145 rfl
   have p146 : GF p e below _ T143 m 10 #[.val (.ref a1), .val (.int 0)] [(.ref a1)] := fun t_ k_ => p144 t_ (by
    refine X143.baloadBooleans hx (j := (0 : Int32)) (v := (.int 0)) (by rw [e143]; exact Ar145.1) (State.isArrayOf_alike hZ.alike Ar145.2.1) Ar145.2.2 hin145 hat145 (g := (mkF m 5 #[.val (.ref a1), .val (.int 0)] [(.int 0), (.ref ir)])) rfl rfl (hb hby d42_5) _ ?_
    refine XS.ifNo X143.here hx rfl (hb hby d42_6) rfl ((if0 _ _).trans (teq (by decide : ((0 : Int32) = (0 : Int32)))).2) ?_
    refine XS.aloadN X143.here hx rfl (hb hby d42_9) rfl rfl ?_
    exact k_)
   obtain ⟨T147, X147, e147, st147⟩ := getF X143 hx hZ hown (host := "") (Or.inl (own_w hw 283 rfl)) Via.refl e143 F6 (g := (mkF m 10 #[.val (.ref a1), .val (.int 0)] [(.ref a1)])) rfl rfl (hb hby d42_10)
   have p148 : GF p e below _ T147 m 15 #[.val (.ref a1), .val (.int 0)] [(.int 1), (.int 0), (.ref ir)] := fun t_ k_ => (gc p146 st147) t_ (by
    refine XS.iloadN X147.here hx rfl (hb hby d42_13) rfl ?_
    refine XS.iconst X147.here hx rfl (hb hby d42_14) ?_
    exact k_)
   obtain ⟨cl149, Ar149, q149, S149, Ng149, H149, G149⟩ := id Gir
   have hin149 := inb_of S149 (j := (0 : Int32)) ⟨by decide, by decide⟩
   obtain ⟨T149, h149, X149, e149, W149, st149⟩ := stZ X147 hx hZ e147 Ar149 (j := (0 : Int32)) hin149 (g := (mkF m 15 #[.val (.ref a1), .val (.int 0)] [(.int 1), (.int 0), (.ref ir)])) rfl rfl (hb hby d42_15)
   have K150 : Keep h0 h149 [a1, rs, ir] := (Keep.refl h0 [a1, rs, ir]).wr W149 (Or.inl (List.mem_of_getElem? (i := 2) rfl))
   have N149 := Fr.snoc X149 N0 GE.2.2.2.2.2.1
   have V149 : Arv Z h149 ir kir .boolean (2 : Int32) [(.int 1), (.int 1)] (.int 0) := Arv.set Ar149 q149 S149 Ng149 H149 G149 (by decide) W149 0 rfl (Nat.le_of_ble_eq_true rfl)
   have p151 : GF p e below _ T149 m 17 #[.val (.ref a1), .val (.int 0)] [(.ref a1)] := fun t_ k_ => (gc p148 st149) t_ (by
    refine XS.aloadN X149.here hx rfl (hb hby d42_16) rfl rfl ?_
    exact k_)
   have f152 := (F5.other W149 (Or.inl ND.2.2.2.2.1))
   obtain ⟨T153, X153, e153, st153⟩ := getF X149 hx hZ hown (host := "") (Or.inl (own_w hw 280 rfl)) Via.refl e149 f152 (g := (mkF m 17 #[.val (.ref a1), .val (.int 0)] [(.ref a1)])) rfl rfl (hb hby d42_17)
   have p154 : GF p e below _ T153 m 22 #[.val (.ref a1), .val (.int 0)] [(.ref a1), (.ref a1), (.ref rs)] := fun t_ k_ => (gc p151 st153) t_ (by
    refine XS.aloadN X153.here hx rfl (hb hby d42_20) rfl rfl ?_
    refine XS.dup X153.here hx rfl (hb hby d42_21) rfl rfl ?_
    exact k_)
   have f155 := (G7.other W149 (Or.inl ND.2.2.2.2.1))
   obtain ⟨T156, X156, e156, st156⟩ := getF X153 hx hZ hown (host := "") (Or.inl (own_w hw 334 rfl)) Via.refl e153 f155 (g := (mkF m 22 #[.val (.ref a1), .val (.int 0)] [(.ref a1), (.ref a1), (.ref rs)])) rfl rfl (hb hby d42_22)
   have p157 : GF p e below _ T156 m 28 #[.val (.ref a1), .val (.int 0)] [(.int 2), (.ref a1), (.int 1), (.ref rs)] := fun t_ k_ => (gc p154 st156) t_ (by
    refine XS.dupX1 X156.here hx rfl (hb hby d42_25) rfl rfl rfl ?_
    refine XS.iconst X156.here hx rfl (hb hby d42_26) ?_
    refine XS.iadd X156.here hx rfl (hb hby d42_27) rfl ?_
    exact k_)
   have f158 := (F0.wr W149)
   obtain ⟨T159, h159, X159, e159, W159, st159⟩ := putF X156 hx hZ hown (host := "") (Or.inl (own_w hw 334 rfl)) Via.refl e156 f155 f158 (Or.inl (own_w hw 335 rfl)) (own_w hw 90 rfl) (ty := .int) (by decide) rfl rfl (g := (mkF m 28 #[.val (.ref a1), .val (.int 0)] [(.int 2), (.ref a1), (.int 1), (.ref rs)])) rfl rfl (hb hby d42_28)
   have K160 : Keep h0 h159 [a1, rs, ir] := K150.wr W159 (Or.inl (List.mem_of_getElem? (i := 0) rfl))
   have N159 := Fr.snoc X159 N149 GE.1
   have F159 : Fld Z h159 a1 "com/example/arcward/arcward/solver/Domains" "resizedCount" "I" (.int 2) := f155.same W159
   have p161 : GF p e below _ T159 m 32 #[.val (.ref a1), .val (.int 0)] [(.int 0), (.int 1), (.ref rs)] := fun t_ k_ => (gc p157 st159) t_ (by
    refine XS.iloadN X159.here hx rfl (hb hby d42_31) rfl ?_
    exact k_)
   have f162 := ((F9.other W149 ND.2.2.2.2.2.2.2.2.2.2.2.2.2.2.2.2.2.2.2.2.2.2.1).other W159 (Ne.symm ND.2.2.2.1))
   obtain ⟨cl163, Ar163, q163, S163, Ng163, H163, G163⟩ := id f162
   have hin163 := inb_of S163 (j := (1 : Int32)) ⟨by decide, by decide⟩
   obtain ⟨T163, h163, X163, e163, W163, st163⟩ := stI X159 hx hZ e159 Ar163 (j := (1 : Int32)) hin163 (g := (mkF m 32 #[.val (.ref a1), .val (.int 0)] [(.int 0), (.int 1), (.ref rs)])) rfl rfl (hb hby d42_32)
   have K164 : Keep h0 h163 [a1, rs, ir] := K160.wr W163 (Or.inl (List.mem_of_getElem? (i := 1) rfl))
   have N163 := Fr.snoc X163 N159 GE.2.2.2.2.1
   have V163 : Arv Z h163 rs krs .int (2 : Int32) [(.int u0), (.int 0)] (.int 0) := Arv.set Ar163 q163 S163 Ng163 H163 G163 rfl W163 1 rfl (Nat.le_of_ble_eq_true rfl)
   have f165 := ((f158.wr W159).wr W163)
   have f166 := (((F1.other W149 (Or.inl ND.2.2.2.2.1)).other W159 (Or.inr (slot_ne (Or.inl (own_w hw 265 rfl)) (Or.inl (own_w hw 335 rfl)) (by decide) (t := (.array .int)) (t' := .int) (by decide) (by decide)))).other W163 (Or.inl ND.2.2.2.1))
   have f167 := (((F2.other W149 (Or.inl ND.2.2.2.2.1)).other W159 (Or.inr (slot_ne (Or.inr (own_w hw 267 rfl)) (Or.inl (own_w hw 335 rfl)) (by decide) (t := (.array .int)) (t' := .int) (by decide) (by decide)))).other W163 (Or.inl ND.2.2.2.1))
   have f168 := (((F3.other W149 (Or.inl ND.2.2.2.2.1)).other W159 (Or.inr (slot_ne (Or.inr (own_w hw 277 rfl)) (Or.inl (own_w hw 335 rfl)) (by decide) (t := (.array (.array .long))) (t' := .int) (by decide) (by decide)))).other W163 (Or.inl ND.2.2.2.1))
   have f169 := (((F4.other W149 (Or.inl ND.2.2.2.2.1)).other W159 (Or.inr (slot_ne (Or.inr (own_w hw 279 rfl)) (Or.inl (own_w hw 335 rfl)) (by decide) (t := (.array .int)) (t' := .int) (by decide) (by decide)))).other W163 (Or.inl ND.2.2.2.1))
   have f170 := ((f152.other W159 (Or.inr (slot_ne (Or.inr (own_w hw 281 rfl)) (Or.inl (own_w hw 335 rfl)) (by decide) (t := (.array .int)) (t' := .int) (by decide) (by decide)))).other W163 (Or.inl ND.2.2.2.1))
   have f171 := (((F6.other W149 (Or.inl ND.2.2.2.2.1)).other W159 (Or.inr (slot_ne (Or.inr (own_w hw 284 rfl)) (Or.inl (own_w hw 335 rfl)) (by decide) (t := (.array .boolean)) (t' := .int) (by decide) (by decide)))).other W163 (Or.inl ND.2.2.2.1))
   have f172 := (F159.other W163 (Or.inl ND.2.2.2.1))
   have f173 := (((F8.other W149 (Or.inl ND.2.2.2.2.1)).other W159 (Or.inr (slot_ne (Or.inl (own_w hw 308 rfl)) (Or.inl (own_w hw 335 rfl)) (by decide) (t := .int) (t' := .int) (by decide) (by decide)))).other W163 (Or.inl ND.2.2.2.1))
   have f174 := ((V149.other W159 (Ne.symm ND.2.2.2.2.1)).other W163 (Ne.symm ND.2.2.2.2.2.2.2.2.2.2.2.2.2.2.2.2.2.2.2.2.2.2.1))
   obtain ⟨fs, hr, hrun, hended, hW, hsame⟩ := X163.leave (v := none) (fun _ => rfl)
   refine ⟨_, _, (gc p161 st163) _ (X163.returnOut hx Bd.returns (hb hby d42_33) hr), hrun, hended, _, _, rfl, ?_, ⟨_, rfl⟩, hW, hsame.mono (by decide) (by decide)⟩
   show Q42 Z a1 tr bi sz rs ir w0 w1 rb krs kir tl rc u0 u1 eb0 eb1 p2 h0 n0 _ T163.heap _
   rw [e163]
   exact ⟨(2 : Int32), u0, (0 : Int32), (1 : Int32), (1 : Int32), rfl, N163, K164, f165, f166, f167, f168, f169, f170, f171, f172, f173, V163, f174, (by unfold own_M; decide)⟩
  ·have p175 : GF p e below _ s₁ m 0 #[.val (.ref a1), .val (.int 0)] [] := goF p0 (by rw [hx0])
   have G7 : Fld Z h0 a1 "com/example/arcward/arcward/solver/Domains" "resizedCount" "I" (.int 2) := by have z := F7; rw [r1] at z; exact z
   have Gir : Arv Z h0 ir kir .boolean (2 : Int32) [(.int 1), (.int 1)] (.int 0) := by have z := F10; rw [r2, r3] at z; exact z
   have p176 : GF p e below _ s₁ m 1 #[.val (.ref a1), .val (.int 0)] [(.ref a1)] := fun t_ k_ => p175 t_ (by
    refine XS.aloadN X0.here hx rfl (hb hby d42_0) rfl rfl ?_
    exact k_)
   obtain ⟨T177, X177, e177, st177⟩ := getF X0 hx hZ hown (host := "") (Or.inl (own_w hw 283 rfl)) Via.refl e0 F6 (g := (mkF m 1 #[.val (.ref a1), .val (.int 0)] [(.ref a1)])) rfl rfl (hb hby d42_1)
   have p178 : GF p e below _ T177 m 5 #[.val (.ref a1), .val (.int 0)] [(.int 0), (.ref ir)] := fun t_ k_ => (gc p176 st177) t_ (by
    refine XS.iloadN X177.here hx rfl (hb hby d42_4) rfl ?_
    exact k_)
   obtain ⟨cl179, Ar179, q179, S179, Ng179, H179, G179⟩ := id Gir
   have hin179 := inb_of S179 (j := (0 : Int32)) ⟨by decide, by decide⟩
   have hat179 := H179.at (v := (.int 1)) hin179 rfl
   have p180 : GF p e below _ T177 m 33 #[.val (.ref a1), .val (.int 0)] [] := fun t_ k_ => p178 t_ (by
    refine X177.baloadBooleans hx (j := (0 : Int32)) (v := (.int 1)) (by rw [e177]; exact Ar179.1) (State.isArrayOf_alike hZ.alike Ar179.2.1) Ar179.2.2 hin179 hat179 (g := (mkF m 5 #[.val (.ref a1), .val (.int 0)] [(.int 0), (.ref ir)])) rfl rfl (hb hby d42_5) _ ?_
    refine XS.ifYes X177.here hx rfl (pc0 := 6) (pc' := 33) rfl (hb hby d42_6) rfl ((if0 _ _).trans (feq (by decide : ¬ ((1 : Int32) = (0 : Int32)))).2) (by decide) (by decide) ?_
    exact k_)
   obtain ⟨fs, hr, hrun, hended, hW, hsame⟩ := X177.leave (v := none) (fun _ => rfl)
   refine ⟨_, _, p180 _ (X177.returnOut hx Bd.returns (hb hby d42_33) hr), hrun, hended, _, _, rfl, ?_, ⟨_, rfl⟩, hW, hsame.mono (by decide) (by decide)⟩
   show Q42 Z a1 tr bi sz rs ir w0 w1 rb krs kir tl rc u0 u1 eb0 eb1 p2 h0 n0 _ T177.heap _
   rw [e177]
   exact ⟨(2 : Int32), u0, u1, (1 : Int32), (1 : Int32), rfl, N0, (Keep.refl h0 [a1, rs, ir]), F0, F1, F2, F3, F4, F5, F6, G7, F8, F9, Gir, (by unfold own_M; decide)⟩
 ·rcases id HM with ⟨r1, r2, r3⟩ | ⟨r1, r2, r3⟩ | ⟨r1, r2, r3⟩ | ⟨r1, r2, r3⟩
  ·have p181 : GF p e below _ s₁ m 0 #[.val (.ref a1), .val (.int 1)] [] := goF p0 (by rw [hx0])
   have G7 : Fld Z h0 a1 "com/example/arcward/arcward/solver/Domains" "resizedCount" "I" (.int 0) := by have z := F7; rw [r1] at z; exact z
   have Gir : Arv Z h0 ir kir .boolean (2 : Int32) [(.int 0), (.int 0)] (.int 0) := by have z := F10; rw [r2, r3] at z; exact z
   have p182 : GF p e below _ s₁ m 1 #[.val (.ref a1), .val (.int 1)] [(.ref a1)] := fun t_ k_ => p181 t_ (by
    refine XS.aloadN X0.here hx rfl (hb hby d42_0) rfl rfl ?_
    exact k_)
   obtain ⟨T183, X183, e183, st183⟩ := getF X0 hx hZ hown (host := "") (Or.inl (own_w hw 283 rfl)) Via.refl e0 F6 (g := (mkF m 1 #[.val (.ref a1), .val (.int 1)] [(.ref a1)])) rfl rfl (hb hby d42_1)
   have p184 : GF p e below _ T183 m 5 #[.val (.ref a1), .val (.int 1)] [(.int 1), (.ref ir)] := fun t_ k_ => (gc p182 st183) t_ (by
    refine XS.iloadN X183.here hx rfl (hb hby d42_4) rfl ?_
    exact k_)
   obtain ⟨cl185, Ar185, q185, S185, Ng185, H185, G185⟩ := id Gir
   have hin185 := inb_of S185 (j := (1 : Int32)) ⟨by decide, by decide⟩
   have hat185 := H185.at (v := (.int 0)) hin185 rfl
   have p186 : GF p e below _ T183 m 10 #[.val (.ref a1), .val (.int 1)] [(.ref a1)] := fun t_ k_ => p184 t_ (by
    refine X183.baloadBooleans hx (j := (1 : Int32)) (v := (.int 0)) (by rw [e183]; exact Ar185.1) (State.isArrayOf_alike hZ.alike Ar185.2.1) Ar185.2.2 hin185 hat185 (g := (mkF m 5 #[.val (.ref a1), .val (.int 1)] [(.int 1), (.ref ir)])) rfl rfl (hb hby d42_5) _ ?_
    refine XS.ifNo X183.here hx rfl (hb hby d42_6) rfl ((if0 _ _).trans (teq (by decide : ((0 : Int32) = (0 : Int32)))).2) ?_
    refine XS.aloadN X183.here hx rfl (hb hby d42_9) rfl rfl ?_
    exact k_)
   obtain ⟨T187, X187, e187, st187⟩ := getF X183 hx hZ hown (host := "") (Or.inl (own_w hw 283 rfl)) Via.refl e183 F6 (g := (mkF m 10 #[.val (.ref a1), .val (.int 1)] [(.ref a1)])) rfl rfl (hb hby d42_10)
   have p188 : GF p e below _ T187 m 15 #[.val (.ref a1), .val (.int 1)] [(.int 1), (.int 1), (.ref ir)] := fun t_ k_ => (gc p186 st187) t_ (by
    refine XS.iloadN X187.here hx rfl (hb hby d42_13) rfl ?_
    refine XS.iconst X187.here hx rfl (hb hby d42_14) ?_
    exact k_)
   obtain ⟨cl189, Ar189, q189, S189, Ng189, H189, G189⟩ := id Gir
   have hin189 := inb_of S189 (j := (1 : Int32)) ⟨by decide, by decide⟩
   obtain ⟨T189, h189, X189, e189, W189, st189⟩ := stZ X187 hx hZ e187 Ar189 (j := (1 : Int32)) hin189 (g := (mkF m 15 #[.val (.ref a1), .val (.int 1)] [(.int 1), (.int 1), (.ref ir)])) rfl rfl (hb hby d42_15)
   have K190 : Keep h0 h189 [a1, rs, ir] := (Keep.refl h0 [a1, rs, ir]).wr W189 (Or.inl (List.mem_of_getElem? (i := 2) rfl))
   have N189 := Fr.snoc X189 N0 GE.2.2.2.2.2.1
   have V189 : Arv Z h189 ir kir .boolean (2 : Int32) [(.int 0), (.int 1)] (.int 0) := Arv.set Ar189 q189 S189 Ng189 H189 G189 (by decide) W189 1 rfl (Nat.le_of_ble_eq_true rfl)
   have p191 : GF p e below _ T189 m 17 #[.val (.ref a1), .val (.int 1)] [(.ref a1)] := fun t_ k_ => (gc p188 st189) t_ (by
    refine XS.aloadN X189.here hx rfl (hb hby d42_16) rfl rfl ?_
    exact k_)
   have f192 := (F5.other W189 (Or.inl ND.2.2.2.2.1))
   obtain ⟨T193, X193, e193, st193⟩ := getF X189 hx hZ hown (host := "") (Or.inl (own_w hw 280 rfl)) Via.refl e189 f192 (g := (mkF m 17 #[.val (.ref a1), .val (.int 1)] [(.ref a1)])) rfl rfl (hb hby d42_17)
   have p194 : GF p e below _ T193 m 22 #[.val (.ref a1), .val (.int 1)] [(.ref a1), (.ref a1), (.ref rs)] := fun t_ k_ => (gc p191 st193) t_ (by
    refine XS.aloadN X193.here hx rfl (hb hby d42_20) rfl rfl ?_
    refine XS.dup X193.here hx rfl (hb hby d42_21) rfl rfl ?_
    exact k_)
   have f195 := (G7.other W189 (Or.inl ND.2.2.2.2.1))
   obtain ⟨T196, X196, e196, st196⟩ := getF X193 hx hZ hown (host := "") (Or.inl (own_w hw 334 rfl)) Via.refl e193 f195 (g := (mkF m 22 #[.val (.ref a1), .val (.int 1)] [(.ref a1), (.ref a1), (.ref rs)])) rfl rfl (hb hby d42_22)
   have p197 : GF p e below _ T196 m 28 #[.val (.ref a1), .val (.int 1)] [(.int 1), (.ref a1), (.int 0), (.ref rs)] := fun t_ k_ => (gc p194 st196) t_ (by
    refine XS.dupX1 X196.here hx rfl (hb hby d42_25) rfl rfl rfl ?_
    refine XS.iconst X196.here hx rfl (hb hby d42_26) ?_
    refine XS.iadd X196.here hx rfl (hb hby d42_27) rfl ?_
    exact k_)
   have f198 := (F0.wr W189)
   obtain ⟨T199, h199, X199, e199, W199, st199⟩ := putF X196 hx hZ hown (host := "") (Or.inl (own_w hw 334 rfl)) Via.refl e196 f195 f198 (Or.inl (own_w hw 335 rfl)) (own_w hw 90 rfl) (ty := .int) (by decide) rfl rfl (g := (mkF m 28 #[.val (.ref a1), .val (.int 1)] [(.int 1), (.ref a1), (.int 0), (.ref rs)])) rfl rfl (hb hby d42_28)
   have K200 : Keep h0 h199 [a1, rs, ir] := K190.wr W199 (Or.inl (List.mem_of_getElem? (i := 0) rfl))
   have N199 := Fr.snoc X199 N189 GE.1
   have F199 : Fld Z h199 a1 "com/example/arcward/arcward/solver/Domains" "resizedCount" "I" (.int 1) := f195.same W199
   have p201 : GF p e below _ T199 m 32 #[.val (.ref a1), .val (.int 1)] [(.int 1), (.int 0), (.ref rs)] := fun t_ k_ => (gc p197 st199) t_ (by
    refine XS.iloadN X199.here hx rfl (hb hby d42_31) rfl ?_
    exact k_)
   have f202 := ((F9.other W189 ND.2.2.2.2.2.2.2.2.2.2.2.2.2.2.2.2.2.2.2.2.2.2.1).other W199 (Ne.symm ND.2.2.2.1))
   obtain ⟨cl203, Ar203, q203, S203, Ng203, H203, G203⟩ := id f202
   have hin203 := inb_of S203 (j := (0 : Int32)) ⟨by decide, by decide⟩
   obtain ⟨T203, h203, X203, e203, W203, st203⟩ := stI X199 hx hZ e199 Ar203 (j := (0 : Int32)) hin203 (g := (mkF m 32 #[.val (.ref a1), .val (.int 1)] [(.int 1), (.int 0), (.ref rs)])) rfl rfl (hb hby d42_32)
   have K204 : Keep h0 h203 [a1, rs, ir] := K200.wr W203 (Or.inl (List.mem_of_getElem? (i := 1) rfl))
   have N203 := Fr.snoc X203 N199 GE.2.2.2.2.1
   have V203 : Arv Z h203 rs krs .int (2 : Int32) [(.int 1), (.int u1)] (.int 0) := Arv.set Ar203 q203 S203 Ng203 H203 G203 rfl W203 0 rfl (Nat.le_of_ble_eq_true rfl)
   have f205 := ((f198.wr W199).wr W203)
   have f206 := (((F1.other W189 (Or.inl ND.2.2.2.2.1)).other W199 (Or.inr (slot_ne (Or.inl (own_w hw 265 rfl)) (Or.inl (own_w hw 335 rfl)) (by decide) (t := (.array .int)) (t' := .int) (by decide) (by decide)))).other W203 (Or.inl ND.2.2.2.1))
   have f207 := (((F2.other W189 (Or.inl ND.2.2.2.2.1)).other W199 (Or.inr (slot_ne (Or.inr (own_w hw 267 rfl)) (Or.inl (own_w hw 335 rfl)) (by decide) (t := (.array .int)) (t' := .int) (by decide) (by decide)))).other W203 (Or.inl ND.2.2.2.1))
   have f208 := (((F3.other W189 (Or.inl ND.2.2.2.2.1)).other W199 (Or.inr (slot_ne (Or.inr (own_w hw 277 rfl)) (Or.inl (own_w hw 335 rfl)) (by decide) (t := (.array (.array .long))) (t' := .int) (by decide) (by decide)))).other W203 (Or.inl ND.2.2.2.1))
   have f209 := (((F4.other W189 (Or.inl ND.2.2.2.2.1)).other W199 (Or.inr (slot_ne (Or.inr (own_w hw 279 rfl)) (Or.inl (own_w hw 335 rfl)) (by decide) (t := (.array .int)) (t' := .int) (by decide) (by decide)))).other W203 (Or.inl ND.2.2.2.1))
   have f210 := ((f192.other W199 (Or.inr (slot_ne (Or.inr (own_w hw 281 rfl)) (Or.inl (own_w hw 335 rfl)) (by decide) (t := (.array .int)) (t' := .int) (by decide) (by decide)))).other W203 (Or.inl ND.2.2.2.1))
   have f211 := (((F6.other W189 (Or.inl ND.2.2.2.2.1)).other W199 (Or.inr (slot_ne (Or.inr (own_w hw 284 rfl)) (Or.inl (own_w hw 335 rfl)) (by decide) (t := (.array .boolean)) (t' := .int) (by decide) (by decide)))).other W203 (Or.inl ND.2.2.2.1))
   have f212 := (F199.other W203 (Or.inl ND.2.2.2.1))
   have f213 := (((F8.other W189 (Or.inl ND.2.2.2.2.1)).other W199 (Or.inr (slot_ne (Or.inl (own_w hw 308 rfl)) (Or.inl (own_w hw 335 rfl)) (by decide) (t := .int) (t' := .int) (by decide) (by decide)))).other W203 (Or.inl ND.2.2.2.1))
   have f214 := ((V189.other W199 (Ne.symm ND.2.2.2.2.1)).other W203 (Ne.symm ND.2.2.2.2.2.2.2.2.2.2.2.2.2.2.2.2.2.2.2.2.2.2.1))
   obtain ⟨fs, hr, hrun, hended, hW, hsame⟩ := X203.leave (v := none) (fun _ => rfl)
   refine ⟨_, _, (gc p201 st203) _ (X203.returnOut hx Bd.returns (hb hby d42_33) hr), hrun, hended, _, _, rfl, ?_, ⟨_, rfl⟩, hW, hsame.mono (by decide) (by decide)⟩
   show Q42 Z a1 tr bi sz rs ir w0 w1 rb krs kir tl rc u0 u1 eb0 eb1 p2 h0 n0 _ T203.heap _
   rw [e203]
   exact ⟨(1 : Int32), (1 : Int32), u1, (0 : Int32), (1 : Int32), rfl, N203, K204, f205, f206, f207, f208, f209, f210, f211, f212, f213, V203, f214, (by unfold own_M; decide)⟩
  ·have p215 : GF p e below _ s₁ m 0 #[.val (.ref a1), .val (.int 1)] [] := goF p0 (by rw [hx0])
   have G7 : Fld Z h0 a1 "com/example/arcward/arcward/solver/Domains" "resizedCount" "I" (.int 1) := by have z := F7; rw [r1] at z; exact z
   have Gir : Arv Z h0 ir kir .boolean (2 : Int32) [(.int 1), (.int 0)] (.int 0) := by have z := F10; rw [r2, r3] at z; exact z
   have p216 : GF p e below _ s₁ m 1 #[.val (.ref a1), .val (.int 1)] [(.ref a1)] := fun t_ k_ => p215 t_ (by
    refine XS.aloadN X0.here hx rfl (hb hby d42_0) rfl rfl ?_
    exact k_)
   obtain ⟨T217, X217, e217, st217⟩ := getF X0 hx hZ hown (host := "") (Or.inl (own_w hw 283 rfl)) Via.refl e0 F6 (g := (mkF m 1 #[.val (.ref a1), .val (.int 1)] [(.ref a1)])) rfl rfl (hb hby d42_1)
   have p218 : GF p e below _ T217 m 5 #[.val (.ref a1), .val (.int 1)] [(.int 1), (.ref ir)] := fun t_ k_ => (gc p216 st217) t_ (by
    refine XS.iloadN X217.here hx rfl (hb hby d42_4) rfl ?_
    exact k_)
   obtain ⟨cl219, Ar219, q219, S219, Ng219, H219, G219⟩ := id Gir
   have hin219 := inb_of S219 (j := (1 : Int32)) ⟨by decide, by decide⟩
   have hat219 := H219.at (v := (.int 0)) hin219 rfl
   have p220 : GF p e below _ T217 m 10 #[.val (.ref a1), .val (.int 1)] [(.ref a1)] := fun t_ k_ => p218 t_ (by
    refine X217.baloadBooleans hx (j := (1 : Int32)) (v := (.int 0)) (by rw [e217]; exact Ar219.1) (State.isArrayOf_alike hZ.alike Ar219.2.1) Ar219.2.2 hin219 hat219 (g := (mkF m 5 #[.val (.ref a1), .val (.int 1)] [(.int 1), (.ref ir)])) rfl rfl (hb hby d42_5) _ ?_
    refine XS.ifNo X217.here hx rfl (hb hby d42_6) rfl ((if0 _ _).trans (teq (by decide : ((0 : Int32) = (0 : Int32)))).2) ?_
    refine XS.aloadN X217.here hx rfl (hb hby d42_9) rfl rfl ?_
    exact k_)
   obtain ⟨T221, X221, e221, st221⟩ := getF X217 hx hZ hown (host := "") (Or.inl (own_w hw 283 rfl)) Via.refl e217 F6 (g := (mkF m 10 #[.val (.ref a1), .val (.int 1)] [(.ref a1)])) rfl rfl (hb hby d42_10)
   have p222 : GF p e below _ T221 m 15 #[.val (.ref a1), .val (.int 1)] [(.int 1), (.int 1), (.ref ir)] := fun t_ k_ => (gc p220 st221) t_ (by
    refine XS.iloadN X221.here hx rfl (hb hby d42_13) rfl ?_
    refine XS.iconst X221.here hx rfl (hb hby d42_14) ?_
    exact k_)
   obtain ⟨cl223, Ar223, q223, S223, Ng223, H223, G223⟩ := id Gir
   have hin223 := inb_of S223 (j := (1 : Int32)) ⟨by decide, by decide⟩
   obtain ⟨T223, h223, X223, e223, W223, st223⟩ := stZ X221 hx hZ e221 Ar223 (j := (1 : Int32)) hin223 (g := (mkF m 15 #[.val (.ref a1), .val (.int 1)] [(.int 1), (.int 1), (.ref ir)])) rfl rfl (hb hby d42_15)
   have K224 : Keep h0 h223 [a1, rs, ir] := (Keep.refl h0 [a1, rs, ir]).wr W223 (Or.inl (List.mem_of_getElem? (i := 2) rfl))
   have N223 := Fr.snoc X223 N0 GE.2.2.2.2.2.1
   have V223 : Arv Z h223 ir kir .boolean (2 : Int32) [(.int 1), (.int 1)] (.int 0) := Arv.set Ar223 q223 S223 Ng223 H223 G223 (by decide) W223 1 rfl (Nat.le_of_ble_eq_true rfl)
   have p225 : GF p e below _ T223 m 17 #[.val (.ref a1), .val (.int 1)] [(.ref a1)] := fun t_ k_ => (gc p222 st223) t_ (by
    refine XS.aloadN X223.here hx rfl (hb hby d42_16) rfl rfl ?_
    exact k_)
   have f226 := (F5.other W223 (Or.inl ND.2.2.2.2.1))
   obtain ⟨T227, X227, e227, st227⟩ := getF X223 hx hZ hown (host := "") (Or.inl (own_w hw 280 rfl)) Via.refl e223 f226 (g := (mkF m 17 #[.val (.ref a1), .val (.int 1)] [(.ref a1)])) rfl rfl (hb hby d42_17)
   have p228 : GF p e below _ T227 m 22 #[.val (.ref a1), .val (.int 1)] [(.ref a1), (.ref a1), (.ref rs)] := fun t_ k_ => (gc p225 st227) t_ (by
    refine XS.aloadN X227.here hx rfl (hb hby d42_20) rfl rfl ?_
    refine XS.dup X227.here hx rfl (hb hby d42_21) rfl rfl ?_
    exact k_)
   have f229 := (G7.other W223 (Or.inl ND.2.2.2.2.1))
   obtain ⟨T230, X230, e230, st230⟩ := getF X227 hx hZ hown (host := "") (Or.inl (own_w hw 334 rfl)) Via.refl e227 f229 (g := (mkF m 22 #[.val (.ref a1), .val (.int 1)] [(.ref a1), (.ref a1), (.ref rs)])) rfl rfl (hb hby d42_22)
   have p231 : GF p e below _ T230 m 28 #[.val (.ref a1), .val (.int 1)] [(.int 2), (.ref a1), (.int 1), (.ref rs)] := fun t_ k_ => (gc p228 st230) t_ (by
    refine XS.dupX1 X230.here hx rfl (hb hby d42_25) rfl rfl rfl ?_
    refine XS.iconst X230.here hx rfl (hb hby d42_26) ?_
    refine XS.iadd X230.here hx rfl (hb hby d42_27) rfl ?_
    exact k_)
   have f232 := (F0.wr W223)
   obtain ⟨T233, h233, X233, e233, W233, st233⟩ := putF X230 hx hZ hown (host := "") (Or.inl (own_w hw 334 rfl)) Via.refl e230 f229 f232 (Or.inl (own_w hw 335 rfl)) (own_w hw 90 rfl) (ty := .int) (by decide) rfl rfl (g := (mkF m 28 #[.val (.ref a1), .val (.int 1)] [(.int 2), (.ref a1), (.int 1), (.ref rs)])) rfl rfl (hb hby d42_28)
   have K234 : Keep h0 h233 [a1, rs, ir] := K224.wr W233 (Or.inl (List.mem_of_getElem? (i := 0) rfl))
   have N233 := Fr.snoc X233 N223 GE.1
   have F233 : Fld Z h233 a1 "com/example/arcward/arcward/solver/Domains" "resizedCount" "I" (.int 2) := f229.same W233
   have p235 : GF p e below _ T233 m 32 #[.val (.ref a1), .val (.int 1)] [(.int 1), (.int 1), (.ref rs)] := fun t_ k_ => (gc p231 st233) t_ (by
    refine XS.iloadN X233.here hx rfl (hb hby d42_31) rfl ?_
    exact k_)
   have f236 := ((F9.other W223 ND.2.2.2.2.2.2.2.2.2.2.2.2.2.2.2.2.2.2.2.2.2.2.1).other W233 (Ne.symm ND.2.2.2.1))
   obtain ⟨cl237, Ar237, q237, S237, Ng237, H237, G237⟩ := id f236
   have hin237 := inb_of S237 (j := (1 : Int32)) ⟨by decide, by decide⟩
   obtain ⟨T237, h237, X237, e237, W237, st237⟩ := stI X233 hx hZ e233 Ar237 (j := (1 : Int32)) hin237 (g := (mkF m 32 #[.val (.ref a1), .val (.int 1)] [(.int 1), (.int 1), (.ref rs)])) rfl rfl (hb hby d42_32)
   have K238 : Keep h0 h237 [a1, rs, ir] := K234.wr W237 (Or.inl (List.mem_of_getElem? (i := 1) rfl))
   have N237 := Fr.snoc X237 N233 GE.2.2.2.2.1
   have V237 : Arv Z h237 rs krs .int (2 : Int32) [(.int u0), (.int 1)] (.int 0) := Arv.set Ar237 q237 S237 Ng237 H237 G237 rfl W237 1 rfl (Nat.le_of_ble_eq_true rfl)
   have f239 := ((f232.wr W233).wr W237)
   have f240 := (((F1.other W223 (Or.inl ND.2.2.2.2.1)).other W233 (Or.inr (slot_ne (Or.inl (own_w hw 265 rfl)) (Or.inl (own_w hw 335 rfl)) (by decide) (t := (.array .int)) (t' := .int) (by decide) (by decide)))).other W237 (Or.inl ND.2.2.2.1))
   have f241 := (((F2.other W223 (Or.inl ND.2.2.2.2.1)).other W233 (Or.inr (slot_ne (Or.inr (own_w hw 267 rfl)) (Or.inl (own_w hw 335 rfl)) (by decide) (t := (.array .int)) (t' := .int) (by decide) (by decide)))).other W237 (Or.inl ND.2.2.2.1))
   have f242 := (((F3.other W223 (Or.inl ND.2.2.2.2.1)).other W233 (Or.inr (slot_ne (Or.inr (own_w hw 277 rfl)) (Or.inl (own_w hw 335 rfl)) (by decide) (t := (.array (.array .long))) (t' := .int) (by decide) (by decide)))).other W237 (Or.inl ND.2.2.2.1))
   have f243 := (((F4.other W223 (Or.inl ND.2.2.2.2.1)).other W233 (Or.inr (slot_ne (Or.inr (own_w hw 279 rfl)) (Or.inl (own_w hw 335 rfl)) (by decide) (t := (.array .int)) (t' := .int) (by decide) (by decide)))).other W237 (Or.inl ND.2.2.2.1))
   have f244 := ((f226.other W233 (Or.inr (slot_ne (Or.inr (own_w hw 281 rfl)) (Or.inl (own_w hw 335 rfl)) (by decide) (t := (.array .int)) (t' := .int) (by decide) (by decide)))).other W237 (Or.inl ND.2.2.2.1))
   have f245 := (((F6.other W223 (Or.inl ND.2.2.2.2.1)).other W233 (Or.inr (slot_ne (Or.inr (own_w hw 284 rfl)) (Or.inl (own_w hw 335 rfl)) (by decide) (t := (.array .boolean)) (t' := .int) (by decide) (by decide)))).other W237 (Or.inl ND.2.2.2.1))
   have f246 := (F233.other W237 (Or.inl ND.2.2.2.1))
   have f247 := (((F8.other W223 (Or.inl ND.2.2.2.2.1)).other W233 (Or.inr (slot_ne (Or.inl (own_w hw 308 rfl)) (Or.inl (own_w hw 335 rfl)) (by decide) (t := .int) (t' := .int) (by decide) (by decide)))).other W237 (Or.inl ND.2.2.2.1))
   have f248 := ((V223.other W233 (Ne.symm ND.2.2.2.2.1)).other W237 (Ne.symm ND.2.2.2.2.2.2.2.2.2.2.2.2.2.2.2.2.2.2.2.2.2.2.1))
   obtain ⟨fs, hr, hrun, hended, hW, hsame⟩ := X237.leave (v := none) (fun _ => rfl)
   refine ⟨_, _, (gc p235 st237) _ (X237.returnOut hx Bd.returns (hb hby d42_33) hr), hrun, hended, _, _, rfl, ?_, ⟨_, rfl⟩, hW, hsame.mono (by decide) (by decide)⟩
   show Q42 Z a1 tr bi sz rs ir w0 w1 rb krs kir tl rc u0 u1 eb0 eb1 p2 h0 n0 _ T237.heap _
   rw [e237]
   exact ⟨(2 : Int32), u0, (1 : Int32), (1 : Int32), (1 : Int32), rfl, N237, K238, f239, f240, f241, f242, f243, f244, f245, f246, f247, V237, f248, (by unfold own_M; decide)⟩
  ·have p249 : GF p e below _ s₁ m 0 #[.val (.ref a1), .val (.int 1)] [] := goF p0 (by rw [hx0])
   have G7 : Fld Z h0 a1 "com/example/arcward/arcward/solver/Domains" "resizedCount" "I" (.int 1) := by have z := F7; rw [r1] at z; exact z
   have Gir : Arv Z h0 ir kir .boolean (2 : Int32) [(.int 0), (.int 1)] (.int 0) := by have z := F10; rw [r2, r3] at z; exact z
   have p250 : GF p e below _ s₁ m 1 #[.val (.ref a1), .val (.int 1)] [(.ref a1)] := fun t_ k_ => p249 t_ (by
    refine XS.aloadN X0.here hx rfl (hb hby d42_0) rfl rfl ?_
    exact k_)
   obtain ⟨T251, X251, e251, st251⟩ := getF X0 hx hZ hown (host := "") (Or.inl (own_w hw 283 rfl)) Via.refl e0 F6 (g := (mkF m 1 #[.val (.ref a1), .val (.int 1)] [(.ref a1)])) rfl rfl (hb hby d42_1)
   have p252 : GF p e below _ T251 m 5 #[.val (.ref a1), .val (.int 1)] [(.int 1), (.ref ir)] := fun t_ k_ => (gc p250 st251) t_ (by
    refine XS.iloadN X251.here hx rfl (hb hby d42_4) rfl ?_
    exact k_)
   obtain ⟨cl253, Ar253, q253, S253, Ng253, H253, G253⟩ := id Gir
   have hin253 := inb_of S253 (j := (1 : Int32)) ⟨by decide, by decide⟩
   have hat253 := H253.at (v := (.int 1)) hin253 rfl
   have p254 : GF p e below _ T251 m 33 #[.val (.ref a1), .val (.int 1)] [] := fun t_ k_ => p252 t_ (by
    refine X251.baloadBooleans hx (j := (1 : Int32)) (v := (.int 1)) (by rw [e251]; exact Ar253.1) (State.isArrayOf_alike hZ.alike Ar253.2.1) Ar253.2.2 hin253 hat253 (g := (mkF m 5 #[.val (.ref a1), .val (.int 1)] [(.int 1), (.ref ir)])) rfl rfl (hb hby d42_5) _ ?_
    refine XS.ifYes X251.here hx rfl (pc0 := 6) (pc' := 33) rfl (hb hby d42_6) rfl ((if0 _ _).trans (feq (by decide : ¬ ((1 : Int32) = (0 : Int32)))).2) (by decide) (by decide) ?_
    exact k_)
   obtain ⟨fs, hr, hrun, hended, hW, hsame⟩ := X251.leave (v := none) (fun _ => rfl)
   refine ⟨_, _, p254 _ (X251.returnOut hx Bd.returns (hb hby d42_33) hr), hrun, hended, _, _, rfl, ?_, ⟨_, rfl⟩, hW, hsame.mono (by decide) (by decide)⟩
   show Q42 Z a1 tr bi sz rs ir w0 w1 rb krs kir tl rc u0 u1 eb0 eb1 p2 h0 n0 _ T251.heap _
   rw [e251]
   exact ⟨(1 : Int32), u0, u1, (0 : Int32), (1 : Int32), rfl, N0, (Keep.refl h0 [a1, rs, ir]), F0, F1, F2, F3, F4, F5, F6, G7, F8, F9, Gir, (by unfold own_M; decide)⟩
  ·have p255 : GF p e below _ s₁ m 0 #[.val (.ref a1), .val (.int 1)] [] := goF p0 (by rw [hx0])
   have G7 : Fld Z h0 a1 "com/example/arcward/arcward/solver/Domains" "resizedCount" "I" (.int 2) := by have z := F7; rw [r1] at z; exact z
   have Gir : Arv Z h0 ir kir .boolean (2 : Int32) [(.int 1), (.int 1)] (.int 0) := by have z := F10; rw [r2, r3] at z; exact z
   have p256 : GF p e below _ s₁ m 1 #[.val (.ref a1), .val (.int 1)] [(.ref a1)] := fun t_ k_ => p255 t_ (by
    refine XS.aloadN X0.here hx rfl (hb hby d42_0) rfl rfl ?_
    exact k_)
   obtain ⟨T257, X257, e257, st257⟩ := getF X0 hx hZ hown (host := "") (Or.inl (own_w hw 283 rfl)) Via.refl e0 F6 (g := (mkF m 1 #[.val (.ref a1), .val (.int 1)] [(.ref a1)])) rfl rfl (hb hby d42_1)
   have p258 : GF p e below _ T257 m 5 #[.val (.ref a1), .val (.int 1)] [(.int 1), (.ref ir)] := fun t_ k_ => (gc p256 st257) t_ (by
    refine XS.iloadN X257.here hx rfl (hb hby d42_4) rfl ?_
    exact k_)
   obtain ⟨cl259, Ar259, q259, S259, Ng259, H259, G259⟩ := id Gir
   have hin259 := inb_of S259 (j := (1 : Int32)) ⟨by decide, by decide⟩
   have hat259 := H259.at (v := (.int 1)) hin259 rfl
   have p260 : GF p e below _ T257 m 33 #[.val (.ref a1), .val (.int 1)] [] := fun t_ k_ => p258 t_ (by
    refine X257.baloadBooleans hx (j := (1 : Int32)) (v := (.int 1)) (by rw [e257]; exact Ar259.1) (State.isArrayOf_alike hZ.alike Ar259.2.1) Ar259.2.2 hin259 hat259 (g := (mkF m 5 #[.val (.ref a1), .val (.int 1)] [(.int 1), (.ref ir)])) rfl rfl (hb hby d42_5) _ ?_
    refine XS.ifYes X257.here hx rfl (pc0 := 6) (pc' := 33) rfl (hb hby d42_6) rfl ((if0 _ _).trans (feq (by decide : ¬ ((1 : Int32) = (0 : Int32)))).2) (by decide) (by decide) ?_
    exact k_)
   obtain ⟨fs, hr, hrun, hended, hW, hsame⟩ := X257.leave (v := none) (fun _ => rfl)
   refine ⟨_, _, p260 _ (X257.returnOut hx Bd.returns (hb hby d42_33) hr), hrun, hended, _, _, rfl, ?_, ⟨_, rfl⟩, hW, hsame.mono (by decide) (by decide)⟩
   show Q42 Z a1 tr bi sz rs ir w0 w1 rb krs kir tl rc u0 u1 eb0 eb1 p2 h0 n0 _ T257.heap _
   rw [e257]
   exact ⟨(2 : Int32), u0, u1, (1 : Int32), (1 : Int32), rfl, N0, (Keep.refl h0 [a1, rs, ir]), F0, F1, F2, F3, F4, F5, F6, G7, F8, F9, Gir, (by unfold own_M; decide)⟩
theorem d41_0 : decode prog_50_method_19_code 0 = .ok (.aload_n 0, 1) := by decide +kernel
theorem d41_1 : decode prog_50_method_19_code 1 = .ok (.getfield 30, 3) := by decide +kernel
theorem d41_4 : decode prog_50_method_19_code 4 = .ok (.iload_n 1, 1) := by decide +kernel
theorem d41_5 : decode prog_50_method_19_code 5 = .ok (.aaload, 1) := by decide +kernel
theorem d41_6 : decode prog_50_method_19_code 6 = .ok (.iload_n 2, 1) := by decide +kernel
theorem d41_7 : decode prog_50_method_19_code 7 = .ok (.bipush 6, 2) := by decide +kernel
theorem d41_9 : decode prog_50_method_19_code 9 = .ok (.iushr, 1) := by decide +kernel
theorem d41_10 : decode prog_50_method_19_code 10 = .ok (.dup2, 1) := by decide +kernel
theorem d41_11 : decode prog_50_method_19_code 11 = .ok (.laload, 1) := by decide +kernel
theorem d41_12 : decode prog_50_method_19_code 12 = .ok (.lconst 1, 1) := by decide +kernel
theorem d41_13 : decode prog_50_method_19_code 13 = .ok (.iload_n 2, 1) := by decide +kernel
theorem d41_14 : decode prog_50_method_19_code 14 = .ok (.lshl, 1) := by decide +kernel
theorem d41_15 : decode prog_50_method_19_code 15 = .ok (.ldc2_w 97, 3) := by decide +kernel
theorem d41_18 : decode prog_50_method_19_code 18 = .ok (.lxor, 1) := by decide +kernel
theorem d41_19 : decode prog_50_method_19_code 19 = .ok (.land, 1) := by decide +kernel
theorem d41_20 : decode prog_50_method_19_code 20 = .ok (.lastore, 1) := by decide +kernel
theorem d41_21 : decode prog_50_method_19_code 21 = .ok (.aload_n 0, 1) := by decide +kernel
theorem d41_22 : decode prog_50_method_19_code 22 = .ok (.getfield 34, 3) := by decide +kernel
theorem d41_25 : decode prog_50_method_19_code 25 = .ok (.iload_n 1, 1) := by decide +kernel
theorem d41_26 : decode prog_50_method_19_code 26 = .ok (.dup2, 1) := by decide +kernel
theorem d41_27 : decode prog_50_method_19_code 27 = .ok (.iaload, 1) := by decide +kernel
theorem d41_28 : decode prog_50_method_19_code 28 = .ok (.iconst 1, 1) := by decide +kernel
theorem d41_29 : decode prog_50_method_19_code 29 = .ok (.isub, 1) := by decide +kernel
theorem d41_30 : decode prog_50_method_19_code 30 = .ok (.iastore, 1) := by decide +kernel
theorem d41_31 : decode prog_50_method_19_code 31 = .ok (.aload_n 0, 1) := by decide +kernel
theorem d41_32 : decode prog_50_method_19_code 32 = .ok (.iload_n 1, 1) := by decide +kernel
theorem d41_33 : decode prog_50_method_19_code 33 = .ok (.invokevirtual 111, 3) := by decide +kernel
theorem d41_36 : decode prog_50_method_19_code 36 = .ok (.iload_n 3, 1) := by decide +kernel
theorem d41_37 : decode prog_50_method_19_code 37 = .ok (.iconst (-1), 1) := by decide +kernel
theorem d41_38 : decode prog_50_method_19_code 38 = .ok (.if_icmp .eq 13, 3) := by decide +kernel
theorem d41_51 : decode prog_50_method_19_code 51 = .ok (.aload_n 0, 1) := by decide +kernel
theorem d41_52 : decode prog_50_method_19_code 52 = .ok (.getfield 115, 3) := by decide +kernel
theorem d41_55 : decode prog_50_method_19_code 55 = .ok (.aload_n 0, 1) := by decide +kernel
theorem d41_56 : decode prog_50_method_19_code 56 = .ok (.getfield 7, 3) := by decide +kernel
theorem d41_59 : decode prog_50_method_19_code 59 = .ok (.arraylength, 1) := by decide +kernel
theorem d41_60 : decode prog_50_method_19_code 60 = .ok (.if_icmp .ne 21, 3) := by decide +kernel
theorem d41_81 : decode prog_50_method_19_code 81 = .ok (.aload_n 0, 1) := by decide +kernel
theorem d41_82 : decode prog_50_method_19_code 82 = .ok (.getfield 7, 3) := by decide +kernel
theorem d41_85 : decode prog_50_method_19_code 85 = .ok (.aload_n 0, 1) := by decide +kernel
theorem d41_86 : decode prog_50_method_19_code 86 = .ok (.dup, 1) := by decide +kernel
theorem d41_87 : decode prog_50_method_19_code 87 = .ok (.getfield 115, 3) := by decide +kernel
theorem d41_90 : decode prog_50_method_19_code 90 = .ok (.dup_x1, 1) := by decide +kernel
theorem d41_91 : decode prog_50_method_19_code 91 = .ok (.iconst 1, 1) := by decide +kernel
theorem d41_92 : decode prog_50_method_19_code 92 = .ok (.iadd, 1) := by decide +kernel
theorem d41_93 : decode prog_50_method_19_code 93 = .ok (.putfield 115, 3) := by decide +kernel
theorem d41_96 : decode prog_50_method_19_code 96 = .ok (.iload_n 1, 1) := by decide +kernel
theorem d41_97 : decode prog_50_method_19_code 97 = .ok (.iastore, 1) := by decide +kernel
theorem d41_98 : decode prog_50_method_19_code 98 = .ok (.aload_n 0, 1) := by decide +kernel
theorem d41_99 : decode prog_50_method_19_code 99 = .ok (.getfield 7, 3) := by decide +kernel
theorem d41_102 : decode prog_50_method_19_code 102 = .ok (.aload_n 0, 1) := by decide +kernel
theorem d41_103 : decode prog_50_method_19_code 103 = .ok (.dup, 1) := by decide +kernel
theorem d41_104 : decode prog_50_method_19_code 104 = .ok (.getfield 115, 3) := by decide +kernel
theorem d41_107 : decode prog_50_method_19_code 107 = .ok (.dup_x1, 1) := by decide +kernel
theorem d41_108 : decode prog_50_method_19_code 108 = .ok (.iconst 1, 1) := by decide +kernel
theorem d41_109 : decode prog_50_method_19_code 109 = .ok (.iadd, 1) := by decide +kernel
theorem d41_110 : decode prog_50_method_19_code 110 = .ok (.putfield 115, 3) := by decide +kernel
theorem d41_113 : decode prog_50_method_19_code 113 = .ok (.iload_n 2, 1) := by decide +kernel
theorem d41_114 : decode prog_50_method_19_code 114 = .ok (.iastore, 1) := by decide +kernel
theorem d41_115 : decode prog_50_method_19_code 115 = .ok (.aload_n 0, 1) := by decide +kernel
theorem d41_116 : decode prog_50_method_19_code 116 = .ok (.getfield 7, 3) := by decide +kernel
theorem d41_119 : decode prog_50_method_19_code 119 = .ok (.aload_n 0, 1) := by decide +kernel
theorem d41_120 : decode prog_50_method_19_code 120 = .ok (.dup, 1) := by decide +kernel
theorem d41_121 : decode prog_50_method_19_code 121 = .ok (.getfield 115, 3) := by decide +kernel
theorem d41_124 : decode prog_50_method_19_code 124 = .ok (.dup_x1, 1) := by decide +kernel
theorem d41_125 : decode prog_50_method_19_code 125 = .ok (.iconst 1, 1) := by decide +kernel
theorem d41_126 : decode prog_50_method_19_code 126 = .ok (.iadd, 1) := by decide +kernel
theorem d41_127 : decode prog_50_method_19_code 127 = .ok (.putfield 115, 3) := by decide +kernel
theorem d41_130 : decode prog_50_method_19_code 130 = .ok (.iload_n 3, 1) := by decide +kernel
theorem d41_131 : decode prog_50_method_19_code 131 = .ok (.iastore, 1) := by decide +kernel
theorem d41_132 : decode prog_50_method_19_code 132 = .ok (.return_, 1) := by decide +kernel
theorem pd18 : parseMethodDescriptor "(I)V" = some ⟨[.int], none⟩ := by decide +kernel
theorem pn41 : plainFor (⟨"com/example/arcward/arcward/solver/Domains", "remove", "(III)V"⟩ : MethodName) = true := plainFor_of_name (by first | (simp [plainName, overriddenIn]; done) | decide +kernel)
theorem ef_rm41 (m : MethodId) (a1 : Addr) (tr : Addr) (bi : Addr) (sz : Addr) (rs : Addr) (ir : Addr) (w0 : Addr) (w1 : Addr) (rb : Addr) (ktr : ClassId) (kbi : ClassId) (ksz : ClassId) (krs : ClassId) (kir : ClassId) (kw0 : ClassId) (kw1 : ClassId) (q0 : Int64) (q1 : Int64) (qc : Int64) (s0 : Int32) (s1 : Int32) (u0 : Int32) (u1 : Int32) (eb0 : Int32) (eb1 : Int32) (tvs : List Value) (t : Nat) (rc : Int32) (p2 : Int32) (p3 : Int32) : entryFrame m #[(.ref a1), (.int p2), (.int p3), (.int (-1))] 4 = mkF m 0 (oLRI3 a1 p2 p3 (-1)) [] := by first | (simp [entryFrame, mkF, argsToLocals, Value.category]; done) | rfl
def Q41 (Z : State) (a1 : Addr) (tr : Addr) (bi : Addr) (sz : Addr) (rs : Addr) (ir : Addr) (w0 : Addr) (w1 : Addr) (rb : Addr) (ktr : ClassId) (kbi : ClassId) (ksz : ClassId) (krs : ClassId) (kir : ClassId) (kw0 : ClassId) (kw1 : ClassId) (q0 : Int64) (q1 : Int64) (qc : Int64) (s0 : Int32) (s1 : Int32) (u0 : Int32) (u1 : Int32) (eb0 : Int32) (eb1 : Int32) (tvs : List Value) (t : Nat) (rc : Int32) (p2 : Int32) (p3 : Int32) (h0 : Heap) (n0 : Nat) (v : Option Value) (h : Heap) (L : List Loc) : Prop := ∃ (q0n : Int64) (q1n : Int64) (qcn : Int64) (s0n : Int32) (s1n : Int32) (u0n : Int32) (u1n : Int32) (e0n : Int32) (e1n : Int32) (rcn : Int32) (tvn : List Value), v = none ∧ Fr n0 L ∧ (Keep h0 h [a1, tr, sz, rs, ir, w0, w1]) ∧ (Exa Z h a1 "com/example/arcward/arcward/solver/Domains") ∧ (Fld Z h a1 "com/example/arcward/arcward/solver/Domains" "trail" "[I" (.ref tr)) ∧ (Fld Z h a1 "com/example/arcward/arcward/solver/Domains" "removedBy" "[I" (.ref rb)) ∧ (Fld Z h a1 "com/example/arcward/arcward/solver/Domains" "bits" "[[J" (.ref bi)) ∧ (Fld Z h a1 "com/example/arcward/arcward/solver/Domains" "sizes" "[I" (.ref sz)) ∧ (Fld Z h a1 "com/example/arcward/arcward/solver/Domains" "resized" "[I" (.ref rs)) ∧ (Fld Z h a1 "com/example/arcward/arcward/solver/Domains" "inResized" "[Z" (.ref ir)) ∧ (Fld Z h a1 "com/example/arcward/arcward/solver/Domains" "resizedCount" "I" (.int rcn)) ∧ (Fld Z h a1 "com/example/arcward/arcward/solver/Domains" "trailLength" "I" (.int (Int32.ofNat (t + 3)))) ∧ (Arv Z h tr ktr .int (96 : Int32) tvn (.int 0)) ∧ (Arv Z h bi kbi (.array .long) (2 : Int32) [(.ref w0), (.ref w1)] .null) ∧ (Arv Z h sz ksz .int (2 : Int32) [(.int s0n), (.int s1n)] (.int 0)) ∧ (Arv Z h rs krs .int (2 : Int32) [(.int u0n), (.int u1n)] (.int 0)) ∧ (Arv Z h ir kir .boolean (2 : Int32) [(.int e0n), (.int e1n)] (.int 0)) ∧ (Arv Z h w0 kw0 .long (2 : Int32) [(.long q0n), (.long q1n)] (.long 0)) ∧ (Arv Z h w1 kw1 .long (1 : Int32) [(.long qcn)] (.long 0)) ∧ (own_M rcn e0n e1n) ∧ (tvn.length = 96) ∧ (own_T tvn t p2 p3) ∧ (own_off q0 q1 qc q0n q1n qcn p2 p3)
set_option maxRecDepth 65536 in
set_option maxHeartbeats 40000000 in
theorem rm41 (l : Launch) (Z : State) (a0 : Array Value) (hw : ∀ d ∈ tables_1, d.before a0 Z = true) (ws : List Jvm.Cond) (a1 : Addr) (tr : Addr) (bi : Addr) (sz : Addr) (rs : Addr) (ir : Addr) (w0 : Addr) (w1 : Addr) (rb : Addr) (ktr : ClassId) (kbi : ClassId) (ksz : ClassId) (krs : ClassId) (kir : ClassId) (kw0 : ClassId) (kw1 : ClassId) (q0 : Int64) (q1 : Int64) (qc : Int64) (s0 : Int32) (s1 : Int32) (u0 : Int32) (u1 : Int32) (eb0 : Int32) (eb1 : Int32) (tvs : List Value) (t : Nat) (rc : Int32) (p2 : Int32) (p3 : Int32) (h0 : Heap) (n0 : Nat) (Z0 : n0 ≤ h0.size) (F0 : Exa Z h0 a1 "com/example/arcward/arcward/solver/Domains") (F1 : Fld Z h0 a1 "com/example/arcward/arcward/solver/Domains" "trail" "[I" (.ref tr)) (F2 : Fld Z h0 a1 "com/example/arcward/arcward/solver/Domains" "removedBy" "[I" (.ref rb)) (F3 : Fld Z h0 a1 "com/example/arcward/arcward/solver/Domains" "bits" "[[J" (.ref bi)) (F4 : Fld Z h0 a1 "com/example/arcward/arcward/solver/Domains" "sizes" "[I" (.ref sz)) (F5 : Fld Z h0 a1 "com/example/arcward/arcward/solver/Domains" "resized" "[I" (.ref rs)) (F6 : Fld Z h0 a1 "com/example/arcward/arcward/solver/Domains" "inResized" "[Z" (.ref ir)) (F7 : Fld Z h0 a1 "com/example/arcward/arcward/solver/Domains" "resizedCount" "I" (.int rc)) (F8 : Fld Z h0 a1 "com/example/arcward/arcward/solver/Domains" "trailLength" "I" (.int (Int32.ofNat t))) (F9 : Arv Z h0 tr ktr .int (96 : Int32) tvs (.int 0)) (F10 : Arv Z h0 bi kbi (.array .long) (2 : Int32) [(.ref w0), (.ref w1)] .null) (F11 : Arv Z h0 sz ksz .int (2 : Int32) [(.int s0), (.int s1)] (.int 0)) (F12 : Arv Z h0 rs krs .int (2 : Int32) [(.int u0), (.int u1)] (.int 0)) (F13 : Arv Z h0 ir kir .boolean (2 : Int32) [(.int eb0), (.int eb1)] (.int 0)) (F14 : Arv Z h0 w0 kw0 .long (2 : Int32) [(.long q0), (.long q1)] (.long 0)) (F15 : Arv Z h0 w1 kw1 .long (1 : Int32) [(.long qc)] (.long 0)) (ND : own_ND a1 tr bi sz rs ir w0 w1) (GE : own_GE n0 a1 tr bi sz rs ir w0 w1) (HM : own_M rc eb0 eb1) (ht : t ≤ 20) (htl : tvs.length = 96) (hd : own_dom p2 p3) :
  MetFree l oM10 (head1 (Jvm.Cond.code oM10 prog_50_method_19_code 4 none :: ws) ({ frames := 1, cells := 0, slots := 0, locals := 13 } : Room)) (fun a U => a = #[(.ref a1), (.int p2), (.int p3), (.int (-1))] ∧ Z.Warmed39 U.vm ∧ U.heap = h0) (fun _ _ _ _ _ => True) (fun _ U o U' => ∃ v L, o = .returned v ∧ Q41 Z a1 tr bi sz rs ir w0 w1 rb ktr kbi ksz krs kir kw0 kw1 q0 q1 qc s0 s1 u0 u1 eb0 eb1 tvs t rc p2 p3 h0 n0 v U'.heap L ∧ FrameEnd U o U' L ({ frames := 1, cells := 0, slots := 0, locals := 13 } : Room).cells ({ frames := 1, cells := 0, slots := 0, locals := 13 } : Room).slots) := by
 refine MetFree.of_bodySF pn41 hisR ?_
 intro p e s m args below meth c s₁ Bd hml0 hP hK
 obtain ⟨rfl, hZ, hh⟩ := hP
 have hx := Bd.exec
 have hby := Bd.bytes
 have hml : c.maxLocals = 4 := hml0
 have hown : s.vm.findClass "com/example/arcward/arcward/solver/Domains" = some m.cls := findClass_of_methodNamed Bd.named
 have hnm := (name_of_methodNamed Bd.named Bd.method).1
 have X0 : Stand p l e ({ frames := 1, cells := 0, slots := 0, locals := 13 } : Room) s m #[(.ref a1), (.int p2), (.int p3), (.int (-1))] below meth c s₁ [] 0 0 := Stand.of_body Bd
 have e0 : s₁.heap = h0 := by rw [← hh, Bd.state]; rfl
 have N0 := Fr.nil n0
 have p0 : GF p e below (s₁.setTop (entryFrame m #[(.ref a1), (.int p2), (.int p3), (.int (-1))] 4)) s₁ m 0 (oLRI3 a1 p2 p3 (-1)) [] := fun t_ k_ => castTop (ef_rm41 m a1 tr bi sz rs ir w0 w1 rb ktr kbi ksz krs kir kw0 kw1 q0 q1 qc s0 s1 u0 u1 eb0 eb1 tvs t rc p2 p3) k_
 obtain ⟨T101, L101, h101, qa101, qb101, qc101, sa101, sb101, X101, e101, N101, K101, J101_0, J101_1, J101_2, J101_3, J101_4, J101_5, J101_6, J101_7, J101_8, J101_9, J101_10, J101_11, J101_12, J101_13, J101_14, J101_15, R101, p101⟩ : ∃ (T101 : State) (L101 : List Loc) (h101 : Heap) (qa101 qb101 qc101 : Int64) (sa101 sb101 : Int32), Stand p l e ({ frames := 1, cells := 0, slots := 0, locals := 13 } : Room) s m #[(.ref a1), (.int p2), (.int p3), (.int (-1))] below meth c T101 L101 0 0 ∧ T101.heap = h101 ∧ Fr n0 L101 ∧ Keep h0 h101 [a1, tr, sz, rs, ir, w0, w1] ∧ Exa Z h101 a1 "com/example/arcward/arcward/solver/Domains" ∧ Fld Z h101 a1 "com/example/arcward/arcward/solver/Domains" "trail" "[I" (.ref tr) ∧ Fld Z h101 a1 "com/example/arcward/arcward/solver/Domains" "removedBy" "[I" (.ref rb) ∧ Fld Z h101 a1 "com/example/arcward/arcward/solver/Domains" "bits" "[[J" (.ref bi) ∧ Fld Z h101 a1 "com/example/arcward/arcward/solver/Domains" "sizes" "[I" (.ref sz) ∧ Fld Z h101 a1 "com/example/arcward/arcward/solver/Domains" "resized" "[I" (.ref rs) ∧ Fld Z h101 a1 "com/example/arcward/arcward/solver/Domains" "inResized" "[Z" (.ref ir) ∧ Fld Z h101 a1 "com/example/arcward/arcward/solver/Domains" "resizedCount" "I" (.int rc) ∧ Fld Z h101 a1 "com/example/arcward/arcward/solver/Domains" "trailLength" "I" (.int (Int32.ofNat t)) ∧ Arv Z h101 tr ktr .int (96 : Int32) tvs (.int 0) ∧ Arv Z h101 bi kbi (.array .long) (2 : Int32) [(.ref w0), (.ref w1)] .null ∧ Arv Z h101 sz ksz .int (2 : Int32) [(.int sa101), (.int sb101)] (.int 0) ∧ Arv Z h101 rs krs .int (2 : Int32) [(.int u0), (.int u1)] (.int 0) ∧ Arv Z h101 ir kir .boolean (2 : Int32) [(.int eb0), (.int eb1)] (.int 0) ∧ Arv Z h101 w0 kw0 .long (2 : Int32) [(.long qa101), (.long qb101)] (.long 0) ∧ Arv Z h101 w1 kw1 .long (1 : Int32) [(.long qc101)] (.long 0) ∧ own_off q0 q1 qc qa101 qb101 qc101 p2 p3 ∧ GF p e below (s₁.setTop (entryFrame m #[(.ref a1), (.int p2), (.int p3), (.int (-1))] 4)) T101 m 31 (oLRI3 a1 p2 p3 (-1)) [] := by
  rcases id hd with ⟨hx0, kk, hk, hak⟩ | ⟨hx0, kk, hk1, hk, hak⟩ | ⟨hx0, kk, hk, hak⟩
  ·have p102 : GF p e below _ s₁ m 0 (oLRI3 a1 0 (Int32.ofNat kk) (-1)) [] := goF p0 (by rw [hx0, hak])
   have p103 : GF p e below _ s₁ m 1 (oLRI3 a1 0 (Int32.ofNat kk) (-1)) [(.ref a1)] := fun t_ k_ => p102 t_ (by
    refine XS.aloadN X0.here hx rfl (hb hby d41_0) rfl rfl ?_
    exact k_)
   obtain ⟨T104, X104, e104, st104⟩ := getF X0 hx hZ hown (host := "") (Or.inl (own_w hw 276 rfl)) Via.refl e0 F3 (g := (mkF m 1 (oLRI3 a1 0 (Int32.ofNat kk) (-1)) [(.ref a1)])) rfl rfl (hb hby d41_1)
   have p105 : GF p e below _ T104 m 5 (oLRI3 a1 0 (Int32.ofNat kk) (-1)) [(.int 0), (.ref bi)] := fun t_ k_ => (gc p103 st104) t_ (by
    refine XS.iloadN X104.here hx rfl (hb hby d41_4) rfl ?_
    exact k_)
   obtain ⟨cl106, Ar106, q106, S106, Ng106, H106, G106⟩ := id F10
   have hin106 := inb_of S106 (j := (0 : Int32)) ⟨by decide, by decide⟩
   have hat106 := H106.at (v := (.ref w0)) hin106 rfl
   have p107 : GF p e below _ T104 m 10 (oLRI3 a1 0 (Int32.ofNat kk) (-1)) [(.int (((Int32.ofNat kk).toUInt32 >>> (6 : UInt32)).toInt32)), (.ref w0)] := fun t_ k_ => p105 t_ (by
    refine X104.aaload hx (j := (0 : Int32)) (v := (.ref w0)) (by rw [e104]; exact Ar106.1) (State.isArrayOf_alike hZ.alike Ar106.2.1) rfl Ar106.2.2 hin106 hat106 (g := (mkF m 5 (oLRI3 a1 0 (Int32.ofNat kk) (-1)) [(.int 0), (.ref bi)])) rfl rfl (hb hby d41_5) _ ?_
    refine XS.iloadN X104.here hx rfl (hb hby d41_6) rfl ?_
    refine XS.bipush X104.here hx rfl (hb hby d41_7) ?_
    refine XS.iushr X104.here hx rfl (hb hby d41_9) rfl ?_
    exact k_)
   have p108 : GF p e below _ T104 m 10 (oLRI3 a1 0 (Int32.ofNat kk) (-1)) [(.int 0), (.ref w0)] := goF p107 (by rw [show (((Int32.ofNat kk).toUInt32 >>> (6 : UInt32)).toInt32) = (0 : Int32) from (own_q0 hk)])
   have p109 : GF p e below _ T104 m 11 (oLRI3 a1 0 (Int32.ofNat kk) (-1)) [(.int 0), (.ref w0), (.int 0), (.ref w0)] := fun t_ k_ => p108 t_ (by
    jvm_step X104.here [X104.here.top, hx, (hb hby d41_10), Value.category]
    show Steps p.tables e below (T104.setTop (mkF m 11 (oLRI3 a1 0 (Int32.ofNat kk) (-1)) [(.int 0), (.ref w0), (.int 0), (.ref w0)])) _
    exact k_)
   obtain ⟨cl110, Ar110, q110, S110, Ng110, H110, G110⟩ := id F14
   have hin110 := inb_of S110 (j := (0 : Int32)) ⟨by decide, by decide⟩
   have hat110 := H110.at (v := (.long q0)) hin110 rfl
   have p111 : GF p e below _ T104 m 20 (oLRI3 a1 0 (Int32.ofNat kk) (-1)) [(.long (q0 &&& (((1 : Int64) <<< ((Int32.ofNat kk) &&& 63).toInt64) ^^^ (-1 : Int64)))), (.int 0), (.ref w0)] := fun t_ k_ => p109 t_ (by
    refine X104.laload hx (j := (0 : Int32)) (v := (.long q0)) (by rw [e104]; exact Ar110.1) (State.isArrayOf_alike hZ.alike Ar110.2.1) Ar110.2.2 hin110 hat110 (g := (mkF m 11 (oLRI3 a1 0 (Int32.ofNat kk) (-1)) [(.int 0), (.ref w0), (.int 0), (.ref w0)])) rfl rfl (hb hby d41_11) _ ?_
    refine XS.lconst X104.here hx rfl (hb hby d41_12) ?_
    refine XS.iloadN X104.here hx rfl (hb hby d41_13) rfl ?_
    refine XS.lshl X104.here hx rfl (hb hby d41_14) rfl ?_
    refine X104.ldc2Long hx hown (mvT hZ (own_w hw 329 rfl)) (g := (mkF m 15 (oLRI3 a1 0 (Int32.ofNat kk) (-1)) [(.long ((1 : Int64) <<< ((Int32.ofNat kk) &&& 63).toInt64)), (.long q0), (.int 0), (.ref w0)])) rfl (hb hby d41_15) _ ?_
    refine XS.lxor X104.here hx rfl (hb hby d41_18) rfl ?_
    refine XS.land X104.here hx rfl (hb hby d41_19) rfl ?_
    exact k_)
   obtain ⟨cl112, Ar112, q112, S112, Ng112, H112, G112⟩ := id F14
   have hin112 := inb_of S112 (j := (0 : Int32)) ⟨by decide, by decide⟩
   obtain ⟨T112, h112, X112, e112, W112, st112⟩ := stJ X104 hx hZ e104 Ar112 (j := (0 : Int32)) hin112 (g := (mkF m 20 (oLRI3 a1 0 (Int32.ofNat kk) (-1)) [(.long (q0 &&& (((1 : Int64) <<< ((Int32.ofNat kk) &&& 63).toInt64) ^^^ (-1 : Int64)))), (.int 0), (.ref w0)])) rfl rfl (hb hby d41_20)
   have K113 : Keep h0 h112 [a1, tr, sz, rs, ir, w0, w1] := (Keep.refl h0 [a1, tr, sz, rs, ir, w0, w1]).wr W112 (Or.inl (List.mem_of_getElem? (i := 5) rfl))
   have N112 := Fr.snoc X112 N0 GE.2.2.2.2.2.2.1
   have V112 : Arv Z h112 w0 kw0 .long (2 : Int32) [(.long (q0 &&& (((1 : Int64) <<< ((Int32.ofNat kk) &&& 63).toInt64) ^^^ (-1 : Int64)))), (.long q1)] (.long 0) := Arv.set Ar112 q112 S112 Ng112 H112 G112 rfl W112 0 rfl (Nat.le_of_ble_eq_true rfl)
   have p114 : GF p e below _ T112 m 22 (oLRI3 a1 0 (Int32.ofNat kk) (-1)) [(.ref a1)] := fun t_ k_ => (gc p111 st112) t_ (by
    refine XS.aloadN X112.here hx rfl (hb hby d41_21) rfl rfl ?_
    exact k_)
   have f115 := (F4.other W112 (Or.inl ND.2.2.2.2.2.1))
   obtain ⟨T116, X116, e116, st116⟩ := getF X112 hx hZ hown (host := "") (Or.inl (own_w hw 278 rfl)) Via.refl e112 f115 (g := (mkF m 22 (oLRI3 a1 0 (Int32.ofNat kk) (-1)) [(.ref a1)])) rfl rfl (hb hby d41_22)
   have p117 : GF p e below _ T116 m 27 (oLRI3 a1 0 (Int32.ofNat kk) (-1)) [(.int 0), (.ref sz), (.int 0), (.ref sz)] := fun t_ k_ => (gc p114 st116) t_ (by
    refine XS.iloadN X116.here hx rfl (hb hby d41_25) rfl ?_
    jvm_step X116.here [X116.here.top, hx, (hb hby d41_26), Value.category]
    show Steps p.tables e below (T116.setTop (mkF m 27 (oLRI3 a1 0 (Int32.ofNat kk) (-1)) [(.int 0), (.ref sz), (.int 0), (.ref sz)])) _
    exact k_)
   have f119 := (F11.other W112 ND.2.2.2.2.2.2.2.2.2.2.2.2.2.2.2.2.2.2.2.2.1)
   obtain ⟨cl118, Ar118, q118, S118, Ng118, H118, G118⟩ := id f119
   have hin118 := inb_of S118 (j := (0 : Int32)) ⟨by decide, by decide⟩
   have hat118 := H118.at (v := (.int s0)) hin118 rfl
   have p120 : GF p e below _ T116 m 30 (oLRI3 a1 0 (Int32.ofNat kk) (-1)) [(.int (s0 - (1 : Int32))), (.int 0), (.ref sz)] := fun t_ k_ => p117 t_ (by
    refine X116.iaload hx (j := (0 : Int32)) (v := (.int s0)) (by rw [e116]; exact Ar118.1) (State.isArrayOf_alike hZ.alike Ar118.2.1) Ar118.2.2 hin118 hat118 (g := (mkF m 27 (oLRI3 a1 0 (Int32.ofNat kk) (-1)) [(.int 0), (.ref sz), (.int 0), (.ref sz)])) rfl rfl (hb hby d41_27) _ ?_
    refine XS.iconst X116.here hx rfl (hb hby d41_28) ?_
    refine XS.isub X116.here hx rfl (hb hby d41_29) rfl ?_
    exact k_)
   obtain ⟨cl121, Ar121, q121, S121, Ng121, H121, G121⟩ := id f119
   have hin121 := inb_of S121 (j := (0 : Int32)) ⟨by decide, by decide⟩
   obtain ⟨T121, h121, X121, e121, W121, st121⟩ := stI X116 hx hZ e116 Ar121 (j := (0 : Int32)) hin121 (g := (mkF m 30 (oLRI3 a1 0 (Int32.ofNat kk) (-1)) [(.int (s0 - (1 : Int32))), (.int 0), (.ref sz)])) rfl rfl (hb hby d41_30)
   have K122 : Keep h0 h121 [a1, tr, sz, rs, ir, w0, w1] := K113.wr W121 (Or.inl (List.mem_of_getElem? (i := 2) rfl))
   have N121 := Fr.snoc X121 N112 GE.2.2.2.1
   have V121 : Arv Z h121 sz ksz .int (2 : Int32) [(.int (s0 - (1 : Int32))), (.int s1)] (.int 0) := Arv.set Ar121 q121 S121 Ng121 H121 G121 rfl W121 0 rfl (Nat.le_of_ble_eq_true rfl)
   have p123 : GF p e below _ T121 m 31 (oLRI3 a1 p2 p3 (-1)) [] := goF (gc p120 st121) (by rw [hx0, hak])
   have f124 := ((F0.wr W112).wr W121)
   have f125 := ((F1.other W112 (Or.inl ND.2.2.2.2.2.1)).other W121 (Or.inl ND.2.2.1))
   have f126 := ((F2.other W112 (Or.inl ND.2.2.2.2.2.1)).other W121 (Or.inl ND.2.2.1))
   have f127 := ((F3.other W112 (Or.inl ND.2.2.2.2.2.1)).other W121 (Or.inl ND.2.2.1))
   have f128 := (f115.other W121 (Or.inl ND.2.2.1))
   have f129 := ((F5.other W112 (Or.inl ND.2.2.2.2.2.1)).other W121 (Or.inl ND.2.2.1))
   have f130 := ((F6.other W112 (Or.inl ND.2.2.2.2.2.1)).other W121 (Or.inl ND.2.2.1))
   have f131 := ((F7.other W112 (Or.inl ND.2.2.2.2.2.1)).other W121 (Or.inl ND.2.2.1))
   have f132 := ((F8.other W112 (Or.inl ND.2.2.2.2.2.1)).other W121 (Or.inl ND.2.2.1))
   have f133 := ((F9.other W112 ND.2.2.2.2.2.2.2.2.2.2.2.1).other W121 ND.2.2.2.2.2.2.2.2.1)
   have f134 := ((F10.other W112 ND.2.2.2.2.2.2.2.2.2.2.2.2.2.2.2.2.1).other W121 ND.2.2.2.2.2.2.2.2.2.2.2.2.2.1)
   have f135 := ((F12.other W112 ND.2.2.2.2.2.2.2.2.2.2.2.2.2.2.2.2.2.2.2.2.2.2.2.1).other W121 (Ne.symm ND.2.2.2.2.2.2.2.2.2.2.2.2.2.2.2.2.2.2.1))
   have f136 := ((F13.other W112 ND.2.2.2.2.2.2.2.2.2.2.2.2.2.2.2.2.2.2.2.2.2.2.2.2.2.1).other W121 (Ne.symm ND.2.2.2.2.2.2.2.2.2.2.2.2.2.2.2.2.2.2.2.1))
   have f137 := (V112.other W121 (Ne.symm ND.2.2.2.2.2.2.2.2.2.2.2.2.2.2.2.2.2.2.2.2.1))
   have f138 := ((F15.other W112 (Ne.symm ND.2.2.2.2.2.2.2.2.2.2.2.2.2.2.2.2.2.2.2.2.2.2.2.2.2.2.2)).other W121 (Ne.symm ND.2.2.2.2.2.2.2.2.2.2.2.2.2.2.2.2.2.2.2.2.2.1))
   exact ⟨_, _, _, (q0 &&& (((1 : Int64) <<< ((Int32.ofNat kk) &&& 63).toInt64) ^^^ (-1 : Int64))), q1, qc, (s0 - (1 : Int32)), s1, X121, e121, N121, K122, f124, f125, f126, f127, f128, f129, f130, f131, f132, f133, f134, V121, f135, f136, f137, f138, own_offA q0 q1 qc hx0 hk hak, p123⟩
  ·have p139 : GF p e below _ s₁ m 0 (oLRI3 a1 0 (Int32.ofNat kk) (-1)) [] := goF p0 (by rw [hx0, hak])
   have p140 : GF p e below _ s₁ m 1 (oLRI3 a1 0 (Int32.ofNat kk) (-1)) [(.ref a1)] := fun t_ k_ => p139 t_ (by
    refine XS.aloadN X0.here hx rfl (hb hby d41_0) rfl rfl ?_
    exact k_)
   obtain ⟨T141, X141, e141, st141⟩ := getF X0 hx hZ hown (host := "") (Or.inl (own_w hw 276 rfl)) Via.refl e0 F3 (g := (mkF m 1 (oLRI3 a1 0 (Int32.ofNat kk) (-1)) [(.ref a1)])) rfl rfl (hb hby d41_1)
   have p142 : GF p e below _ T141 m 5 (oLRI3 a1 0 (Int32.ofNat kk) (-1)) [(.int 0), (.ref bi)] := fun t_ k_ => (gc p140 st141) t_ (by
    refine XS.iloadN X141.here hx rfl (hb hby d41_4) rfl ?_
    exact k_)
   obtain ⟨cl143, Ar143, q143, S143, Ng143, H143, G143⟩ := id F10
   have hin143 := inb_of S143 (j := (0 : Int32)) ⟨by decide, by decide⟩
   have hat143 := H143.at (v := (.ref w0)) hin143 rfl
   have p144 : GF p e below _ T141 m 10 (oLRI3 a1 0 (Int32.ofNat kk) (-1)) [(.int (((Int32.ofNat kk).toUInt32 >>> (6 : UInt32)).toInt32)), (.ref w0)] := fun t_ k_ => p142 t_ (by
    refine X141.aaload hx (j := (0 : Int32)) (v := (.ref w0)) (by rw [e141]; exact Ar143.1) (State.isArrayOf_alike hZ.alike Ar143.2.1) rfl Ar143.2.2 hin143 hat143 (g := (mkF m 5 (oLRI3 a1 0 (Int32.ofNat kk) (-1)) [(.int 0), (.ref bi)])) rfl rfl (hb hby d41_5) _ ?_
    refine XS.iloadN X141.here hx rfl (hb hby d41_6) rfl ?_
    refine XS.bipush X141.here hx rfl (hb hby d41_7) ?_
    refine XS.iushr X141.here hx rfl (hb hby d41_9) rfl ?_
    exact k_)
   have p145 : GF p e below _ T141 m 10 (oLRI3 a1 0 (Int32.ofNat kk) (-1)) [(.int 1), (.ref w0)] := goF p144 (by rw [show (((Int32.ofNat kk).toUInt32 >>> (6 : UInt32)).toInt32) = (1 : Int32) from (own_q1 hk1 hk)])
   have p146 : GF p e below _ T141 m 11 (oLRI3 a1 0 (Int32.ofNat kk) (-1)) [(.int 1), (.ref w0), (.int 1), (.ref w0)] := fun t_ k_ => p145 t_ (by
    jvm_step X141.here [X141.here.top, hx, (hb hby d41_10), Value.category]
    show Steps p.tables e below (T141.setTop (mkF m 11 (oLRI3 a1 0 (Int32.ofNat kk) (-1)) [(.int 1), (.ref w0), (.int 1), (.ref w0)])) _
    exact k_)
   obtain ⟨cl147, Ar147, q147, S147, Ng147, H147, G147⟩ := id F14
   have hin147 := inb_of S147 (j := (1 : Int32)) ⟨by decide, by decide⟩
   have hat147 := H147.at (v := (.long q1)) hin147 rfl
   have p148 : GF p e below _ T141 m 20 (oLRI3 a1 0 (Int32.ofNat kk) (-1)) [(.long (q1 &&& (((1 : Int64) <<< ((Int32.ofNat kk) &&& 63).toInt64) ^^^ (-1 : Int64)))), (.int 1), (.ref w0)] := fun t_ k_ => p146 t_ (by
    refine X141.laload hx (j := (1 : Int32)) (v := (.long q1)) (by rw [e141]; exact Ar147.1) (State.isArrayOf_alike hZ.alike Ar147.2.1) Ar147.2.2 hin147 hat147 (g := (mkF m 11 (oLRI3 a1 0 (Int32.ofNat kk) (-1)) [(.int 1), (.ref w0), (.int 1), (.ref w0)])) rfl rfl (hb hby d41_11) _ ?_
    refine XS.lconst X141.here hx rfl (hb hby d41_12) ?_
    refine XS.iloadN X141.here hx rfl (hb hby d41_13) rfl ?_
    refine XS.lshl X141.here hx rfl (hb hby d41_14) rfl ?_
    refine X141.ldc2Long hx hown (mvT hZ (own_w hw 329 rfl)) (g := (mkF m 15 (oLRI3 a1 0 (Int32.ofNat kk) (-1)) [(.long ((1 : Int64) <<< ((Int32.ofNat kk) &&& 63).toInt64)), (.long q1), (.int 1), (.ref w0)])) rfl (hb hby d41_15) _ ?_
    refine XS.lxor X141.here hx rfl (hb hby d41_18) rfl ?_
    refine XS.land X141.here hx rfl (hb hby d41_19) rfl ?_
    exact k_)
   obtain ⟨cl149, Ar149, q149, S149, Ng149, H149, G149⟩ := id F14
   have hin149 := inb_of S149 (j := (1 : Int32)) ⟨by decide, by decide⟩
   obtain ⟨T149, h149, X149, e149, W149, st149⟩ := stJ X141 hx hZ e141 Ar149 (j := (1 : Int32)) hin149 (g := (mkF m 20 (oLRI3 a1 0 (Int32.ofNat kk) (-1)) [(.long (q1 &&& (((1 : Int64) <<< ((Int32.ofNat kk) &&& 63).toInt64) ^^^ (-1 : Int64)))), (.int 1), (.ref w0)])) rfl rfl (hb hby d41_20)
   have K150 : Keep h0 h149 [a1, tr, sz, rs, ir, w0, w1] := (Keep.refl h0 [a1, tr, sz, rs, ir, w0, w1]).wr W149 (Or.inl (List.mem_of_getElem? (i := 5) rfl))
   have N149 := Fr.snoc X149 N0 GE.2.2.2.2.2.2.1
   have V149 : Arv Z h149 w0 kw0 .long (2 : Int32) [(.long q0), (.long (q1 &&& (((1 : Int64) <<< ((Int32.ofNat kk) &&& 63).toInt64) ^^^ (-1 : Int64))))] (.long 0) := Arv.set Ar149 q149 S149 Ng149 H149 G149 rfl W149 1 rfl (Nat.le_of_ble_eq_true rfl)
   have p151 : GF p e below _ T149 m 22 (oLRI3 a1 0 (Int32.ofNat kk) (-1)) [(.ref a1)] := fun t_ k_ => (gc p148 st149) t_ (by
    refine XS.aloadN X149.here hx rfl (hb hby d41_21) rfl rfl ?_
    exact k_)
   have f152 := (F4.other W149 (Or.inl ND.2.2.2.2.2.1))
   obtain ⟨T153, X153, e153, st153⟩ := getF X149 hx hZ hown (host := "") (Or.inl (own_w hw 278 rfl)) Via.refl e149 f152 (g := (mkF m 22 (oLRI3 a1 0 (Int32.ofNat kk) (-1)) [(.ref a1)])) rfl rfl (hb hby d41_22)
   have p154 : GF p e below _ T153 m 27 (oLRI3 a1 0 (Int32.ofNat kk) (-1)) [(.int 0), (.ref sz), (.int 0), (.ref sz)] := fun t_ k_ => (gc p151 st153) t_ (by
    refine XS.iloadN X153.here hx rfl (hb hby d41_25) rfl ?_
    jvm_step X153.here [X153.here.top, hx, (hb hby d41_26), Value.category]
    show Steps p.tables e below (T153.setTop (mkF m 27 (oLRI3 a1 0 (Int32.ofNat kk) (-1)) [(.int 0), (.ref sz), (.int 0), (.ref sz)])) _
    exact k_)
   have f156 := (F11.other W149 ND.2.2.2.2.2.2.2.2.2.2.2.2.2.2.2.2.2.2.2.2.1)
   obtain ⟨cl155, Ar155, q155, S155, Ng155, H155, G155⟩ := id f156
   have hin155 := inb_of S155 (j := (0 : Int32)) ⟨by decide, by decide⟩
   have hat155 := H155.at (v := (.int s0)) hin155 rfl
   have p157 : GF p e below _ T153 m 30 (oLRI3 a1 0 (Int32.ofNat kk) (-1)) [(.int (s0 - (1 : Int32))), (.int 0), (.ref sz)] := fun t_ k_ => p154 t_ (by
    refine X153.iaload hx (j := (0 : Int32)) (v := (.int s0)) (by rw [e153]; exact Ar155.1) (State.isArrayOf_alike hZ.alike Ar155.2.1) Ar155.2.2 hin155 hat155 (g := (mkF m 27 (oLRI3 a1 0 (Int32.ofNat kk) (-1)) [(.int 0), (.ref sz), (.int 0), (.ref sz)])) rfl rfl (hb hby d41_27) _ ?_
    refine XS.iconst X153.here hx rfl (hb hby d41_28) ?_
    refine XS.isub X153.here hx rfl (hb hby d41_29) rfl ?_
    exact k_)
   obtain ⟨cl158, Ar158, q158, S158, Ng158, H158, G158⟩ := id f156
   have hin158 := inb_of S158 (j := (0 : Int32)) ⟨by decide, by decide⟩
   obtain ⟨T158, h158, X158, e158, W158, st158⟩ := stI X153 hx hZ e153 Ar158 (j := (0 : Int32)) hin158 (g := (mkF m 30 (oLRI3 a1 0 (Int32.ofNat kk) (-1)) [(.int (s0 - (1 : Int32))), (.int 0), (.ref sz)])) rfl rfl (hb hby d41_30)
   have K159 : Keep h0 h158 [a1, tr, sz, rs, ir, w0, w1] := K150.wr W158 (Or.inl (List.mem_of_getElem? (i := 2) rfl))
   have N158 := Fr.snoc X158 N149 GE.2.2.2.1
   have V158 : Arv Z h158 sz ksz .int (2 : Int32) [(.int (s0 - (1 : Int32))), (.int s1)] (.int 0) := Arv.set Ar158 q158 S158 Ng158 H158 G158 rfl W158 0 rfl (Nat.le_of_ble_eq_true rfl)
   have p160 : GF p e below _ T158 m 31 (oLRI3 a1 p2 p3 (-1)) [] := goF (gc p157 st158) (by rw [hx0, hak])
   have f161 := ((F0.wr W149).wr W158)
   have f162 := ((F1.other W149 (Or.inl ND.2.2.2.2.2.1)).other W158 (Or.inl ND.2.2.1))
   have f163 := ((F2.other W149 (Or.inl ND.2.2.2.2.2.1)).other W158 (Or.inl ND.2.2.1))
   have f164 := ((F3.other W149 (Or.inl ND.2.2.2.2.2.1)).other W158 (Or.inl ND.2.2.1))
   have f165 := (f152.other W158 (Or.inl ND.2.2.1))
   have f166 := ((F5.other W149 (Or.inl ND.2.2.2.2.2.1)).other W158 (Or.inl ND.2.2.1))
   have f167 := ((F6.other W149 (Or.inl ND.2.2.2.2.2.1)).other W158 (Or.inl ND.2.2.1))
   have f168 := ((F7.other W149 (Or.inl ND.2.2.2.2.2.1)).other W158 (Or.inl ND.2.2.1))
   have f169 := ((F8.other W149 (Or.inl ND.2.2.2.2.2.1)).other W158 (Or.inl ND.2.2.1))
   have f170 := ((F9.other W149 ND.2.2.2.2.2.2.2.2.2.2.2.1).other W158 ND.2.2.2.2.2.2.2.2.1)
   have f171 := ((F10.other W149 ND.2.2.2.2.2.2.2.2.2.2.2.2.2.2.2.2.1).other W158 ND.2.2.2.2.2.2.2.2.2.2.2.2.2.1)
   have f172 := ((F12.other W149 ND.2.2.2.2.2.2.2.2.2.2.2.2.2.2.2.2.2.2.2.2.2.2.2.1).other W158 (Ne.symm ND.2.2.2.2.2.2.2.2.2.2.2.2.2.2.2.2.2.2.1))
   have f173 := ((F13.other W149 ND.2.2.2.2.2.2.2.2.2.2.2.2.2.2.2.2.2.2.2.2.2.2.2.2.2.1).other W158 (Ne.symm ND.2.2.2.2.2.2.2.2.2.2.2.2.2.2.2.2.2.2.2.1))
   have f174 := (V149.other W158 (Ne.symm ND.2.2.2.2.2.2.2.2.2.2.2.2.2.2.2.2.2.2.2.2.1))
   have f175 := ((F15.other W149 (Ne.symm ND.2.2.2.2.2.2.2.2.2.2.2.2.2.2.2.2.2.2.2.2.2.2.2.2.2.2.2)).other W158 (Ne.symm ND.2.2.2.2.2.2.2.2.2.2.2.2.2.2.2.2.2.2.2.2.2.1))
   exact ⟨_, _, _, q0, (q1 &&& (((1 : Int64) <<< ((Int32.ofNat kk) &&& 63).toInt64) ^^^ (-1 : Int64))), qc, (s0 - (1 : Int32)), s1, X158, e158, N158, K159, f161, f162, f163, f164, f165, f166, f167, f168, f169, f170, f171, V158, f172, f173, f174, f175, own_offB q0 q1 qc hx0 hk1 hk hak, p160⟩
  ·have p176 : GF p e below _ s₁ m 0 (oLRI3 a1 1 (Int32.ofNat kk) (-1)) [] := goF p0 (by rw [hx0, hak])
   have p177 : GF p e below _ s₁ m 1 (oLRI3 a1 1 (Int32.ofNat kk) (-1)) [(.ref a1)] := fun t_ k_ => p176 t_ (by
    refine XS.aloadN X0.here hx rfl (hb hby d41_0) rfl rfl ?_
    exact k_)
   obtain ⟨T178, X178, e178, st178⟩ := getF X0 hx hZ hown (host := "") (Or.inl (own_w hw 276 rfl)) Via.refl e0 F3 (g := (mkF m 1 (oLRI3 a1 1 (Int32.ofNat kk) (-1)) [(.ref a1)])) rfl rfl (hb hby d41_1)
   have p179 : GF p e below _ T178 m 5 (oLRI3 a1 1 (Int32.ofNat kk) (-1)) [(.int 1), (.ref bi)] := fun t_ k_ => (gc p177 st178) t_ (by
    refine XS.iloadN X178.here hx rfl (hb hby d41_4) rfl ?_
    exact k_)
   obtain ⟨cl180, Ar180, q180, S180, Ng180, H180, G180⟩ := id F10
   have hin180 := inb_of S180 (j := (1 : Int32)) ⟨by decide, by decide⟩
   have hat180 := H180.at (v := (.ref w1)) hin180 rfl
   have p181 : GF p e below _ T178 m 10 (oLRI3 a1 1 (Int32.ofNat kk) (-1)) [(.int (((Int32.ofNat kk).toUInt32 >>> (6 : UInt32)).toInt32)), (.ref w1)] := fun t_ k_ => p179 t_ (by
    refine X178.aaload hx (j := (1 : Int32)) (v := (.ref w1)) (by rw [e178]; exact Ar180.1) (State.isArrayOf_alike hZ.alike Ar180.2.1) rfl Ar180.2.2 hin180 hat180 (g := (mkF m 5 (oLRI3 a1 1 (Int32.ofNat kk) (-1)) [(.int 1), (.ref bi)])) rfl rfl (hb hby d41_5) _ ?_
    refine XS.iloadN X178.here hx rfl (hb hby d41_6) rfl ?_
    refine XS.bipush X178.here hx rfl (hb hby d41_7) ?_
    refine XS.iushr X178.here hx rfl (hb hby d41_9) rfl ?_
    exact k_)
   have p182 : GF p e below _ T178 m 10 (oLRI3 a1 1 (Int32.ofNat kk) (-1)) [(.int 0), (.ref w1)] := goF p181 (by rw [show (((Int32.ofNat kk).toUInt32 >>> (6 : UInt32)).toInt32) = (0 : Int32) from (own_q0 (by omega))])
   have p183 : GF p e below _ T178 m 11 (oLRI3 a1 1 (Int32.ofNat kk) (-1)) [(.int 0), (.ref w1), (.int 0), (.ref w1)] := fun t_ k_ => p182 t_ (by
    jvm_step X178.here [X178.here.top, hx, (hb hby d41_10), Value.category]
    show Steps p.tables e below (T178.setTop (mkF m 11 (oLRI3 a1 1 (Int32.ofNat kk) (-1)) [(.int 0), (.ref w1), (.int 0), (.ref w1)])) _
    exact k_)
   obtain ⟨cl184, Ar184, q184, S184, Ng184, H184, G184⟩ := id F15
   have hin184 := inb_of S184 (j := (0 : Int32)) ⟨by decide, by decide⟩
   have hat184 := H184.at (v := (.long qc)) hin184 rfl
   have p185 : GF p e below _ T178 m 20 (oLRI3 a1 1 (Int32.ofNat kk) (-1)) [(.long (qc &&& (((1 : Int64) <<< ((Int32.ofNat kk) &&& 63).toInt64) ^^^ (-1 : Int64)))), (.int 0), (.ref w1)] := fun t_ k_ => p183 t_ (by
    refine X178.laload hx (j := (0 : Int32)) (v := (.long qc)) (by rw [e178]; exact Ar184.1) (State.isArrayOf_alike hZ.alike Ar184.2.1) Ar184.2.2 hin184 hat184 (g := (mkF m 11 (oLRI3 a1 1 (Int32.ofNat kk) (-1)) [(.int 0), (.ref w1), (.int 0), (.ref w1)])) rfl rfl (hb hby d41_11) _ ?_
    refine XS.lconst X178.here hx rfl (hb hby d41_12) ?_
    refine XS.iloadN X178.here hx rfl (hb hby d41_13) rfl ?_
    refine XS.lshl X178.here hx rfl (hb hby d41_14) rfl ?_
    refine X178.ldc2Long hx hown (mvT hZ (own_w hw 329 rfl)) (g := (mkF m 15 (oLRI3 a1 1 (Int32.ofNat kk) (-1)) [(.long ((1 : Int64) <<< ((Int32.ofNat kk) &&& 63).toInt64)), (.long qc), (.int 0), (.ref w1)])) rfl (hb hby d41_15) _ ?_
    refine XS.lxor X178.here hx rfl (hb hby d41_18) rfl ?_
    refine XS.land X178.here hx rfl (hb hby d41_19) rfl ?_
    exact k_)
   obtain ⟨cl186, Ar186, q186, S186, Ng186, H186, G186⟩ := id F15
   have hin186 := inb_of S186 (j := (0 : Int32)) ⟨by decide, by decide⟩
   obtain ⟨T186, h186, X186, e186, W186, st186⟩ := stJ X178 hx hZ e178 Ar186 (j := (0 : Int32)) hin186 (g := (mkF m 20 (oLRI3 a1 1 (Int32.ofNat kk) (-1)) [(.long (qc &&& (((1 : Int64) <<< ((Int32.ofNat kk) &&& 63).toInt64) ^^^ (-1 : Int64)))), (.int 0), (.ref w1)])) rfl rfl (hb hby d41_20)
   have K187 : Keep h0 h186 [a1, tr, sz, rs, ir, w0, w1] := (Keep.refl h0 [a1, tr, sz, rs, ir, w0, w1]).wr W186 (Or.inl (List.mem_of_getElem? (i := 6) rfl))
   have N186 := Fr.snoc X186 N0 GE.2.2.2.2.2.2.2
   have V186 : Arv Z h186 w1 kw1 .long (1 : Int32) [(.long (qc &&& (((1 : Int64) <<< ((Int32.ofNat kk) &&& 63).toInt64) ^^^ (-1 : Int64))))] (.long 0) := Arv.set Ar186 q186 S186 Ng186 H186 G186 rfl W186 0 rfl (Nat.le_of_ble_eq_true rfl)
   have p188 : GF p e below _ T186 m 22 (oLRI3 a1 1 (Int32.ofNat kk) (-1)) [(.ref a1)] := fun t_ k_ => (gc p185 st186) t_ (by
    refine XS.aloadN X186.here hx rfl (hb hby d41_21) rfl rfl ?_
    exact k_)
   have f189 := (F4.other W186 (Or.inl ND.2.2.2.2.2.2.1))
   obtain ⟨T190, X190, e190, st190⟩ := getF X186 hx hZ hown (host := "") (Or.inl (own_w hw 278 rfl)) Via.refl e186 f189 (g := (mkF m 22 (oLRI3 a1 1 (Int32.ofNat kk) (-1)) [(.ref a1)])) rfl rfl (hb hby d41_22)
   have p191 : GF p e below _ T190 m 27 (oLRI3 a1 1 (Int32.ofNat kk) (-1)) [(.int 1), (.ref sz), (.int 1), (.ref sz)] := fun t_ k_ => (gc p188 st190) t_ (by
    refine XS.iloadN X190.here hx rfl (hb hby d41_25) rfl ?_
    jvm_step X190.here [X190.here.top, hx, (hb hby d41_26), Value.category]
    show Steps p.tables e below (T190.setTop (mkF m 27 (oLRI3 a1 1 (Int32.ofNat kk) (-1)) [(.int 1), (.ref sz), (.int 1), (.ref sz)])) _
    exact k_)
   have f193 := (F11.other W186 ND.2.2.2.2.2.2.2.2.2.2.2.2.2.2.2.2.2.2.2.2.2.1)
   obtain ⟨cl192, Ar192, q192, S192, Ng192, H192, G192⟩ := id f193
   have hin192 := inb_of S192 (j := (1 : Int32)) ⟨by decide, by decide⟩
   have hat192 := H192.at (v := (.int s1)) hin192 rfl
   have p194 : GF p e below _ T190 m 30 (oLRI3 a1 1 (Int32.ofNat kk) (-1)) [(.int (s1 - (1 : Int32))), (.int 1), (.ref sz)] := fun t_ k_ => p191 t_ (by
    refine X190.iaload hx (j := (1 : Int32)) (v := (.int s1)) (by rw [e190]; exact Ar192.1) (State.isArrayOf_alike hZ.alike Ar192.2.1) Ar192.2.2 hin192 hat192 (g := (mkF m 27 (oLRI3 a1 1 (Int32.ofNat kk) (-1)) [(.int 1), (.ref sz), (.int 1), (.ref sz)])) rfl rfl (hb hby d41_27) _ ?_
    refine XS.iconst X190.here hx rfl (hb hby d41_28) ?_
    refine XS.isub X190.here hx rfl (hb hby d41_29) rfl ?_
    exact k_)
   obtain ⟨cl195, Ar195, q195, S195, Ng195, H195, G195⟩ := id f193
   have hin195 := inb_of S195 (j := (1 : Int32)) ⟨by decide, by decide⟩
   obtain ⟨T195, h195, X195, e195, W195, st195⟩ := stI X190 hx hZ e190 Ar195 (j := (1 : Int32)) hin195 (g := (mkF m 30 (oLRI3 a1 1 (Int32.ofNat kk) (-1)) [(.int (s1 - (1 : Int32))), (.int 1), (.ref sz)])) rfl rfl (hb hby d41_30)
   have K196 : Keep h0 h195 [a1, tr, sz, rs, ir, w0, w1] := K187.wr W195 (Or.inl (List.mem_of_getElem? (i := 2) rfl))
   have N195 := Fr.snoc X195 N186 GE.2.2.2.1
   have V195 : Arv Z h195 sz ksz .int (2 : Int32) [(.int s0), (.int (s1 - (1 : Int32)))] (.int 0) := Arv.set Ar195 q195 S195 Ng195 H195 G195 rfl W195 1 rfl (Nat.le_of_ble_eq_true rfl)
   have p197 : GF p e below _ T195 m 31 (oLRI3 a1 p2 p3 (-1)) [] := goF (gc p194 st195) (by rw [hx0, hak])
   have f198 := ((F0.wr W186).wr W195)
   have f199 := ((F1.other W186 (Or.inl ND.2.2.2.2.2.2.1)).other W195 (Or.inl ND.2.2.1))
   have f200 := ((F2.other W186 (Or.inl ND.2.2.2.2.2.2.1)).other W195 (Or.inl ND.2.2.1))
   have f201 := ((F3.other W186 (Or.inl ND.2.2.2.2.2.2.1)).other W195 (Or.inl ND.2.2.1))
   have f202 := (f189.other W195 (Or.inl ND.2.2.1))
   have f203 := ((F5.other W186 (Or.inl ND.2.2.2.2.2.2.1)).other W195 (Or.inl ND.2.2.1))
   have f204 := ((F6.other W186 (Or.inl ND.2.2.2.2.2.2.1)).other W195 (Or.inl ND.2.2.1))
   have f205 := ((F7.other W186 (Or.inl ND.2.2.2.2.2.2.1)).other W195 (Or.inl ND.2.2.1))
   have f206 := ((F8.other W186 (Or.inl ND.2.2.2.2.2.2.1)).other W195 (Or.inl ND.2.2.1))
   have f207 := ((F9.other W186 ND.2.2.2.2.2.2.2.2.2.2.2.2.1).other W195 ND.2.2.2.2.2.2.2.2.1)
   have f208 := ((F10.other W186 ND.2.2.2.2.2.2.2.2.2.2.2.2.2.2.2.2.2.1).other W195 ND.2.2.2.2.2.2.2.2.2.2.2.2.2.1)
   have f209 := ((F12.other W186 ND.2.2.2.2.2.2.2.2.2.2.2.2.2.2.2.2.2.2.2.2.2.2.2.2.1).other W195 (Ne.symm ND.2.2.2.2.2.2.2.2.2.2.2.2.2.2.2.2.2.2.1))
   have f210 := ((F13.other W186 ND.2.2.2.2.2.2.2.2.2.2.2.2.2.2.2.2.2.2.2.2.2.2.2.2.2.2.1).other W195 (Ne.symm ND.2.2.2.2.2.2.2.2.2.2.2.2.2.2.2.2.2.2.2.1))
   have f211 := ((F14.other W186 ND.2.2.2.2.2.2.2.2.2.2.2.2.2.2.2.2.2.2.2.2.2.2.2.2.2.2.2).other W195 (Ne.symm ND.2.2.2.2.2.2.2.2.2.2.2.2.2.2.2.2.2.2.2.2.1))
   have f212 := (V186.other W195 (Ne.symm ND.2.2.2.2.2.2.2.2.2.2.2.2.2.2.2.2.2.2.2.2.2.1))
   exact ⟨_, _, _, q0, q1, (qc &&& (((1 : Int64) <<< ((Int32.ofNat kk) &&& 63).toInt64) ^^^ (-1 : Int64))), s0, (s1 - (1 : Int32)), X195, e195, N195, K196, f198, f199, f200, f201, f202, f203, f204, f205, f206, f207, f208, V195, f209, f210, f211, f212, own_offC q0 q1 qc hx0 hk hak, p197⟩
 have p213 : GF p e below _ T101 m 33 (oLRI3 a1 p2 p3 (-1)) [(.int p2), (.ref a1)] := fun t_ k_ => p101 t_ (by
  refine XS.aloadN X101.here hx rfl (hb hby d41_31) rfl rfl ?_
  refine XS.iloadN X101.here hx rfl (hb hby d41_32) rfl ?_
  exact k_)
 obtain ⟨cq214, q214, q214'⟩ := J101_0.cell
 obtain ⟨_, _, ⟨T214, L214, k214, n214⟩, -, X214, ⟨Lc214, hQ214, l214, y214, z214⟩, st214⟩ := X101.privateBack hx (y := oM8) hown (mvT hZ (own_w hw 330 rfl)) (mvT hZ (own_w hw 331 rfl)) (selPriv (mvT hZ (own_w hw 305 rfl)) rfl (Cond.privateMethod_at (mvP hZ (own_w hw 332 rfl) (args := #[]))) (mvT hZ (own_w hw 331 rfl)) (by decide)) (Cond.privateMethod_at (mvP hZ (own_w hw 332 rfl) (args := #[]))) (mvT hZ (own_w hw 333 rfl)) (by decide) (backOf (W := 0) (rm42 l Z a0 hw [] a1 tr bi sz rs ir w0 w1 rb krs kir (Int32.ofNat t) rc u0 u1 eb0 eb1 p2 h101 n0 (Nat.le_trans Z0 K101.1) J101_0 J101_1 J101_2 J101_3 J101_4 J101_5 J101_6 J101_7 J101_8 J101_12 J101_13 ND GE HM (own_dx hd)) hZ (own_w hw 333 rfl) (own_w hw 91 rfl) (by decide) (by decide)) (g := (mkF m 33 (oLRI3 a1 p2 p3 (-1)) [(.int p2), (.ref a1)])) rfl (by rw [hml]; rfl) (Steps.refl _) (a := a1) (by rw [e101]; exact q214) q214' (argsL := [(.int p2)]) (rest := []) (lenOf pd18 rfl) rfl (by show 2 * 0 + _ ≤ _; exact Nat.le_of_eq rfl) (hb hby d41_33) (fun _ _ => ⟨rfl, e101, (by decide : 0 + 0 ≤ _), (by decide : 0 + 0 ≤ _)⟩)
 dsimp only [Pt.U, Pt.locs, Pt.cells, Pt.slots] at X214 l214 y214 z214 st214 hQ214
 subst l214 y214 z214
 obtain ⟨x215, x216, x217, x218, x219, rfl, N214q, q214_K, q214_F0, q214_F1, q214_F2, q214_F3, q214_F4, q214_F5, q214_F6, q214_F7, q214_F8, q214_F9, q214_F10, q214_M⟩ := hQ214
 have N214 := Fr.app N101 N214q
 have K220 : Keep h0 T214.heap [a1, tr, sz, rs, ir, w0, w1] := K101.trans q214_K (allS (Or.inl (List.mem_of_getElem? (i := 0) rfl)) (allS (Or.inl (List.mem_of_getElem? (i := 3) rfl)) (allS (Or.inl (List.mem_of_getElem? (i := 4) rfl)) all0)))
 have p221 : GF p e below _ T214 m 52 (oLRI3 a1 p2 p3 (-1)) [(.ref a1)] := fun t_ k_ => (gcT p213 st214) t_ (by
  refine XS.iloadN X214.here hx rfl (hb hby d41_36) rfl ?_
  refine XS.iconst X214.here hx rfl (hb hby d41_37) ?_
  refine XS.icmpYes X214.here hx rfl (pc0 := 38) (pc' := 51) rfl (hb hby d41_38) rfl (teq (by decide : ((-1 : Int32) = (-1 : Int32)))).1 (by decide) (by decide) ?_
  refine XS.aloadN X214.here hx rfl (hb hby d41_51) rfl rfl ?_
  exact k_)
 obtain ⟨T222, X222, e222, st222⟩ := getF X214 hx hZ hown (host := "") (Or.inl (own_w hw 307 rfl)) Via.refl rfl q214_F8 (g := (mkF m 52 (oLRI3 a1 p2 p3 (-1)) [(.ref a1)])) rfl rfl (hb hby d41_52)
 have p223 : GF p e below _ T222 m 56 (oLRI3 a1 p2 p3 (-1)) [(.ref a1), (.int (Int32.ofNat t))] := fun t_ k_ => (gc p221 st222) t_ (by
  refine XS.aloadN X222.here hx rfl (hb hby d41_55) rfl rfl ?_
  exact k_)
 obtain ⟨T224, X224, e224, st224⟩ := getF X222 hx hZ hown (host := "") (Or.inl (own_w hw 264 rfl)) Via.refl e222 q214_F1 (g := (mkF m 56 (oLRI3 a1 p2 p3 (-1)) [(.ref a1), (.int (Int32.ofNat t))])) rfl rfl (hb hby d41_56)
 have f226 := (J101_9.keep q214_K (ninS (Ne.symm ND.1) (ninS ND.2.2.2.2.2.2.2.2.2.1 (ninS ND.2.2.2.2.2.2.2.2.2.2.1 nin0))))
 obtain ⟨cl225, Ar225, -, S225, Ng225, -, -⟩ := id f226
 have p227 : GF p e below _ T224 m 60 (oLRI3 a1 p2 p3 (-1)) [(.int 96), (.int (Int32.ofNat t))] := fun t_ k_ => (gc p223 st224) t_ (by
  refine X224.arraylength hx (by rw [e224]; exact Ar225.1) (State.isArrayOf_alike hZ.alike Ar225.2.1) (g := (mkF m 59 (oLRI3 a1 p2 p3 (-1)) [(.ref tr), (.int (Int32.ofNat t))])) rfl rfl (hb hby d41_59) _ ?_
  rw [len_of S225 Ng225]
  show Steps p.tables e below (T224.setTop (mkF m 60 (oLRI3 a1 p2 p3 (-1)) [(.int 96), (.int (Int32.ofNat t))])) _
  exact k_)
 have c228 : ¬ ((Int32.ofNat t) = (96 : Int32)) := own_t96 ht
 have p229 : GF p e below _ T224 m 82 (oLRI3 a1 p2 p3 (-1)) [(.ref a1)] := fun t_ k_ => p227 t_ (by
  refine XS.icmpYes X224.here hx rfl (pc0 := 60) (pc' := 81) rfl (hb hby d41_60) rfl (feq c228).2 (by decide) (by decide) ?_
  refine XS.aloadN X224.here hx rfl (hb hby d41_81) rfl rfl ?_
  exact k_)
 obtain ⟨T230, X230, e230, st230⟩ := getF X224 hx hZ hown (host := "") (Or.inl (own_w hw 264 rfl)) Via.refl e224 q214_F1 (g := (mkF m 82 (oLRI3 a1 p2 p3 (-1)) [(.ref a1)])) rfl rfl (hb hby d41_82)
 have p231 : GF p e below _ T230 m 87 (oLRI3 a1 p2 p3 (-1)) [(.ref a1), (.ref a1), (.ref tr)] := fun t_ k_ => (gc p229 st230) t_ (by
  refine XS.aloadN X230.here hx rfl (hb hby d41_85) rfl rfl ?_
  refine XS.dup X230.here hx rfl (hb hby d41_86) rfl rfl ?_
  exact k_)
 obtain ⟨T232, X232, e232, st232⟩ := getF X230 hx hZ hown (host := "") (Or.inl (own_w hw 307 rfl)) Via.refl e230 q214_F8 (g := (mkF m 87 (oLRI3 a1 p2 p3 (-1)) [(.ref a1), (.ref a1), (.ref tr)])) rfl rfl (hb hby d41_87)
 have p233 : GF p e below _ T232 m 93 (oLRI3 a1 p2 p3 (-1)) [(.int ((Int32.ofNat t) + (1 : Int32))), (.ref a1), (.int (Int32.ofNat t)), (.ref tr)] := fun t_ k_ => (gc p231 st232) t_ (by
  refine XS.dupX1 X232.here hx rfl (hb hby d41_90) rfl rfl rfl ?_
  refine XS.iconst X232.here hx rfl (hb hby d41_91) ?_
  refine XS.iadd X232.here hx rfl (hb hby d41_92) rfl ?_
  exact k_)
 obtain ⟨T234, h234, X234, e234, W234, st234⟩ := putF X232 hx hZ hown (host := "") (Or.inl (own_w hw 307 rfl)) Via.refl e232 q214_F8 q214_F0 (Or.inl (own_w hw 308 rfl)) (own_w hw 90 rfl) (ty := .int) (by decide) rfl rfl (g := (mkF m 93 (oLRI3 a1 p2 p3 (-1)) [(.int ((Int32.ofNat t) + (1 : Int32))), (.ref a1), (.int (Int32.ofNat t)), (.ref tr)])) rfl rfl (hb hby d41_93)
 have K235 : Keep h0 h234 [a1, tr, sz, rs, ir, w0, w1] := K220.wr W234 (Or.inl (List.mem_of_getElem? (i := 0) rfl))
 have N234 := Fr.snoc X234 N214 GE.1
 have F234 : Fld Z h234 a1 "com/example/arcward/arcward/solver/Domains" "trailLength" "I" (.int ((Int32.ofNat t) + (1 : Int32))) := q214_F8.same W234
 have p236 : GF p e below _ T234 m 97 (oLRI3 a1 p2 p3 (-1)) [(.int p2), (.int (Int32.ofNat t)), (.ref tr)] := fun t_ k_ => (gc p233 st234) t_ (by
  refine XS.iloadN X234.here hx rfl (hb hby d41_96) rfl ?_
  exact k_)
 have f237 := (f226.other W234 (Ne.symm ND.1))
 obtain ⟨cl238, Ar238, q238, S238, Ng238, H238, G238⟩ := id f237
 have hin238 := inb_of S238 (j := (Int32.ofNat t)) (own_i0 ht).1
 obtain ⟨T238, h238, X238, e238, W238, st238⟩ := stI X234 hx hZ e234 Ar238 (j := (Int32.ofNat t)) hin238 (g := (mkF m 97 (oLRI3 a1 p2 p3 (-1)) [(.int p2), (.int (Int32.ofNat t)), (.ref tr)])) rfl rfl (hb hby d41_97)
 have K239 : Keep h0 h238 [a1, tr, sz, rs, ir, w0, w1] := K235.wr W238 (Or.inl (List.mem_of_getElem? (i := 1) rfl))
 have N238 := Fr.snoc X238 N234 GE.2.1
 have V238 : Arv Z h238 tr ktr .int (96 : Int32) (tvs.set t (.int p2)) (.int 0) := Arv.set Ar238 q238 S238 Ng238 H238 G238 rfl W238 t (own_i0 ht).2 (by rw [htl]; omega)
 have p240 : GF p e below _ T238 m 99 (oLRI3 a1 p2 p3 (-1)) [(.ref a1)] := fun t_ k_ => (gc p236 st238) t_ (by
  refine XS.aloadN X238.here hx rfl (hb hby d41_98) rfl rfl ?_
  exact k_)
 have f241 := ((q214_F1.other W234 (Or.inr (slot_ne (Or.inl (own_w hw 265 rfl)) (Or.inl (own_w hw 308 rfl)) (by decide) (t := (.array .int)) (t' := .int) (by decide) (by decide)))).other W238 (Or.inl ND.1))
 obtain ⟨T242, X242, e242, st242⟩ := getF X238 hx hZ hown (host := "") (Or.inl (own_w hw 264 rfl)) Via.refl e238 f241 (g := (mkF m 99 (oLRI3 a1 p2 p3 (-1)) [(.ref a1)])) rfl rfl (hb hby d41_99)
 have p243 : GF p e below _ T242 m 104 (oLRI3 a1 p2 p3 (-1)) [(.ref a1), (.ref a1), (.ref tr)] := fun t_ k_ => (gc p240 st242) t_ (by
  refine XS.aloadN X242.here hx rfl (hb hby d41_102) rfl rfl ?_
  refine XS.dup X242.here hx rfl (hb hby d41_103) rfl rfl ?_
  exact k_)
 have f244 := (F234.other W238 (Or.inl ND.1))
 obtain ⟨T245, X245, e245, st245⟩ := getF X242 hx hZ hown (host := "") (Or.inl (own_w hw 307 rfl)) Via.refl e242 f244 (g := (mkF m 104 (oLRI3 a1 p2 p3 (-1)) [(.ref a1), (.ref a1), (.ref tr)])) rfl rfl (hb hby d41_104)
 have p246 : GF p e below _ T245 m 110 (oLRI3 a1 p2 p3 (-1)) [(.int (((Int32.ofNat t) + (1 : Int32)) + (1 : Int32))), (.ref a1), (.int ((Int32.ofNat t) + (1 : Int32))), (.ref tr)] := fun t_ k_ => (gc p243 st245) t_ (by
  refine XS.dupX1 X245.here hx rfl (hb hby d41_107) rfl rfl rfl ?_
  refine XS.iconst X245.here hx rfl (hb hby d41_108) ?_
  refine XS.iadd X245.here hx rfl (hb hby d41_109) rfl ?_
  exact k_)
 have f247 := ((q214_F0.wr W234).wr W238)
 obtain ⟨T248, h248, X248, e248, W248, st248⟩ := putF X245 hx hZ hown (host := "") (Or.inl (own_w hw 307 rfl)) Via.refl e245 f244 f247 (Or.inl (own_w hw 308 rfl)) (own_w hw 90 rfl) (ty := .int) (by decide) rfl rfl (g := (mkF m 110 (oLRI3 a1 p2 p3 (-1)) [(.int (((Int32.ofNat t) + (1 : Int32)) + (1 : Int32))), (.ref a1), (.int ((Int32.ofNat t) + (1 : Int32))), (.ref tr)])) rfl rfl (hb hby d41_110)
 have K249 : Keep h0 h248 [a1, tr, sz, rs, ir, w0, w1] := K239.wr W248 (Or.inl (List.mem_of_getElem? (i := 0) rfl))
 have N248 := Fr.snoc X248 N238 GE.1
 have F248 : Fld Z h248 a1 "com/example/arcward/arcward/solver/Domains" "trailLength" "I" (.int (((Int32.ofNat t) + (1 : Int32)) + (1 : Int32))) := f244.same W248
 have p250 : GF p e below _ T248 m 114 (oLRI3 a1 p2 p3 (-1)) [(.int p3), (.int ((Int32.ofNat t) + (1 : Int32))), (.ref tr)] := fun t_ k_ => (gc p246 st248) t_ (by
  refine XS.iloadN X248.here hx rfl (hb hby d41_113) rfl ?_
  exact k_)
 have f251 := (V238.other W248 (Ne.symm ND.1))
 obtain ⟨cl252, Ar252, q252, S252, Ng252, H252, G252⟩ := id f251
 have hin252 := inb_of S252 (j := ((Int32.ofNat t) + (1 : Int32))) (own_i1 ht).1
 obtain ⟨T252, h252, X252, e252, W252, st252⟩ := stI X248 hx hZ e248 Ar252 (j := ((Int32.ofNat t) + (1 : Int32))) hin252 (g := (mkF m 114 (oLRI3 a1 p2 p3 (-1)) [(.int p3), (.int ((Int32.ofNat t) + (1 : Int32))), (.ref tr)])) rfl rfl (hb hby d41_114)
 have K253 : Keep h0 h252 [a1, tr, sz, rs, ir, w0, w1] := K249.wr W252 (Or.inl (List.mem_of_getElem? (i := 1) rfl))
 have N252 := Fr.snoc X252 N248 GE.2.1
 have V252 : Arv Z h252 tr ktr .int (96 : Int32) ((tvs.set t (.int p2)).set (t + 1) (.int p3)) (.int 0) := Arv.set Ar252 q252 S252 Ng252 H252 G252 rfl W252 (t + 1) (own_i1 ht).2 (by simp only [List.length_set]; rw [htl]; omega)
 have p254 : GF p e below _ T252 m 116 (oLRI3 a1 p2 p3 (-1)) [(.ref a1)] := fun t_ k_ => (gc p250 st252) t_ (by
  refine XS.aloadN X252.here hx rfl (hb hby d41_115) rfl rfl ?_
  exact k_)
 have f255 := ((f241.other W248 (Or.inr (slot_ne (Or.inl (own_w hw 265 rfl)) (Or.inl (own_w hw 308 rfl)) (by decide) (t := (.array .int)) (t' := .int) (by decide) (by decide)))).other W252 (Or.inl ND.1))
 obtain ⟨T256, X256, e256, st256⟩ := getF X252 hx hZ hown (host := "") (Or.inl (own_w hw 264 rfl)) Via.refl e252 f255 (g := (mkF m 116 (oLRI3 a1 p2 p3 (-1)) [(.ref a1)])) rfl rfl (hb hby d41_116)
 have p257 : GF p e below _ T256 m 121 (oLRI3 a1 p2 p3 (-1)) [(.ref a1), (.ref a1), (.ref tr)] := fun t_ k_ => (gc p254 st256) t_ (by
  refine XS.aloadN X256.here hx rfl (hb hby d41_119) rfl rfl ?_
  refine XS.dup X256.here hx rfl (hb hby d41_120) rfl rfl ?_
  exact k_)
 have f258 := (F248.other W252 (Or.inl ND.1))
 obtain ⟨T259, X259, e259, st259⟩ := getF X256 hx hZ hown (host := "") (Or.inl (own_w hw 307 rfl)) Via.refl e256 f258 (g := (mkF m 121 (oLRI3 a1 p2 p3 (-1)) [(.ref a1), (.ref a1), (.ref tr)])) rfl rfl (hb hby d41_121)
 have p260 : GF p e below _ T259 m 127 (oLRI3 a1 p2 p3 (-1)) [(.int ((((Int32.ofNat t) + (1 : Int32)) + (1 : Int32)) + (1 : Int32))), (.ref a1), (.int (((Int32.ofNat t) + (1 : Int32)) + (1 : Int32))), (.ref tr)] := fun t_ k_ => (gc p257 st259) t_ (by
  refine XS.dupX1 X259.here hx rfl (hb hby d41_124) rfl rfl rfl ?_
  refine XS.iconst X259.here hx rfl (hb hby d41_125) ?_
  refine XS.iadd X259.here hx rfl (hb hby d41_126) rfl ?_
  exact k_)
 have f261 := ((f247.wr W248).wr W252)
 obtain ⟨T262, h262, X262, e262, W262, st262⟩ := putF X259 hx hZ hown (host := "") (Or.inl (own_w hw 307 rfl)) Via.refl e259 f258 f261 (Or.inl (own_w hw 308 rfl)) (own_w hw 90 rfl) (ty := .int) (by decide) rfl rfl (g := (mkF m 127 (oLRI3 a1 p2 p3 (-1)) [(.int ((((Int32.ofNat t) + (1 : Int32)) + (1 : Int32)) + (1 : Int32))), (.ref a1), (.int (((Int32.ofNat t) + (1 : Int32)) + (1 : Int32))), (.ref tr)])) rfl rfl (hb hby d41_127)
 have K263 : Keep h0 h262 [a1, tr, sz, rs, ir, w0, w1] := K253.wr W262 (Or.inl (List.mem_of_getElem? (i := 0) rfl))
 have N262 := Fr.snoc X262 N252 GE.1
 have F262 : Fld Z h262 a1 "com/example/arcward/arcward/solver/Domains" "trailLength" "I" (.int ((((Int32.ofNat t) + (1 : Int32)) + (1 : Int32)) + (1 : Int32))) := f258.same W262
 have p264 : GF p e below _ T262 m 131 (oLRI3 a1 p2 p3 (-1)) [(.int (-1)), (.int (((Int32.ofNat t) + (1 : Int32)) + (1 : Int32))), (.ref tr)] := fun t_ k_ => (gc p260 st262) t_ (by
  refine XS.iloadN X262.here hx rfl (hb hby d41_130) rfl ?_
  exact k_)
 have f265 := (V252.other W262 (Ne.symm ND.1))
 obtain ⟨cl266, Ar266, q266, S266, Ng266, H266, G266⟩ := id f265
 have hin266 := inb_of S266 (j := (((Int32.ofNat t) + (1 : Int32)) + (1 : Int32))) (own_i2 ht).1
 obtain ⟨T266, h266, X266, e266, W266, st266⟩ := stI X262 hx hZ e262 Ar266 (j := (((Int32.ofNat t) + (1 : Int32)) + (1 : Int32))) hin266 (g := (mkF m 131 (oLRI3 a1 p2 p3 (-1)) [(.int (-1)), (.int (((Int32.ofNat t) + (1 : Int32)) + (1 : Int32))), (.ref tr)])) rfl rfl (hb hby d41_131)
 have K267 : Keep h0 h266 [a1, tr, sz, rs, ir, w0, w1] := K263.wr W266 (Or.inl (List.mem_of_getElem? (i := 1) rfl))
 have N266 := Fr.snoc X266 N262 GE.2.1
 have V266 : Arv Z h266 tr ktr .int (96 : Int32) (((tvs.set t (.int p2)).set (t + 1) (.int p3)).set (t + 2) (.int (-1))) (.int 0) := Arv.set Ar266 q266 S266 Ng266 H266 G266 rfl W266 (t + 2) (own_i2 ht).2 (by simp only [List.length_set]; rw [htl]; omega)
 have f268 := ((f261.wr W262).wr W266)
 have f269 := ((f255.other W262 (Or.inr (slot_ne (Or.inl (own_w hw 265 rfl)) (Or.inl (own_w hw 308 rfl)) (by decide) (t := (.array .int)) (t' := .int) (by decide) (by decide)))).other W266 (Or.inl ND.1))
 have f270 := ((((((q214_F2.other W234 (Or.inr (slot_ne (Or.inr (own_w hw 267 rfl)) (Or.inl (own_w hw 308 rfl)) (by decide) (t := (.array .int)) (t' := .int) (by decide) (by decide)))).other W238 (Or.inl ND.1)).other W248 (Or.inr (slot_ne (Or.inr (own_w hw 267 rfl)) (Or.inl (own_w hw 308 rfl)) (by decide) (t := (.array .int)) (t' := .int) (by decide) (by decide)))).other W252 (Or.inl ND.1)).other W262 (Or.inr (slot_ne (Or.inr (own_w hw 267 rfl)) (Or.inl (own_w hw 308 rfl)) (by decide) (t := (.array .int)) (t' := .int) (by decide) (by decide)))).other W266 (Or.inl ND.1))
 have f271 := ((((((q214_F3.other W234 (Or.inr (slot_ne (Or.inr (own_w hw 277 rfl)) (Or.inl (own_w hw 308 rfl)) (by decide) (t := (.array (.array .long))) (t' := .int) (by decide) (by decide)))).other W238 (Or.inl ND.1)).other W248 (Or.inr (slot_ne (Or.inr (own_w hw 277 rfl)) (Or.inl (own_w hw 308 rfl)) (by decide) (t := (.array (.array .long))) (t' := .int) (by decide) (by decide)))).other W252 (Or.inl ND.1)).other W262 (Or.inr (slot_ne (Or.inr (own_w hw 277 rfl)) (Or.inl (own_w hw 308 rfl)) (by decide) (t := (.array (.array .long))) (t' := .int) (by decide) (by decide)))).other W266 (Or.inl ND.1))
 have f272 := ((((((q214_F4.other W234 (Or.inr (slot_ne (Or.inr (own_w hw 279 rfl)) (Or.inl (own_w hw 308 rfl)) (by decide) (t := (.array .int)) (t' := .int) (by decide) (by decide)))).other W238 (Or.inl ND.1)).other W248 (Or.inr (slot_ne (Or.inr (own_w hw 279 rfl)) (Or.inl (own_w hw 308 rfl)) (by decide) (t := (.array .int)) (t' := .int) (by decide) (by decide)))).other W252 (Or.inl ND.1)).other W262 (Or.inr (slot_ne (Or.inr (own_w hw 279 rfl)) (Or.inl (own_w hw 308 rfl)) (by decide) (t := (.array .int)) (t' := .int) (by decide) (by decide)))).other W266 (Or.inl ND.1))
 have f273 := ((((((q214_F5.other W234 (Or.inr (slot_ne (Or.inr (own_w hw 281 rfl)) (Or.inl (own_w hw 308 rfl)) (by decide) (t := (.array .int)) (t' := .int) (by decide) (by decide)))).other W238 (Or.inl ND.1)).other W248 (Or.inr (slot_ne (Or.inr (own_w hw 281 rfl)) (Or.inl (own_w hw 308 rfl)) (by decide) (t := (.array .int)) (t' := .int) (by decide) (by decide)))).other W252 (Or.inl ND.1)).other W262 (Or.inr (slot_ne (Or.inr (own_w hw 281 rfl)) (Or.inl (own_w hw 308 rfl)) (by decide) (t := (.array .int)) (t' := .int) (by decide) (by decide)))).other W266 (Or.inl ND.1))
 have f274 := ((((((q214_F6.other W234 (Or.inr (slot_ne (Or.inr (own_w hw 284 rfl)) (Or.inl (own_w hw 308 rfl)) (by decide) (t := (.array .boolean)) (t' := .int) (by decide) (by decide)))).other W238 (Or.inl ND.1)).other W248 (Or.inr (slot_ne (Or.inr (own_w hw 284 rfl)) (Or.inl (own_w hw 308 rfl)) (by decide) (t := (.array .boolean)) (t' := .int) (by decide) (by decide)))).other W252 (Or.inl ND.1)).other W262 (Or.inr (slot_ne (Or.inr (own_w hw 284 rfl)) (Or.inl (own_w hw 308 rfl)) (by decide) (t := (.array .boolean)) (t' := .int) (by decide) (by decide)))).other W266 (Or.inl ND.1))
 have f275 := ((((((q214_F7.other W234 (Or.inr (slot_ne (Or.inl (own_w hw 335 rfl)) (Or.inl (own_w hw 308 rfl)) (by decide) (t := .int) (t' := .int) (by decide) (by decide)))).other W238 (Or.inl ND.1)).other W248 (Or.inr (slot_ne (Or.inl (own_w hw 335 rfl)) (Or.inl (own_w hw 308 rfl)) (by decide) (t := .int) (t' := .int) (by decide) (by decide)))).other W252 (Or.inl ND.1)).other W262 (Or.inr (slot_ne (Or.inl (own_w hw 335 rfl)) (Or.inl (own_w hw 308 rfl)) (by decide) (t := .int) (t' := .int) (by decide) (by decide)))).other W266 (Or.inl ND.1))
 have f276 := (F262.other W266 (Or.inl ND.1))
 have f277 := (((((((J101_10.keep q214_K (ninS (Ne.symm ND.2.1) (ninS ND.2.2.2.2.2.2.2.2.2.2.2.2.2.2.1 (ninS ND.2.2.2.2.2.2.2.2.2.2.2.2.2.2.2.1 nin0)))).other W234 (Ne.symm ND.2.1)).other W238 (Ne.symm ND.2.2.2.2.2.2.2.1)).other W248 (Ne.symm ND.2.1)).other W252 (Ne.symm ND.2.2.2.2.2.2.2.1)).other W262 (Ne.symm ND.2.1)).other W266 (Ne.symm ND.2.2.2.2.2.2.2.1))
 have f278 := (((((((J101_11.keep q214_K (ninS (Ne.symm ND.2.2.1) (ninS ND.2.2.2.2.2.2.2.2.2.2.2.2.2.2.2.2.2.2.1 (ninS ND.2.2.2.2.2.2.2.2.2.2.2.2.2.2.2.2.2.2.2.1 nin0)))).other W234 (Ne.symm ND.2.2.1)).other W238 (Ne.symm ND.2.2.2.2.2.2.2.2.1)).other W248 (Ne.symm ND.2.2.1)).other W252 (Ne.symm ND.2.2.2.2.2.2.2.2.1)).other W262 (Ne.symm ND.2.2.1)).other W266 (Ne.symm ND.2.2.2.2.2.2.2.2.1))
 have f279 := ((((((q214_F9.other W234 (Ne.symm ND.2.2.2.1)).other W238 (Ne.symm ND.2.2.2.2.2.2.2.2.2.1)).other W248 (Ne.symm ND.2.2.2.1)).other W252 (Ne.symm ND.2.2.2.2.2.2.2.2.2.1)).other W262 (Ne.symm ND.2.2.2.1)).other W266 (Ne.symm ND.2.2.2.2.2.2.2.2.2.1))
 have f280 := ((((((q214_F10.other W234 (Ne.symm ND.2.2.2.2.1)).other W238 (Ne.symm ND.2.2.2.2.2.2.2.2.2.2.1)).other W248 (Ne.symm ND.2.2.2.2.1)).other W252 (Ne.symm ND.2.2.2.2.2.2.2.2.2.2.1)).other W262 (Ne.symm ND.2.2.2.2.1)).other W266 (Ne.symm ND.2.2.2.2.2.2.2.2.2.2.1))
 have f281 := (((((((J101_14.keep q214_K (ninS (Ne.symm ND.2.2.2.2.2.1) (ninS (Ne.symm ND.2.2.2.2.2.2.2.2.2.2.2.2.2.2.2.2.2.2.2.2.2.2.2.1) (ninS (Ne.symm ND.2.2.2.2.2.2.2.2.2.2.2.2.2.2.2.2.2.2.2.2.2.2.2.2.2.1) nin0)))).other W234 (Ne.symm ND.2.2.2.2.2.1)).other W238 (Ne.symm ND.2.2.2.2.2.2.2.2.2.2.2.1)).other W248 (Ne.symm ND.2.2.2.2.2.1)).other W252 (Ne.symm ND.2.2.2.2.2.2.2.2.2.2.2.1)).other W262 (Ne.symm ND.2.2.2.2.2.1)).other W266 (Ne.symm ND.2.2.2.2.2.2.2.2.2.2.2.1))
 have f282 := (((((((J101_15.keep q214_K (ninS (Ne.symm ND.2.2.2.2.2.2.1) (ninS (Ne.symm ND.2.2.2.2.2.2.2.2.2.2.2.2.2.2.2.2.2.2.2.2.2.2.2.2.1) (ninS (Ne.symm ND.2.2.2.2.2.2.2.2.2.2.2.2.2.2.2.2.2.2.2.2.2.2.2.2.2.2.1) nin0)))).other W234 (Ne.symm ND.2.2.2.2.2.2.1)).other W238 (Ne.symm ND.2.2.2.2.2.2.2.2.2.2.2.2.1)).other W248 (Ne.symm ND.2.2.2.2.2.2.1)).other W252 (Ne.symm ND.2.2.2.2.2.2.2.2.2.2.2.2.1)).other W262 (Ne.symm ND.2.2.2.2.2.2.1)).other W266 (Ne.symm ND.2.2.2.2.2.2.2.2.2.2.2.2.1))
 obtain ⟨fs, hr, hrun, hended, hW, hsame⟩ := X266.leave (v := none) (fun _ => rfl)
 refine ⟨_, _, (gc p264 st266) _ (X266.returnOut hx Bd.returns (hb hby d41_132) hr), hrun, hended, _, _, rfl, ?_, ⟨_, rfl⟩, hW, hsame.mono (by decide) (by decide)⟩
 show Q41 Z a1 tr bi sz rs ir w0 w1 rb ktr kbi ksz krs kir kw0 kw1 q0 q1 qc s0 s1 u0 u1 eb0 eb1 tvs t rc p2 p3 h0 n0 _ T266.heap _
 rw [e266]
 exact ⟨qa101, qb101, qc101, sa101, sb101, x216, x217, x218, x219, x215, (((tvs.set t (.int p2)).set (t + 1) (.int p3)).set (t + 2) (.int (-1))), rfl, N266, K267, f268, f269, f270, f271, f272, f273, f274, f275, (by rw [own_i3]; exact f276), V266, f277, f278, f279, f280, f281, f282, q214_M, (by simp only [List.length_set]; exact htl), (own_Tset htl ht p2 p3), R101⟩
theorem d40_0 : decode prog_50_method_18_code 0 = .ok (.aload_n 0, 1) := by decide +kernel
theorem d40_1 : decode prog_50_method_18_code 1 = .ok (.iload_n 1, 1) := by decide +kernel
theorem d40_2 : decode prog_50_method_18_code 2 = .ok (.iload_n 2, 1) := by decide +kernel
theorem d40_3 : decode prog_50_method_18_code 3 = .ok (.iconst (-1), 1) := by decide +kernel
theorem d40_4 : decode prog_50_method_18_code 4 = .ok (.invokevirtual 107, 3) := by decide +kernel
theorem d40_7 : decode prog_50_method_18_code 7 = .ok (.return_, 1) := by decide +kernel
theorem pd19 : parseMethodDescriptor "(III)V" = some ⟨[.int, .int, .int], none⟩ := by decide +kernel
theorem pn40 : plainFor (⟨"com/example/arcward/arcward/solver/Domains", "remove", "(II)V"⟩ : MethodName) = true := plainFor_of_name (by first | (simp [plainName, overriddenIn]; done) | decide +kernel)
theorem ef_rm40 (m : MethodId) (a1 : Addr) (tr : Addr) (bi : Addr) (sz : Addr) (rs : Addr) (ir : Addr) (w0 : Addr) (w1 : Addr) (rb : Addr) (ktr : ClassId) (kbi : ClassId) (ksz : ClassId) (krs : ClassId) (kir : ClassId) (kw0 : ClassId) (kw1 : ClassId) (q0 : Int64) (q1 : Int64) (qc : Int64) (s0 : Int32) (s1 : Int32) (u0 : Int32) (u1 : Int32) (eb0 : Int32) (eb1 : Int32) (tvs : List Value) (t : Nat) (rc : Int32) (p2 : Int32) (p3 : Int32) : entryFrame m #[(.ref a1), (.int p2), (.int p3)] 3 = mkF m 0 #[.val (.ref a1), .val (.int p2), .val (.int p3)] [] := by first | (simp [entryFrame, mkF, argsToLocals, Value.category]; done) | rfl
def Q40 (Z : State) (a1 : Addr) (tr : Addr) (bi : Addr) (sz : Addr) (rs : Addr) (ir : Addr) (w0 : Addr) (w1 : Addr) (rb : Addr) (ktr : ClassId) (kbi : ClassId) (ksz : ClassId) (krs : ClassId) (kir : ClassId) (kw0 : ClassId) (kw1 : ClassId) (q0 : Int64) (q1 : Int64) (qc : Int64) (s0 : Int32) (s1 : Int32) (u0 : Int32) (u1 : Int32) (eb0 : Int32) (eb1 : Int32) (tvs : List Value) (t : Nat) (rc : Int32) (p2 : Int32) (p3 : Int32) (h0 : Heap) (n0 : Nat) (v : Option Value) (h : Heap) (L : List Loc) : Prop := ∃ (q0n : Int64) (q1n : Int64) (qcn : Int64) (s0n : Int32) (s1n : Int32) (u0n : Int32) (u1n : Int32) (e0n : Int32) (e1n : Int32) (rcn : Int32) (tvn : List Value), v = none ∧ Fr n0 L ∧ (Keep h0 h [a1, tr, sz, rs, ir, w0, w1]) ∧ (Exa Z h a1 "com/example/arcward/arcward/solver/Domains") ∧ (Fld Z h a1 "com/example/arcward/arcward/solver/Domains" "trail" "[I" (.ref tr)) ∧ (Fld Z h a1 "com/example/arcward/arcward/solver/Domains" "removedBy" "[I" (.ref rb)) ∧ (Fld Z h a1 "com/example/arcward/arcward/solver/Domains" "bits" "[[J" (.ref bi)) ∧ (Fld Z h a1 "com/example/arcward/arcward/solver/Domains" "sizes" "[I" (.ref sz)) ∧ (Fld Z h a1 "com/example/arcward/arcward/solver/Domains" "resized" "[I" (.ref rs)) ∧ (Fld Z h a1 "com/example/arcward/arcward/solver/Domains" "inResized" "[Z" (.ref ir)) ∧ (Fld Z h a1 "com/example/arcward/arcward/solver/Domains" "resizedCount" "I" (.int rcn)) ∧ (Fld Z h a1 "com/example/arcward/arcward/solver/Domains" "trailLength" "I" (.int (Int32.ofNat (t + 3)))) ∧ (Arv Z h tr ktr .int (96 : Int32) tvn (.int 0)) ∧ (Arv Z h bi kbi (.array .long) (2 : Int32) [(.ref w0), (.ref w1)] .null) ∧ (Arv Z h sz ksz .int (2 : Int32) [(.int s0n), (.int s1n)] (.int 0)) ∧ (Arv Z h rs krs .int (2 : Int32) [(.int u0n), (.int u1n)] (.int 0)) ∧ (Arv Z h ir kir .boolean (2 : Int32) [(.int e0n), (.int e1n)] (.int 0)) ∧ (Arv Z h w0 kw0 .long (2 : Int32) [(.long q0n), (.long q1n)] (.long 0)) ∧ (Arv Z h w1 kw1 .long (1 : Int32) [(.long qcn)] (.long 0)) ∧ (own_M rcn e0n e1n) ∧ (tvn.length = 96) ∧ (own_T tvn t p2 p3) ∧ (own_off q0 q1 qc q0n q1n qcn p2 p3)
set_option maxRecDepth 65536 in
set_option maxHeartbeats 40000000 in
theorem rm40 (l : Launch) (Z : State) (a0 : Array Value) (hw : ∀ d ∈ tables_1, d.before a0 Z = true) (ws : List Jvm.Cond) (a1 : Addr) (tr : Addr) (bi : Addr) (sz : Addr) (rs : Addr) (ir : Addr) (w0 : Addr) (w1 : Addr) (rb : Addr) (ktr : ClassId) (kbi : ClassId) (ksz : ClassId) (krs : ClassId) (kir : ClassId) (kw0 : ClassId) (kw1 : ClassId) (q0 : Int64) (q1 : Int64) (qc : Int64) (s0 : Int32) (s1 : Int32) (u0 : Int32) (u1 : Int32) (eb0 : Int32) (eb1 : Int32) (tvs : List Value) (t : Nat) (rc : Int32) (p2 : Int32) (p3 : Int32) (h0 : Heap) (n0 : Nat) (Z0 : n0 ≤ h0.size) (F0 : Exa Z h0 a1 "com/example/arcward/arcward/solver/Domains") (F1 : Fld Z h0 a1 "com/example/arcward/arcward/solver/Domains" "trail" "[I" (.ref tr)) (F2 : Fld Z h0 a1 "com/example/arcward/arcward/solver/Domains" "removedBy" "[I" (.ref rb)) (F3 : Fld Z h0 a1 "com/example/arcward/arcward/solver/Domains" "bits" "[[J" (.ref bi)) (F4 : Fld Z h0 a1 "com/example/arcward/arcward/solver/Domains" "sizes" "[I" (.ref sz)) (F5 : Fld Z h0 a1 "com/example/arcward/arcward/solver/Domains" "resized" "[I" (.ref rs)) (F6 : Fld Z h0 a1 "com/example/arcward/arcward/solver/Domains" "inResized" "[Z" (.ref ir)) (F7 : Fld Z h0 a1 "com/example/arcward/arcward/solver/Domains" "resizedCount" "I" (.int rc)) (F8 : Fld Z h0 a1 "com/example/arcward/arcward/solver/Domains" "trailLength" "I" (.int (Int32.ofNat t))) (F9 : Arv Z h0 tr ktr .int (96 : Int32) tvs (.int 0)) (F10 : Arv Z h0 bi kbi (.array .long) (2 : Int32) [(.ref w0), (.ref w1)] .null) (F11 : Arv Z h0 sz ksz .int (2 : Int32) [(.int s0), (.int s1)] (.int 0)) (F12 : Arv Z h0 rs krs .int (2 : Int32) [(.int u0), (.int u1)] (.int 0)) (F13 : Arv Z h0 ir kir .boolean (2 : Int32) [(.int eb0), (.int eb1)] (.int 0)) (F14 : Arv Z h0 w0 kw0 .long (2 : Int32) [(.long q0), (.long q1)] (.long 0)) (F15 : Arv Z h0 w1 kw1 .long (1 : Int32) [(.long qc)] (.long 0)) (ND : own_ND a1 tr bi sz rs ir w0 w1) (GE : own_GE n0 a1 tr bi sz rs ir w0 w1) (HM : own_M rc eb0 eb1) (ht : t ≤ 20) (htl : tvs.length = 96) (hd : own_dom p2 p3) :
  MetFree l oM9 (head1 (Jvm.Cond.code oM9 prog_50_method_18_code 3 none :: ws) ({ frames := 2, cells := 0, slots := 0, locals := 28 } : Room)) (fun a U => a = #[(.ref a1), (.int p2), (.int p3)] ∧ Z.Warmed39 U.vm ∧ U.heap = h0) (fun _ _ _ _ _ => True) (fun _ U o U' => ∃ v L, o = .returned v ∧ Q40 Z a1 tr bi sz rs ir w0 w1 rb ktr kbi ksz krs kir kw0 kw1 q0 q1 qc s0 s1 u0 u1 eb0 eb1 tvs t rc p2 p3 h0 n0 v U'.heap L ∧ FrameEnd U o U' L ({ frames := 2, cells := 0, slots := 0, locals := 28 } : Room).cells ({ frames := 2, cells := 0, slots := 0, locals := 28 } : Room).slots) := by
 refine MetFree.of_bodySF pn40 hisR ?_
 intro p e s m args below meth c s₁ Bd hml0 hP hK
 obtain ⟨rfl, hZ, hh⟩ := hP
 have hx := Bd.exec
 have hby := Bd.bytes
 have hml : c.maxLocals = 3 := hml0
 have hown : s.vm.findClass "com/example/arcward/arcward/solver/Domains" = some m.cls := findClass_of_methodNamed Bd.named
 have hnm := (name_of_methodNamed Bd.named Bd.method).1
 have X0 : Stand p l e ({ frames := 2, cells := 0, slots := 0, locals := 28 } : Room) s m #[(.ref a1), (.int p2), (.int p3)] below meth c s₁ [] 0 0 := Stand.of_body Bd
 have e0 : s₁.heap = h0 := by rw [← hh, Bd.state]; rfl
 have N0 := Fr.nil n0
 have p0 : GF p e below (s₁.setTop (entryFrame m #[(.ref a1), (.int p2), (.int p3)] 3)) s₁ m 0 #[.val (.ref a1), .val (.int p2), .val (.int p3)] [] := fun t_ k_ => castTop (ef_rm40 m a1 tr bi sz rs ir w0 w1 rb ktr kbi ksz krs kir kw0 kw1 q0 q1 qc s0 s1 u0 u1 eb0 eb1 tvs t rc p2 p3) k_
 have p101 : GF p e below _ s₁ m 4 #[.val (.ref a1), .val (.int p2), .val (.int p3)] [(.int (-1)), (.int p3), (.int p2), (.ref a1)] := fun t_ k_ => p0 t_ (by
  refine XS.aloadN X0.here hx rfl (hb hby d40_0) rfl rfl ?_
  refine XS.iloadN X0.here hx rfl (hb hby d40_1) rfl ?_
  refine XS.iloadN X0.here hx rfl (hb hby d40_2) rfl ?_
  refine XS.iconst X0.here hx rfl (hb hby d40_3) ?_
  exact k_)
 obtain ⟨cq102, kq102, q102a, q102b, q102c⟩ := isOf hZ e0 F0
 obtain ⟨_, _, ⟨T102, L102, k102, n102⟩, -, X102, ⟨Lc102, hQ102, l102, y102, z102⟩, st102⟩ := X0.virtualBack hx (y := oM10) (z := oM10) hown (mvT hZ (own_w hw 324 rfl)) (mvT hZ (own_w hw 325 rfl)) (notFace_of_selects (args := #[]) (mvT hZ (own_w hw 327 rfl))) (mvT hZ (own_w hw 327 rfl)) (mvT hZ (own_w hw 326 rfl)) (by decide) (backOf (W := 0) (rm41 l Z a0 hw [] a1 tr bi sz rs ir w0 w1 rb ktr kbi ksz krs kir kw0 kw1 q0 q1 qc s0 s1 u0 u1 eb0 eb1 tvs t rc p2 p3 h0 n0 (Nat.le_trans Z0 (Keep.refl h0 [a1, tr, sz, rs, ir, w0, w1]).1) F0 F1 F2 F3 F4 F5 F6 F7 F8 F9 F10 F11 F12 F13 F14 F15 ND GE HM ht htl hd) hZ (own_w hw 328 rfl) (own_w hw 91 rfl) (by decide) (by decide)) q102a q102c (g := (mkF m 4 #[.val (.ref a1), .val (.int p2), .val (.int p3)] [(.int (-1)), (.int p3), (.int p2), (.ref a1)])) rfl (by rw [hml]; rfl) (Steps.refl _) (argsL := [(.int p2), (.int p3), (.int (-1))]) (rest := []) (lenOf pd19 rfl) rfl (by show 2 * 0 + _ ≤ _; exact Nat.le_of_eq rfl) (hb hby d40_4) (fun _ _ => ⟨rfl, e0, (by decide : 0 + 0 ≤ _), (by decide : 0 + 0 ≤ _)⟩)
 dsimp only [Pt.U, Pt.locs, Pt.cells, Pt.slots] at X102 l102 y102 z102 st102 hQ102
 subst l102 y102 z102
 obtain ⟨x103, x104, x105, x106, x107, x108, x109, x110, x111, x112, x113, rfl, N102q, q102_K, q102_F0, q102_F1, q102_F2, q102_F3, q102_F4, q102_F5, q102_F6, q102_F7, q102_F8, q102_F9, q102_F10, q102_F11, q102_F12, q102_F13, q102_F14, q102_F15, q102_M, q102_l, q102_T, q102_off⟩ := hQ102
 have N102 := Fr.app N0 N102q
 have K114 : Keep h0 T102.heap [a1, tr, sz, rs, ir, w0, w1] := (Keep.refl h0 [a1, tr, sz, rs, ir, w0, w1]).trans q102_K (allS (Or.inl (List.mem_of_getElem? (i := 0) rfl)) (allS (Or.inl (List.mem_of_getElem? (i := 1) rfl)) (allS (Or.inl (List.mem_of_getElem? (i := 2) rfl)) (allS (Or.inl (List.mem_of_getElem? (i := 3) rfl)) (allS (Or.inl (List.mem_of_getElem? (i := 4) rfl)) (allS (Or.inl (List.mem_of_getElem? (i := 5) rfl)) (allS (Or.inl (List.mem_of_getElem? (i := 6) rfl)) all0)))))))
 obtain ⟨fs, hr, hrun, hended, hW, hsame⟩ := X102.leave (v := none) (fun _ => rfl)
 refine ⟨_, _, (gcT p101 st102) _ (X102.returnOut hx Bd.returns (hb hby d40_7) hr), hrun, hended, _, _, rfl, ?_, ⟨_, rfl⟩, hW, hsame.mono (by decide) (by decide)⟩
 show Q40 Z a1 tr bi sz rs ir w0 w1 rb ktr kbi ksz krs kir kw0 kw1 q0 q1 qc s0 s1 u0 u1 eb0 eb1 tvs t rc p2 p3 h0 n0 _ T102.heap _
 exact ⟨x103, x104, x105, x106, x107, x108, x109, x110, x111, x112, x113, rfl, N102, K114, q102_F0, q102_F1, q102_F2, q102_F3, q102_F4, q102_F5, q102_F6, q102_F7, q102_F8, q102_F9, q102_F10, q102_F11, q102_F12, q102_F13, q102_F14, q102_F15, q102_M, q102_l, q102_T, q102_off⟩
theorem d39_0 : decode prog_50_method_22_code 0 = .ok (.aload_n 0, 1) := by decide +kernel
theorem d39_1 : decode prog_50_method_22_code 1 = .ok (.getfield 115, 3) := by decide +kernel
theorem d39_4 : decode prog_50_method_22_code 4 = .ok (.iload_n 1, 1) := by decide +kernel
theorem d39_5 : decode prog_50_method_22_code 5 = .ok (.if_icmp .le 108, 3) := by decide +kernel
theorem d39_8 : decode prog_50_method_22_code 8 = .ok (.aload_n 0, 1) := by decide +kernel
theorem d39_9 : decode prog_50_method_22_code 9 = .ok (.getfield 7, 3) := by decide +kernel
theorem d39_12 : decode prog_50_method_22_code 12 = .ok (.aload_n 0, 1) := by decide +kernel
theorem d39_13 : decode prog_50_method_22_code 13 = .ok (.dup, 1) := by decide +kernel
theorem d39_14 : decode prog_50_method_22_code 14 = .ok (.getfield 115, 3) := by decide +kernel
theorem d39_17 : decode prog_50_method_22_code 17 = .ok (.iconst 1, 1) := by decide +kernel
theorem d39_18 : decode prog_50_method_22_code 18 = .ok (.isub, 1) := by decide +kernel
theorem d39_19 : decode prog_50_method_22_code 19 = .ok (.dup_x1, 1) := by decide +kernel
theorem d39_20 : decode prog_50_method_22_code 20 = .ok (.putfield 115, 3) := by decide +kernel
theorem d39_23 : decode prog_50_method_22_code 23 = .ok (.iaload, 1) := by decide +kernel
theorem d39_24 : decode prog_50_method_22_code 24 = .ok (.istore_n 2, 1) := by decide +kernel
theorem d39_25 : decode prog_50_method_22_code 25 = .ok (.aload_n 0, 1) := by decide +kernel
theorem d39_26 : decode prog_50_method_22_code 26 = .ok (.getfield 7, 3) := by decide +kernel
theorem d39_29 : decode prog_50_method_22_code 29 = .ok (.aload_n 0, 1) := by decide +kernel
theorem d39_30 : decode prog_50_method_22_code 30 = .ok (.dup, 1) := by decide +kernel
theorem d39_31 : decode prog_50_method_22_code 31 = .ok (.getfield 115, 3) := by decide +kernel
theorem d39_34 : decode prog_50_method_22_code 34 = .ok (.iconst 1, 1) := by decide +kernel
theorem d39_35 : decode prog_50_method_22_code 35 = .ok (.isub, 1) := by decide +kernel
theorem d39_36 : decode prog_50_method_22_code 36 = .ok (.dup_x1, 1) := by decide +kernel
theorem d39_37 : decode prog_50_method_22_code 37 = .ok (.putfield 115, 3) := by decide +kernel
theorem d39_40 : decode prog_50_method_22_code 40 = .ok (.iaload, 1) := by decide +kernel
theorem d39_41 : decode prog_50_method_22_code 41 = .ok (.istore_n 3, 1) := by decide +kernel
theorem d39_42 : decode prog_50_method_22_code 42 = .ok (.aload_n 0, 1) := by decide +kernel
theorem d39_43 : decode prog_50_method_22_code 43 = .ok (.getfield 7, 3) := by decide +kernel
theorem d39_46 : decode prog_50_method_22_code 46 = .ok (.aload_n 0, 1) := by decide +kernel
theorem d39_47 : decode prog_50_method_22_code 47 = .ok (.dup, 1) := by decide +kernel
theorem d39_48 : decode prog_50_method_22_code 48 = .ok (.getfield 115, 3) := by decide +kernel
theorem d39_51 : decode prog_50_method_22_code 51 = .ok (.iconst 1, 1) := by decide +kernel
theorem d39_52 : decode prog_50_method_22_code 52 = .ok (.isub, 1) := by decide +kernel
theorem d39_53 : decode prog_50_method_22_code 53 = .ok (.dup_x1, 1) := by decide +kernel
theorem d39_54 : decode prog_50_method_22_code 54 = .ok (.putfield 115, 3) := by decide +kernel
theorem d39_57 : decode prog_50_method_22_code 57 = .ok (.iaload, 1) := by decide +kernel
theorem d39_58 : decode prog_50_method_22_code 58 = .ok (.istore 4, 2) := by decide +kernel
theorem d39_60 : decode prog_50_method_22_code 60 = .ok (.iload_n 2, 1) := by decide +kernel
theorem d39_61 : decode prog_50_method_22_code 61 = .ok (.iconst (-1), 1) := by decide +kernel
theorem d39_62 : decode prog_50_method_22_code 62 = .ok (.if_icmp .eq 13, 3) := by decide +kernel
theorem d39_75 : decode prog_50_method_22_code 75 = .ok (.aload_n 0, 1) := by decide +kernel
theorem d39_76 : decode prog_50_method_22_code 76 = .ok (.getfield 30, 3) := by decide +kernel
theorem d39_79 : decode prog_50_method_22_code 79 = .ok (.iload 4, 2) := by decide +kernel
theorem d39_81 : decode prog_50_method_22_code 81 = .ok (.aaload, 1) := by decide +kernel
theorem d39_82 : decode prog_50_method_22_code 82 = .ok (.iload_n 3, 1) := by decide +kernel
theorem d39_83 : decode prog_50_method_22_code 83 = .ok (.bipush 6, 2) := by decide +kernel
theorem d39_85 : decode prog_50_method_22_code 85 = .ok (.iushr, 1) := by decide +kernel
theorem d39_86 : decode prog_50_method_22_code 86 = .ok (.dup2, 1) := by decide +kernel
theorem d39_87 : decode prog_50_method_22_code 87 = .ok (.laload, 1) := by decide +kernel
theorem d39_88 : decode prog_50_method_22_code 88 = .ok (.lconst 1, 1) := by decide +kernel
theorem d39_89 : decode prog_50_method_22_code 89 = .ok (.iload_n 3, 1) := by decide +kernel
theorem d39_90 : decode prog_50_method_22_code 90 = .ok (.lshl, 1) := by decide +kernel
theorem d39_91 : decode prog_50_method_22_code 91 = .ok (.lor, 1) := by decide +kernel
theorem d39_92 : decode prog_50_method_22_code 92 = .ok (.lastore, 1) := by decide +kernel
theorem d39_93 : decode prog_50_method_22_code 93 = .ok (.aload_n 0, 1) := by decide +kernel
theorem d39_94 : decode prog_50_method_22_code 94 = .ok (.getfield 34, 3) := by decide +kernel
theorem d39_97 : decode prog_50_method_22_code 97 = .ok (.iload 4, 2) := by decide +kernel
theorem d39_99 : decode prog_50_method_22_code 99 = .ok (.dup2, 1) := by decide +kernel
theorem d39_100 : decode prog_50_method_22_code 100 = .ok (.iaload, 1) := by decide +kernel
theorem d39_101 : decode prog_50_method_22_code 101 = .ok (.iconst 1, 1) := by decide +kernel
theorem d39_102 : decode prog_50_method_22_code 102 = .ok (.iadd, 1) := by decide +kernel
theorem d39_103 : decode prog_50_method_22_code 103 = .ok (.iastore, 1) := by decide +kernel
theorem d39_104 : decode prog_50_method_22_code 104 = .ok (.aload_n 0, 1) := by decide +kernel
theorem d39_105 : decode prog_50_method_22_code 105 = .ok (.iload 4, 2) := by decide +kernel
theorem d39_107 : decode prog_50_method_22_code 107 = .ok (.invokevirtual 111, 3) := by decide +kernel
theorem d39_110 : decode prog_50_method_22_code 110 = .ok (.goto (-110), 3) := by decide +kernel
theorem d39_113 : decode prog_50_method_22_code 113 = .ok (.return_, 1) := by decide +kernel
theorem pn39 : plainFor (⟨"com/example/arcward/arcward/solver/Domains", "restore", "(I)V"⟩ : MethodName) = true := plainFor_of_name (by first | (simp [plainName, overriddenIn]; done) | decide +kernel)
theorem ef_rm39_1 (m : MethodId) (a1 : Addr) (tr : Addr) (bi : Addr) (sz : Addr) (rs : Addr) (ir : Addr) (w0 : Addr) (w1 : Addr) (rb : Addr) (ktr : ClassId) (kbi : ClassId) (ksz : ClassId) (krs : ClassId) (kir : ClassId) (kw0 : ClassId) (kw1 : ClassId) (q0 : Int64) (q1 : Int64) (qc : Int64) (s0 : Int32) (s1 : Int32) (u0 : Int32) (u1 : Int32) (eb0 : Int32) (eb1 : Int32) (tvs : List Value) (t : Nat) (rc : Int32) (xx : Int32) (aa : Int32) (mk : Int32) : entryFrame m #[(.ref a1), (.int mk)] 5 = mkF m 0 (oLRIu3 a1 mk) [] := by first | (simp [entryFrame, mkF, argsToLocals, Value.category]; done) | rfl
def Q39_1 (Z : State) (a1 : Addr) (tr : Addr) (bi : Addr) (sz : Addr) (rs : Addr) (ir : Addr) (w0 : Addr) (w1 : Addr) (rb : Addr) (ktr : ClassId) (kbi : ClassId) (ksz : ClassId) (krs : ClassId) (kir : ClassId) (kw0 : ClassId) (kw1 : ClassId) (q0 : Int64) (q1 : Int64) (qc : Int64) (s0 : Int32) (s1 : Int32) (u0 : Int32) (u1 : Int32) (eb0 : Int32) (eb1 : Int32) (tvs : List Value) (t : Nat) (rc : Int32) (xx : Int32) (aa : Int32) (mk : Int32) (h0 : Heap) (n0 : Nat) (v : Option Value) (h : Heap) (L : List Loc) : Prop := ∃ (q0n : Int64) (q1n : Int64) (qcn : Int64) (s0n : Int32) (s1n : Int32) (u0n : Int32) (u1n : Int32) (e0n : Int32) (e1n : Int32) (rcn : Int32), v = none ∧ Fr n0 L ∧ (Keep h0 h [a1, sz, rs, ir, w0, w1]) ∧ (Exa Z h a1 "com/example/arcward/arcward/solver/Domains") ∧ (Fld Z h a1 "com/example/arcward/arcward/solver/Domains" "trail" "[I" (.ref tr)) ∧ (Fld Z h a1 "com/example/arcward/arcward/solver/Domains" "removedBy" "[I" (.ref rb)) ∧ (Fld Z h a1 "com/example/arcward/arcward/solver/Domains" "bits" "[[J" (.ref bi)) ∧ (Fld Z h a1 "com/example/arcward/arcward/solver/Domains" "sizes" "[I" (.ref sz)) ∧ (Fld Z h a1 "com/example/arcward/arcward/solver/Domains" "resized" "[I" (.ref rs)) ∧ (Fld Z h a1 "com/example/arcward/arcward/solver/Domains" "inResized" "[Z" (.ref ir)) ∧ (Fld Z h a1 "com/example/arcward/arcward/solver/Domains" "resizedCount" "I" (.int rcn)) ∧ (Fld Z h a1 "com/example/arcward/arcward/solver/Domains" "trailLength" "I" (.int ((((Int32.ofNat (t + 3)) - (1 : Int32)) - (1 : Int32)) - (1 : Int32)))) ∧ (Arv Z h tr ktr .int (96 : Int32) tvs (.int 0)) ∧ (Arv Z h bi kbi (.array .long) (2 : Int32) [(.ref w0), (.ref w1)] .null) ∧ (Arv Z h sz ksz .int (2 : Int32) [(.int s0n), (.int s1n)] (.int 0)) ∧ (Arv Z h rs krs .int (2 : Int32) [(.int u0n), (.int u1n)] (.int 0)) ∧ (Arv Z h ir kir .boolean (2 : Int32) [(.int e0n), (.int e1n)] (.int 0)) ∧ (Arv Z h w0 kw0 .long (2 : Int32) [(.long q0n), (.long q1n)] (.long 0)) ∧ (Arv Z h w1 kw1 .long (1 : Int32) [(.long qcn)] (.long 0)) ∧ (own_M rcn e0n e1n) ∧ (own_on q0 q1 qc q0n q1n qcn xx aa)
set_option maxRecDepth 65536 in
set_option maxHeartbeats 40000000 in
theorem rm39_1 (l : Launch) (Z : State) (a0 : Array Value) (hw : ∀ d ∈ tables_1, d.before a0 Z = true) (ws : List Jvm.Cond) (a1 : Addr) (tr : Addr) (bi : Addr) (sz : Addr) (rs : Addr) (ir : Addr) (w0 : Addr) (w1 : Addr) (rb : Addr) (ktr : ClassId) (kbi : ClassId) (ksz : ClassId) (krs : ClassId) (kir : ClassId) (kw0 : ClassId) (kw1 : ClassId) (q0 : Int64) (q1 : Int64) (qc : Int64) (s0 : Int32) (s1 : Int32) (u0 : Int32) (u1 : Int32) (eb0 : Int32) (eb1 : Int32) (tvs : List Value) (t : Nat) (rc : Int32) (xx : Int32) (aa : Int32) (mk : Int32) (h0 : Heap) (n0 : Nat) (Z0 : n0 ≤ h0.size) (F0 : Exa Z h0 a1 "com/example/arcward/arcward/solver/Domains") (F1 : Fld Z h0 a1 "com/example/arcward/arcward/solver/Domains" "trail" "[I" (.ref tr)) (F2 : Fld Z h0 a1 "com/example/arcward/arcward/solver/Domains" "removedBy" "[I" (.ref rb)) (F3 : Fld Z h0 a1 "com/example/arcward/arcward/solver/Domains" "bits" "[[J" (.ref bi)) (F4 : Fld Z h0 a1 "com/example/arcward/arcward/solver/Domains" "sizes" "[I" (.ref sz)) (F5 : Fld Z h0 a1 "com/example/arcward/arcward/solver/Domains" "resized" "[I" (.ref rs)) (F6 : Fld Z h0 a1 "com/example/arcward/arcward/solver/Domains" "inResized" "[Z" (.ref ir)) (F7 : Fld Z h0 a1 "com/example/arcward/arcward/solver/Domains" "resizedCount" "I" (.int rc)) (F8 : Fld Z h0 a1 "com/example/arcward/arcward/solver/Domains" "trailLength" "I" (.int (Int32.ofNat (t + 3)))) (F9 : Arv Z h0 tr ktr .int (96 : Int32) tvs (.int 0)) (F10 : Arv Z h0 bi kbi (.array .long) (2 : Int32) [(.ref w0), (.ref w1)] .null) (F11 : Arv Z h0 sz ksz .int (2 : Int32) [(.int s0), (.int s1)] (.int 0)) (F12 : Arv Z h0 rs krs .int (2 : Int32) [(.int u0), (.int u1)] (.int 0)) (F13 : Arv Z h0 ir kir .boolean (2 : Int32) [(.int eb0), (.int eb1)] (.int 0)) (F14 : Arv Z h0 w0 kw0 .long (2 : Int32) [(.long q0), (.long q1)] (.long 0)) (F15 : Arv Z h0 w1 kw1 .long (1 : Int32) [(.long qc)] (.long 0)) (ND : own_ND a1 tr bi sz rs ir w0 w1) (GE : own_GE n0 a1 tr bi sz rs ir w0 w1) (HM : own_M rc eb0 eb1) (ht : t ≤ 20) (HT : own_T tvs t xx aa) (hd : own_dom xx aa) (hmk : mk = Int32.ofNat t) :
  MetFree l oM11 (head1 (Jvm.Cond.code oM11 prog_50_method_22_code 5 none :: ws) ({ frames := 1, cells := 0, slots := 0, locals := 13 } : Room)) (fun a U => a = #[(.ref a1), (.int mk)] ∧ Z.Warmed39 U.vm ∧ U.heap = h0) (fun _ _ _ _ _ => True) (fun _ U o U' => ∃ v L, o = .returned v ∧ Q39_1 Z a1 tr bi sz rs ir w0 w1 rb ktr kbi ksz krs kir kw0 kw1 q0 q1 qc s0 s1 u0 u1 eb0 eb1 tvs t rc xx aa mk h0 n0 v U'.heap L ∧ FrameEnd U o U' L ({ frames := 1, cells := 0, slots := 0, locals := 13 } : Room).cells ({ frames := 1, cells := 0, slots := 0, locals := 13 } : Room).slots) := by
 refine MetFree.of_bodySF pn39 hisR ?_
 intro p e s m args below meth c s₁ Bd hml0 hP hK
 obtain ⟨rfl, hZ, hh⟩ := hP
 have hx := Bd.exec
 have hby := Bd.bytes
 have hml : c.maxLocals = 5 := hml0
 have hown : s.vm.findClass "com/example/arcward/arcward/solver/Domains" = some m.cls := findClass_of_methodNamed Bd.named
 have hnm := (name_of_methodNamed Bd.named Bd.method).1
 have X0 : Stand p l e ({ frames := 1, cells := 0, slots := 0, locals := 13 } : Room) s m #[(.ref a1), (.int mk)] below meth c s₁ [] 0 0 := Stand.of_body Bd
 have e0 : s₁.heap = h0 := by rw [← hh, Bd.state]; rfl
 have N0 := Fr.nil n0
 have p0 : GF p e below (s₁.setTop (entryFrame m #[(.ref a1), (.int mk)] 5)) s₁ m 0 (oLRIu3 a1 mk) [] := fun t_ k_ => castTop (ef_rm39_1 m a1 tr bi sz rs ir w0 w1 rb ktr kbi ksz krs kir kw0 kw1 q0 q1 qc s0 s1 u0 u1 eb0 eb1 tvs t rc xx aa mk) k_
 have p101 : GF p e below _ s₁ m 1 (oLRIu3 a1 mk) [(.ref a1)] := fun t_ k_ => p0 t_ (by
  refine XS.aloadN X0.here hx rfl (hb hby d39_0) rfl rfl ?_
  exact k_)
 obtain ⟨T102, X102, e102, st102⟩ := getF X0 hx hZ hown (host := "") (Or.inl (own_w hw 307 rfl)) Via.refl e0 F8 (g := (mkF m 1 (oLRIu3 a1 mk) [(.ref a1)])) rfl rfl (hb hby d39_1)
 have p103 : GF p e below _ T102 m 5 (oLRIu3 a1 mk) [(.int mk), (.int (Int32.ofNat (t + 3)))] := fun t_ k_ => (gc p101 st102) t_ (by
  refine XS.iloadN X102.here hx rfl (hb hby d39_4) rfl ?_
  exact k_)
 have c104 : (mk < (Int32.ofNat (t + 3))) := own_mlt ht hmk
 have p105 : GF p e below _ T102 m 9 (oLRIu3 a1 mk) [(.ref a1)] := fun t_ k_ => p103 t_ (by
  refine XS.icmpNo X102.here hx rfl (hb hby d39_5) rfl (tlt c104).2.2.2 ?_
  refine XS.aloadN X102.here hx rfl (hb hby d39_8) rfl rfl ?_
  exact k_)
 obtain ⟨T106, X106, e106, st106⟩ := getF X102 hx hZ hown (host := "") (Or.inl (own_w hw 264 rfl)) Via.refl e102 F1 (g := (mkF m 9 (oLRIu3 a1 mk) [(.ref a1)])) rfl rfl (hb hby d39_9)
 have p107 : GF p e below _ T106 m 14 (oLRIu3 a1 mk) [(.ref a1), (.ref a1), (.ref tr)] := fun t_ k_ => (gc p105 st106) t_ (by
  refine XS.aloadN X106.here hx rfl (hb hby d39_12) rfl rfl ?_
  refine XS.dup X106.here hx rfl (hb hby d39_13) rfl rfl ?_
  exact k_)
 obtain ⟨T108, X108, e108, st108⟩ := getF X106 hx hZ hown (host := "") (Or.inl (own_w hw 307 rfl)) Via.refl e106 F8 (g := (mkF m 14 (oLRIu3 a1 mk) [(.ref a1), (.ref a1), (.ref tr)])) rfl rfl (hb hby d39_14)
 have p109 : GF p e below _ T108 m 20 (oLRIu3 a1 mk) [(.int ((Int32.ofNat (t + 3)) - (1 : Int32))), (.ref a1), (.int ((Int32.ofNat (t + 3)) - (1 : Int32))), (.ref tr)] := fun t_ k_ => (gc p107 st108) t_ (by
  refine XS.iconst X108.here hx rfl (hb hby d39_17) ?_
  refine XS.isub X108.here hx rfl (hb hby d39_18) rfl ?_
  refine XS.dupX1 X108.here hx rfl (hb hby d39_19) rfl rfl rfl ?_
  exact k_)
 obtain ⟨T110, h110, X110, e110, W110, st110⟩ := putF X108 hx hZ hown (host := "") (Or.inl (own_w hw 307 rfl)) Via.refl e108 F8 F0 (Or.inl (own_w hw 308 rfl)) (own_w hw 90 rfl) (ty := .int) (by decide) rfl rfl (g := (mkF m 20 (oLRIu3 a1 mk) [(.int ((Int32.ofNat (t + 3)) - (1 : Int32))), (.ref a1), (.int ((Int32.ofNat (t + 3)) - (1 : Int32))), (.ref tr)])) rfl rfl (hb hby d39_20)
 have K111 : Keep h0 h110 [a1, sz, rs, ir, w0, w1] := (Keep.refl h0 [a1, sz, rs, ir, w0, w1]).wr W110 (Or.inl (List.mem_of_getElem? (i := 0) rfl))
 have N110 := Fr.snoc X110 N0 GE.1
 have F110 : Fld Z h110 a1 "com/example/arcward/arcward/solver/Domains" "trailLength" "I" (.int ((Int32.ofNat (t + 3)) - (1 : Int32))) := F8.same W110
 have f113 := (F9.other W110 (Ne.symm ND.1))
 obtain ⟨cl112, Ar112, q112, S112, Ng112, H112, G112⟩ := id f113
 have hin112 := inb_of S112 (j := ((Int32.ofNat (t + 3)) - (1 : Int32))) (own_j1 ht).1
 have hat112 := H112.at (v := (.int (-1))) hin112 (by rw [(own_j1 ht).2]; exact HT.2.2)
 have p114 : GF p e below _ T110 m 26 (oLRI2u2 a1 mk (-1)) [(.ref a1)] := fun t_ k_ => (gc p109 st110) t_ (by
  refine X110.iaload hx (j := ((Int32.ofNat (t + 3)) - (1 : Int32))) (v := (.int (-1))) (by rw [e110]; exact Ar112.1) (State.isArrayOf_alike hZ.alike Ar112.2.1) Ar112.2.2 hin112 hat112 (g := (mkF m 23 (oLRIu3 a1 mk) [(.int ((Int32.ofNat (t + 3)) - (1 : Int32))), (.ref tr)])) rfl rfl (hb hby d39_23) _ ?_
  refine XS.istoreN X110.here hx rfl (hb hby d39_24) rfl (l' := (oLRI2u2 a1 mk (-1))) rfl ?_
  refine XS.aloadN X110.here hx rfl (hb hby d39_25) rfl rfl ?_
  exact k_)
 have f115 := (F1.other W110 (Or.inr (slot_ne (Or.inl (own_w hw 265 rfl)) (Or.inl (own_w hw 308 rfl)) (by decide) (t := (.array .int)) (t' := .int) (by decide) (by decide))))
 obtain ⟨T116, X116, e116, st116⟩ := getF X110 hx hZ hown (host := "") (Or.inl (own_w hw 264 rfl)) Via.refl e110 f115 (g := (mkF m 26 (oLRI2u2 a1 mk (-1)) [(.ref a1)])) rfl rfl (hb hby d39_26)
 have p117 : GF p e below _ T116 m 31 (oLRI2u2 a1 mk (-1)) [(.ref a1), (.ref a1), (.ref tr)] := fun t_ k_ => (gc p114 st116) t_ (by
  refine XS.aloadN X116.here hx rfl (hb hby d39_29) rfl rfl ?_
  refine XS.dup X116.here hx rfl (hb hby d39_30) rfl rfl ?_
  exact k_)
 obtain ⟨T118, X118, e118, st118⟩ := getF X116 hx hZ hown (host := "") (Or.inl (own_w hw 307 rfl)) Via.refl e116 F110 (g := (mkF m 31 (oLRI2u2 a1 mk (-1)) [(.ref a1), (.ref a1), (.ref tr)])) rfl rfl (hb hby d39_31)
 have p119 : GF p e below _ T118 m 37 (oLRI2u2 a1 mk (-1)) [(.int (((Int32.ofNat (t + 3)) - (1 : Int32)) - (1 : Int32))), (.ref a1), (.int (((Int32.ofNat (t + 3)) - (1 : Int32)) - (1 : Int32))), (.ref tr)] := fun t_ k_ => (gc p117 st118) t_ (by
  refine XS.iconst X118.here hx rfl (hb hby d39_34) ?_
  refine XS.isub X118.here hx rfl (hb hby d39_35) rfl ?_
  refine XS.dupX1 X118.here hx rfl (hb hby d39_36) rfl rfl rfl ?_
  exact k_)
 have f120 := (F0.wr W110)
 obtain ⟨T121, h121, X121, e121, W121, st121⟩ := putF X118 hx hZ hown (host := "") (Or.inl (own_w hw 307 rfl)) Via.refl e118 F110 f120 (Or.inl (own_w hw 308 rfl)) (own_w hw 90 rfl) (ty := .int) (by decide) rfl rfl (g := (mkF m 37 (oLRI2u2 a1 mk (-1)) [(.int (((Int32.ofNat (t + 3)) - (1 : Int32)) - (1 : Int32))), (.ref a1), (.int (((Int32.ofNat (t + 3)) - (1 : Int32)) - (1 : Int32))), (.ref tr)])) rfl rfl (hb hby d39_37)
 have K122 : Keep h0 h121 [a1, sz, rs, ir, w0, w1] := K111.wr W121 (Or.inl (List.mem_of_getElem? (i := 0) rfl))
 have N121 := Fr.snoc X121 N110 GE.1
 have F121 : Fld Z h121 a1 "com/example/arcward/arcward/solver/Domains" "trailLength" "I" (.int (((Int32.ofNat (t + 3)) - (1 : Int32)) - (1 : Int32))) := F110.same W121
 have f124 := (f113.other W121 (Ne.symm ND.1))
 obtain ⟨cl123, Ar123, q123, S123, Ng123, H123, G123⟩ := id f124
 have hin123 := inb_of S123 (j := (((Int32.ofNat (t + 3)) - (1 : Int32)) - (1 : Int32))) (own_j2 ht).1
 have hat123 := H123.at (v := (.int aa)) hin123 (by rw [(own_j2 ht).2]; exact HT.2.1)
 have p125 : GF p e below _ T121 m 43 (oLRI3u a1 mk (-1) aa) [(.ref a1)] := fun t_ k_ => (gc p119 st121) t_ (by
  refine X121.iaload hx (j := (((Int32.ofNat (t + 3)) - (1 : Int32)) - (1 : Int32))) (v := (.int aa)) (by rw [e121]; exact Ar123.1) (State.isArrayOf_alike hZ.alike Ar123.2.1) Ar123.2.2 hin123 hat123 (g := (mkF m 40 (oLRI2u2 a1 mk (-1)) [(.int (((Int32.ofNat (t + 3)) - (1 : Int32)) - (1 : Int32))), (.ref tr)])) rfl rfl (hb hby d39_40) _ ?_
  refine XS.istoreN X121.here hx rfl (hb hby d39_41) rfl (l' := (oLRI3u a1 mk (-1) aa)) rfl ?_
  refine XS.aloadN X121.here hx rfl (hb hby d39_42) rfl rfl ?_
  exact k_)
 have f126 := (f115.other W121 (Or.inr (slot_ne (Or.inl (own_w hw 265 rfl)) (Or.inl (own_w hw 308 rfl)) (by decide) (t := (.array .int)) (t' := .int) (by decide) (by decide))))
 obtain ⟨T127, X127, e127, st127⟩ := getF X121 hx hZ hown (host := "") (Or.inl (own_w hw 264 rfl)) Via.refl e121 f126 (g := (mkF m 43 (oLRI3u a1 mk (-1) aa) [(.ref a1)])) rfl rfl (hb hby d39_43)
 have p128 : GF p e below _ T127 m 48 (oLRI3u a1 mk (-1) aa) [(.ref a1), (.ref a1), (.ref tr)] := fun t_ k_ => (gc p125 st127) t_ (by
  refine XS.aloadN X127.here hx rfl (hb hby d39_46) rfl rfl ?_
  refine XS.dup X127.here hx rfl (hb hby d39_47) rfl rfl ?_
  exact k_)
 obtain ⟨T129, X129, e129, st129⟩ := getF X127 hx hZ hown (host := "") (Or.inl (own_w hw 307 rfl)) Via.refl e127 F121 (g := (mkF m 48 (oLRI3u a1 mk (-1) aa) [(.ref a1), (.ref a1), (.ref tr)])) rfl rfl (hb hby d39_48)
 have p130 : GF p e below _ T129 m 54 (oLRI3u a1 mk (-1) aa) [(.int ((((Int32.ofNat (t + 3)) - (1 : Int32)) - (1 : Int32)) - (1 : Int32))), (.ref a1), (.int ((((Int32.ofNat (t + 3)) - (1 : Int32)) - (1 : Int32)) - (1 : Int32))), (.ref tr)] := fun t_ k_ => (gc p128 st129) t_ (by
  refine XS.iconst X129.here hx rfl (hb hby d39_51) ?_
  refine XS.isub X129.here hx rfl (hb hby d39_52) rfl ?_
  refine XS.dupX1 X129.here hx rfl (hb hby d39_53) rfl rfl rfl ?_
  exact k_)
 have f131 := (f120.wr W121)
 obtain ⟨T132, h132, X132, e132, W132, st132⟩ := putF X129 hx hZ hown (host := "") (Or.inl (own_w hw 307 rfl)) Via.refl e129 F121 f131 (Or.inl (own_w hw 308 rfl)) (own_w hw 90 rfl) (ty := .int) (by decide) rfl rfl (g := (mkF m 54 (oLRI3u a1 mk (-1) aa) [(.int ((((Int32.ofNat (t + 3)) - (1 : Int32)) - (1 : Int32)) - (1 : Int32))), (.ref a1), (.int ((((Int32.ofNat (t + 3)) - (1 : Int32)) - (1 : Int32)) - (1 : Int32))), (.ref tr)])) rfl rfl (hb hby d39_54)
 have K133 : Keep h0 h132 [a1, sz, rs, ir, w0, w1] := K122.wr W132 (Or.inl (List.mem_of_getElem? (i := 0) rfl))
 have N132 := Fr.snoc X132 N121 GE.1
 have F132 : Fld Z h132 a1 "com/example/arcward/arcward/solver/Domains" "trailLength" "I" (.int ((((Int32.ofNat (t + 3)) - (1 : Int32)) - (1 : Int32)) - (1 : Int32))) := F121.same W132
 have f135 := (f124.other W132 (Ne.symm ND.1))
 obtain ⟨cl134, Ar134, q134, S134, Ng134, H134, G134⟩ := id f135
 have hin134 := inb_of S134 (j := ((((Int32.ofNat (t + 3)) - (1 : Int32)) - (1 : Int32)) - (1 : Int32))) (own_j3 ht).1
 have hat134 := H134.at (v := (.int xx)) hin134 (by rw [(own_j3 ht).2]; exact HT.1)
 have p136 : GF p e below _ T132 m 75 (oLRI4 a1 mk (-1) aa xx) [] := fun t_ k_ => (gc p130 st132) t_ (by
  refine X132.iaload hx (j := ((((Int32.ofNat (t + 3)) - (1 : Int32)) - (1 : Int32)) - (1 : Int32))) (v := (.int xx)) (by rw [e132]; exact Ar134.1) (State.isArrayOf_alike hZ.alike Ar134.2.1) Ar134.2.2 hin134 hat134 (g := (mkF m 57 (oLRI3u a1 mk (-1) aa) [(.int ((((Int32.ofNat (t + 3)) - (1 : Int32)) - (1 : Int32)) - (1 : Int32))), (.ref tr)])) rfl rfl (hb hby d39_57) _ ?_
  refine XS.istore X132.here hx rfl (hb hby d39_58) rfl (l' := (oLRI4 a1 mk (-1) aa xx)) rfl ?_
  refine XS.iloadN X132.here hx rfl (hb hby d39_60) rfl ?_
  refine XS.iconst X132.here hx rfl (hb hby d39_61) ?_
  refine XS.icmpYes X132.here hx rfl (pc0 := 62) (pc' := 75) rfl (hb hby d39_62) rfl (teq (by decide : ((-1 : Int32) = (-1 : Int32)))).1 (by decide) (by decide) ?_
  exact k_)
 obtain ⟨T137, L137, h137, qa137, qb137, qc137, sa137, sb137, X137, e137, N137, K137, J137_0, J137_1, J137_2, J137_3, J137_4, J137_5, J137_6, J137_7, J137_8, J137_9, J137_10, J137_11, J137_12, J137_13, J137_14, J137_15, R137, p137⟩ : ∃ (T137 : State) (L137 : List Loc) (h137 : Heap) (qa137 qb137 qc137 : Int64) (sa137 sb137 : Int32), Stand p l e ({ frames := 1, cells := 0, slots := 0, locals := 13 } : Room) s m #[(.ref a1), (.int mk)] below meth c T137 L137 0 0 ∧ T137.heap = h137 ∧ Fr n0 L137 ∧ Keep h0 h137 [a1, sz, rs, ir, w0, w1] ∧ Exa Z h137 a1 "com/example/arcward/arcward/solver/Domains" ∧ Fld Z h137 a1 "com/example/arcward/arcward/solver/Domains" "trail" "[I" (.ref tr) ∧ Fld Z h137 a1 "com/example/arcward/arcward/solver/Domains" "removedBy" "[I" (.ref rb) ∧ Fld Z h137 a1 "com/example/arcward/arcward/solver/Domains" "bits" "[[J" (.ref bi) ∧ Fld Z h137 a1 "com/example/arcward/arcward/solver/Domains" "sizes" "[I" (.ref sz) ∧ Fld Z h137 a1 "com/example/arcward/arcward/solver/Domains" "resized" "[I" (.ref rs) ∧ Fld Z h137 a1 "com/example/arcward/arcward/solver/Domains" "inResized" "[Z" (.ref ir) ∧ Fld Z h137 a1 "com/example/arcward/arcward/solver/Domains" "resizedCount" "I" (.int rc) ∧ Fld Z h137 a1 "com/example/arcward/arcward/solver/Domains" "trailLength" "I" (.int ((((Int32.ofNat (t + 3)) - (1 : Int32)) - (1 : Int32)) - (1 : Int32))) ∧ Arv Z h137 tr ktr .int (96 : Int32) tvs (.int 0) ∧ Arv Z h137 bi kbi (.array .long) (2 : Int32) [(.ref w0), (.ref w1)] .null ∧ Arv Z h137 sz ksz .int (2 : Int32) [(.int sa137), (.int sb137)] (.int 0) ∧ Arv Z h137 rs krs .int (2 : Int32) [(.int u0), (.int u1)] (.int 0) ∧ Arv Z h137 ir kir .boolean (2 : Int32) [(.int eb0), (.int eb1)] (.int 0) ∧ Arv Z h137 w0 kw0 .long (2 : Int32) [(.long qa137), (.long qb137)] (.long 0) ∧ Arv Z h137 w1 kw1 .long (1 : Int32) [(.long qc137)] (.long 0) ∧ own_on q0 q1 qc qa137 qb137 qc137 xx aa ∧ GF p e below (s₁.setTop (entryFrame m #[(.ref a1), (.int mk)] 5)) T137 m 104 (oLRI4 a1 mk (-1) aa xx) [] := by
  rcases id hd with ⟨hx0, kk, hk, hak⟩ | ⟨hx0, kk, hk1, hk, hak⟩ | ⟨hx0, kk, hk, hak⟩
  ·have p138 : GF p e below _ T132 m 75 (oLRI4 a1 mk (-1) (Int32.ofNat kk) 0) [] := goF p136 (by rw [hx0, hak])
   have p139 : GF p e below _ T132 m 76 (oLRI4 a1 mk (-1) (Int32.ofNat kk) 0) [(.ref a1)] := fun t_ k_ => p138 t_ (by
    refine XS.aloadN X132.here hx rfl (hb hby d39_75) rfl rfl ?_
    exact k_)
   have f140 := (((F3.other W110 (Or.inr (slot_ne (Or.inr (own_w hw 277 rfl)) (Or.inl (own_w hw 308 rfl)) (by decide) (t := (.array (.array .long))) (t' := .int) (by decide) (by decide)))).other W121 (Or.inr (slot_ne (Or.inr (own_w hw 277 rfl)) (Or.inl (own_w hw 308 rfl)) (by decide) (t := (.array (.array .long))) (t' := .int) (by decide) (by decide)))).other W132 (Or.inr (slot_ne (Or.inr (own_w hw 277 rfl)) (Or.inl (own_w hw 308 rfl)) (by decide) (t := (.array (.array .long))) (t' := .int) (by decide) (by decide))))
   obtain ⟨T141, X141, e141, st141⟩ := getF X132 hx hZ hown (host := "") (Or.inl (own_w hw 276 rfl)) Via.refl e132 f140 (g := (mkF m 76 (oLRI4 a1 mk (-1) (Int32.ofNat kk) 0) [(.ref a1)])) rfl rfl (hb hby d39_76)
   have p142 : GF p e below _ T141 m 81 (oLRI4 a1 mk (-1) (Int32.ofNat kk) 0) [(.int 0), (.ref bi)] := fun t_ k_ => (gc p139 st141) t_ (by
    refine XS.iload X141.here hx rfl (hb hby d39_79) rfl ?_
    exact k_)
   have f144 := (((F10.other W110 (Ne.symm ND.2.1)).other W121 (Ne.symm ND.2.1)).other W132 (Ne.symm ND.2.1))
   obtain ⟨cl143, Ar143, q143, S143, Ng143, H143, G143⟩ := id f144
   have hin143 := inb_of S143 (j := (0 : Int32)) ⟨by decide, by decide⟩
   have hat143 := H143.at (v := (.ref w0)) hin143 rfl
   have p145 : GF p e below _ T141 m 86 (oLRI4 a1 mk (-1) (Int32.ofNat kk) 0) [(.int (((Int32.ofNat kk).toUInt32 >>> (6 : UInt32)).toInt32)), (.ref w0)] := fun t_ k_ => p142 t_ (by
    refine X141.aaload hx (j := (0 : Int32)) (v := (.ref w0)) (by rw [e141]; exact Ar143.1) (State.isArrayOf_alike hZ.alike Ar143.2.1) rfl Ar143.2.2 hin143 hat143 (g := (mkF m 81 (oLRI4 a1 mk (-1) (Int32.ofNat kk) 0) [(.int 0), (.ref bi)])) rfl rfl (hb hby d39_81) _ ?_
    refine XS.iloadN X141.here hx rfl (hb hby d39_82) rfl ?_
    refine XS.bipush X141.here hx rfl (hb hby d39_83) ?_
    refine XS.iushr X141.here hx rfl (hb hby d39_85) rfl ?_
    exact k_)
   have p146 : GF p e below _ T141 m 86 (oLRI4 a1 mk (-1) (Int32.ofNat kk) 0) [(.int 0), (.ref w0)] := goF p145 (by rw [show (((Int32.ofNat kk).toUInt32 >>> (6 : UInt32)).toInt32) = (0 : Int32) from (own_q0 hk)])
   have p147 : GF p e below _ T141 m 87 (oLRI4 a1 mk (-1) (Int32.ofNat kk) 0) [(.int 0), (.ref w0), (.int 0), (.ref w0)] := fun t_ k_ => p146 t_ (by
    jvm_step X141.here [X141.here.top, hx, (hb hby d39_86), Value.category]
    show Steps p.tables e below (T141.setTop (mkF m 87 (oLRI4 a1 mk (-1) (Int32.ofNat kk) 0) [(.int 0), (.ref w0), (.int 0), (.ref w0)])) _
    exact k_)
   have f149 := (((F14.other W110 (Ne.symm ND.2.2.2.2.2.1)).other W121 (Ne.symm ND.2.2.2.2.2.1)).other W132 (Ne.symm ND.2.2.2.2.2.1))
   obtain ⟨cl148, Ar148, q148, S148, Ng148, H148, G148⟩ := id f149
   have hin148 := inb_of S148 (j := (0 : Int32)) ⟨by decide, by decide⟩
   have hat148 := H148.at (v := (.long q0)) hin148 rfl
   have p150 : GF p e below _ T141 m 92 (oLRI4 a1 mk (-1) (Int32.ofNat kk) 0) [(.long (q0 ||| ((1 : Int64) <<< ((Int32.ofNat kk) &&& 63).toInt64))), (.int 0), (.ref w0)] := fun t_ k_ => p147 t_ (by
    refine X141.laload hx (j := (0 : Int32)) (v := (.long q0)) (by rw [e141]; exact Ar148.1) (State.isArrayOf_alike hZ.alike Ar148.2.1) Ar148.2.2 hin148 hat148 (g := (mkF m 87 (oLRI4 a1 mk (-1) (Int32.ofNat kk) 0) [(.int 0), (.ref w0), (.int 0), (.ref w0)])) rfl rfl (hb hby d39_87) _ ?_
    refine XS.lconst X141.here hx rfl (hb hby d39_88) ?_
    refine XS.iloadN X141.here hx rfl (hb hby d39_89) rfl ?_
    refine XS.lshl X141.here hx rfl (hb hby d39_90) rfl ?_
    refine XS.lor X141.here hx rfl (hb hby d39_91) rfl ?_
    exact k_)
   obtain ⟨cl151, Ar151, q151, S151, Ng151, H151, G151⟩ := id f149
   have hin151 := inb_of S151 (j := (0 : Int32)) ⟨by decide, by decide⟩
   obtain ⟨T151, h151, X151, e151, W151, st151⟩ := stJ X141 hx hZ e141 Ar151 (j := (0 : Int32)) hin151 (g := (mkF m 92 (oLRI4 a1 mk (-1) (Int32.ofNat kk) 0) [(.long (q0 ||| ((1 : Int64) <<< ((Int32.ofNat kk) &&& 63).toInt64))), (.int 0), (.ref w0)])) rfl rfl (hb hby d39_92)
   have K152 : Keep h0 h151 [a1, sz, rs, ir, w0, w1] := K133.wr W151 (Or.inl (List.mem_of_getElem? (i := 4) rfl))
   have N151 := Fr.snoc X151 N132 GE.2.2.2.2.2.2.1
   have V151 : Arv Z h151 w0 kw0 .long (2 : Int32) [(.long (q0 ||| ((1 : Int64) <<< ((Int32.ofNat kk) &&& 63).toInt64))), (.long q1)] (.long 0) := Arv.set Ar151 q151 S151 Ng151 H151 G151 rfl W151 0 rfl (Nat.le_of_ble_eq_true rfl)
   have p153 : GF p e below _ T151 m 94 (oLRI4 a1 mk (-1) (Int32.ofNat kk) 0) [(.ref a1)] := fun t_ k_ => (gc p150 st151) t_ (by
    refine XS.aloadN X151.here hx rfl (hb hby d39_93) rfl rfl ?_
    exact k_)
   have f154 := ((((F4.other W110 (Or.inr (slot_ne (Or.inr (own_w hw 279 rfl)) (Or.inl (own_w hw 308 rfl)) (by decide) (t := (.array .int)) (t' := .int) (by decide) (by decide)))).other W121 (Or.inr (slot_ne (Or.inr (own_w hw 279 rfl)) (Or.inl (own_w hw 308 rfl)) (by decide) (t := (.array .int)) (t' := .int) (by decide) (by decide)))).other W132 (Or.inr (slot_ne (Or.inr (own_w hw 279 rfl)) (Or.inl (own_w hw 308 rfl)) (by decide) (t := (.array .int)) (t' := .int) (by decide) (by decide)))).other W151 (Or.inl ND.2.2.2.2.2.1))
   obtain ⟨T155, X155, e155, st155⟩ := getF X151 hx hZ hown (host := "") (Or.inl (own_w hw 278 rfl)) Via.refl e151 f154 (g := (mkF m 94 (oLRI4 a1 mk (-1) (Int32.ofNat kk) 0) [(.ref a1)])) rfl rfl (hb hby d39_94)
   have p156 : GF p e below _ T155 m 100 (oLRI4 a1 mk (-1) (Int32.ofNat kk) 0) [(.int 0), (.ref sz), (.int 0), (.ref sz)] := fun t_ k_ => (gc p153 st155) t_ (by
    refine XS.iload X155.here hx rfl (hb hby d39_97) rfl ?_
    jvm_step X155.here [X155.here.top, hx, (hb hby d39_99), Value.category]
    show Steps p.tables e below (T155.setTop (mkF m 100 (oLRI4 a1 mk (-1) (Int32.ofNat kk) 0) [(.int 0), (.ref sz), (.int 0), (.ref sz)])) _
    exact k_)
   have f158 := ((((F11.other W110 (Ne.symm ND.2.2.1)).other W121 (Ne.symm ND.2.2.1)).other W132 (Ne.symm ND.2.2.1)).other W151 ND.2.2.2.2.2.2.2.2.2.2.2.2.2.2.2.2.2.2.2.2.1)
   obtain ⟨cl157, Ar157, q157, S157, Ng157, H157, G157⟩ := id f158
   have hin157 := inb_of S157 (j := (0 : Int32)) ⟨by decide, by decide⟩
   have hat157 := H157.at (v := (.int s0)) hin157 rfl
   have p159 : GF p e below _ T155 m 103 (oLRI4 a1 mk (-1) (Int32.ofNat kk) 0) [(.int (s0 + (1 : Int32))), (.int 0), (.ref sz)] := fun t_ k_ => p156 t_ (by
    refine X155.iaload hx (j := (0 : Int32)) (v := (.int s0)) (by rw [e155]; exact Ar157.1) (State.isArrayOf_alike hZ.alike Ar157.2.1) Ar157.2.2 hin157 hat157 (g := (mkF m 100 (oLRI4 a1 mk (-1) (Int32.ofNat kk) 0) [(.int 0), (.ref sz), (.int 0), (.ref sz)])) rfl rfl (hb hby d39_100) _ ?_
    refine XS.iconst X155.here hx rfl (hb hby d39_101) ?_
    refine XS.iadd X155.here hx rfl (hb hby d39_102) rfl ?_
    exact k_)
   obtain ⟨cl160, Ar160, q160, S160, Ng160, H160, G160⟩ := id f158
   have hin160 := inb_of S160 (j := (0 : Int32)) ⟨by decide, by decide⟩
   obtain ⟨T160, h160, X160, e160, W160, st160⟩ := stI X155 hx hZ e155 Ar160 (j := (0 : Int32)) hin160 (g := (mkF m 103 (oLRI4 a1 mk (-1) (Int32.ofNat kk) 0) [(.int (s0 + (1 : Int32))), (.int 0), (.ref sz)])) rfl rfl (hb hby d39_103)
   have K161 : Keep h0 h160 [a1, sz, rs, ir, w0, w1] := K152.wr W160 (Or.inl (List.mem_of_getElem? (i := 1) rfl))
   have N160 := Fr.snoc X160 N151 GE.2.2.2.1
   have V160 : Arv Z h160 sz ksz .int (2 : Int32) [(.int (s0 + (1 : Int32))), (.int s1)] (.int 0) := Arv.set Ar160 q160 S160 Ng160 H160 G160 rfl W160 0 rfl (Nat.le_of_ble_eq_true rfl)
   have p162 : GF p e below _ T160 m 104 (oLRI4 a1 mk (-1) aa xx) [] := goF (gc p159 st160) (by rw [hx0, hak])
   have f163 := (((f131.wr W132).wr W151).wr W160)
   have f164 := (((f126.other W132 (Or.inr (slot_ne (Or.inl (own_w hw 265 rfl)) (Or.inl (own_w hw 308 rfl)) (by decide) (t := (.array .int)) (t' := .int) (by decide) (by decide)))).other W151 (Or.inl ND.2.2.2.2.2.1)).other W160 (Or.inl ND.2.2.1))
   have f165 := (((((F2.other W110 (Or.inr (slot_ne (Or.inr (own_w hw 267 rfl)) (Or.inl (own_w hw 308 rfl)) (by decide) (t := (.array .int)) (t' := .int) (by decide) (by decide)))).other W121 (Or.inr (slot_ne (Or.inr (own_w hw 267 rfl)) (Or.inl (own_w hw 308 rfl)) (by decide) (t := (.array .int)) (t' := .int) (by decide) (by decide)))).other W132 (Or.inr (slot_ne (Or.inr (own_w hw 267 rfl)) (Or.inl (own_w hw 308 rfl)) (by decide) (t := (.array .int)) (t' := .int) (by decide) (by decide)))).other W151 (Or.inl ND.2.2.2.2.2.1)).other W160 (Or.inl ND.2.2.1))
   have f166 := ((f140.other W151 (Or.inl ND.2.2.2.2.2.1)).other W160 (Or.inl ND.2.2.1))
   have f167 := (f154.other W160 (Or.inl ND.2.2.1))
   have f168 := (((((F5.other W110 (Or.inr (slot_ne (Or.inr (own_w hw 281 rfl)) (Or.inl (own_w hw 308 rfl)) (by decide) (t := (.array .int)) (t' := .int) (by decide) (by decide)))).other W121 (Or.inr (slot_ne (Or.inr (own_w hw 281 rfl)) (Or.inl (own_w hw 308 rfl)) (by decide) (t := (.array .int)) (t' := .int) (by decide) (by decide)))).other W132 (Or.inr (slot_ne (Or.inr (own_w hw 281 rfl)) (Or.inl (own_w hw 308 rfl)) (by decide) (t := (.array .int)) (t' := .int) (by decide) (by decide)))).other W151 (Or.inl ND.2.2.2.2.2.1)).other W160 (Or.inl ND.2.2.1))
   have f169 := (((((F6.other W110 (Or.inr (slot_ne (Or.inr (own_w hw 284 rfl)) (Or.inl (own_w hw 308 rfl)) (by decide) (t := (.array .boolean)) (t' := .int) (by decide) (by decide)))).other W121 (Or.inr (slot_ne (Or.inr (own_w hw 284 rfl)) (Or.inl (own_w hw 308 rfl)) (by decide) (t := (.array .boolean)) (t' := .int) (by decide) (by decide)))).other W132 (Or.inr (slot_ne (Or.inr (own_w hw 284 rfl)) (Or.inl (own_w hw 308 rfl)) (by decide) (t := (.array .boolean)) (t' := .int) (by decide) (by decide)))).other W151 (Or.inl ND.2.2.2.2.2.1)).other W160 (Or.inl ND.2.2.1))
   have f170 := (((((F7.other W110 (Or.inr (slot_ne (Or.inl (own_w hw 335 rfl)) (Or.inl (own_w hw 308 rfl)) (by decide) (t := .int) (t' := .int) (by decide) (by decide)))).other W121 (Or.inr (slot_ne (Or.inl (own_w hw 335 rfl)) (Or.inl (own_w hw 308 rfl)) (by decide) (t := .int) (t' := .int) (by decide) (by decide)))).other W132 (Or.inr (slot_ne (Or.inl (own_w hw 335 rfl)) (Or.inl (own_w hw 308 rfl)) (by decide) (t := .int) (t' := .int) (by decide) (by decide)))).other W151 (Or.inl ND.2.2.2.2.2.1)).other W160 (Or.inl ND.2.2.1))
   have f171 := ((F132.other W151 (Or.inl ND.2.2.2.2.2.1)).other W160 (Or.inl ND.2.2.1))
   have f172 := ((f135.other W151 ND.2.2.2.2.2.2.2.2.2.2.2.1).other W160 ND.2.2.2.2.2.2.2.2.1)
   have f173 := ((f144.other W151 ND.2.2.2.2.2.2.2.2.2.2.2.2.2.2.2.2.1).other W160 ND.2.2.2.2.2.2.2.2.2.2.2.2.2.1)
   have f174 := (((((F12.other W110 (Ne.symm ND.2.2.2.1)).other W121 (Ne.symm ND.2.2.2.1)).other W132 (Ne.symm ND.2.2.2.1)).other W151 ND.2.2.2.2.2.2.2.2.2.2.2.2.2.2.2.2.2.2.2.2.2.2.2.1).other W160 (Ne.symm ND.2.2.2.2.2.2.2.2.2.2.2.2.2.2.2.2.2.2.1))
   have f175 := (((((F13.other W110 (Ne.symm ND.2.2.2.2.1)).other W121 (Ne.symm ND.2.2.2.2.1)).other W132 (Ne.symm ND.2.2.2.2.1)).other W151 ND.2.2.2.2.2.2.2.2.2.2.2.2.2.2.2.2.2.2.2.2.2.2.2.2.2.1).other W160 (Ne.symm ND.2.2.2.2.2.2.2.2.2.2.2.2.2.2.2.2.2.2.2.1))
   have f176 := (V151.other W160 (Ne.symm ND.2.2.2.2.2.2.2.2.2.2.2.2.2.2.2.2.2.2.2.2.1))
   have f177 := (((((F15.other W110 (Ne.symm ND.2.2.2.2.2.2.1)).other W121 (Ne.symm ND.2.2.2.2.2.2.1)).other W132 (Ne.symm ND.2.2.2.2.2.2.1)).other W151 (Ne.symm ND.2.2.2.2.2.2.2.2.2.2.2.2.2.2.2.2.2.2.2.2.2.2.2.2.2.2.2)).other W160 (Ne.symm ND.2.2.2.2.2.2.2.2.2.2.2.2.2.2.2.2.2.2.2.2.2.1))
   exact ⟨_, _, _, (q0 ||| ((1 : Int64) <<< ((Int32.ofNat kk) &&& 63).toInt64)), q1, qc, (s0 + (1 : Int32)), s1, X160, e160, N160, K161, f163, f164, f165, f166, f167, f168, f169, f170, f171, f172, f173, V160, f174, f175, f176, f177, own_onA q0 q1 qc hx0 hk hak, p162⟩
  ·have p178 : GF p e below _ T132 m 75 (oLRI4 a1 mk (-1) (Int32.ofNat kk) 0) [] := goF p136 (by rw [hx0, hak])
   have p179 : GF p e below _ T132 m 76 (oLRI4 a1 mk (-1) (Int32.ofNat kk) 0) [(.ref a1)] := fun t_ k_ => p178 t_ (by
    refine XS.aloadN X132.here hx rfl (hb hby d39_75) rfl rfl ?_
    exact k_)
   have f180 := (((F3.other W110 (Or.inr (slot_ne (Or.inr (own_w hw 277 rfl)) (Or.inl (own_w hw 308 rfl)) (by decide) (t := (.array (.array .long))) (t' := .int) (by decide) (by decide)))).other W121 (Or.inr (slot_ne (Or.inr (own_w hw 277 rfl)) (Or.inl (own_w hw 308 rfl)) (by decide) (t := (.array (.array .long))) (t' := .int) (by decide) (by decide)))).other W132 (Or.inr (slot_ne (Or.inr (own_w hw 277 rfl)) (Or.inl (own_w hw 308 rfl)) (by decide) (t := (.array (.array .long))) (t' := .int) (by decide) (by decide))))
   obtain ⟨T181, X181, e181, st181⟩ := getF X132 hx hZ hown (host := "") (Or.inl (own_w hw 276 rfl)) Via.refl e132 f180 (g := (mkF m 76 (oLRI4 a1 mk (-1) (Int32.ofNat kk) 0) [(.ref a1)])) rfl rfl (hb hby d39_76)
   have p182 : GF p e below _ T181 m 81 (oLRI4 a1 mk (-1) (Int32.ofNat kk) 0) [(.int 0), (.ref bi)] := fun t_ k_ => (gc p179 st181) t_ (by
    refine XS.iload X181.here hx rfl (hb hby d39_79) rfl ?_
    exact k_)
   have f184 := (((F10.other W110 (Ne.symm ND.2.1)).other W121 (Ne.symm ND.2.1)).other W132 (Ne.symm ND.2.1))
   obtain ⟨cl183, Ar183, q183, S183, Ng183, H183, G183⟩ := id f184
   have hin183 := inb_of S183 (j := (0 : Int32)) ⟨by decide, by decide⟩
   have hat183 := H183.at (v := (.ref w0)) hin183 rfl
   have p185 : GF p e below _ T181 m 86 (oLRI4 a1 mk (-1) (Int32.ofNat kk) 0) [(.int (((Int32.ofNat kk).toUInt32 >>> (6 : UInt32)).toInt32)), (.ref w0)] := fun t_ k_ => p182 t_ (by
    refine X181.aaload hx (j := (0 : Int32)) (v := (.ref w0)) (by rw [e181]; exact Ar183.1) (State.isArrayOf_alike hZ.alike Ar183.2.1) rfl Ar183.2.2 hin183 hat183 (g := (mkF m 81 (oLRI4 a1 mk (-1) (Int32.ofNat kk) 0) [(.int 0), (.ref bi)])) rfl rfl (hb hby d39_81) _ ?_
    refine XS.iloadN X181.here hx rfl (hb hby d39_82) rfl ?_
    refine XS.bipush X181.here hx rfl (hb hby d39_83) ?_
    refine XS.iushr X181.here hx rfl (hb hby d39_85) rfl ?_
    exact k_)
   have p186 : GF p e below _ T181 m 86 (oLRI4 a1 mk (-1) (Int32.ofNat kk) 0) [(.int 1), (.ref w0)] := goF p185 (by rw [show (((Int32.ofNat kk).toUInt32 >>> (6 : UInt32)).toInt32) = (1 : Int32) from (own_q1 hk1 hk)])
   have p187 : GF p e below _ T181 m 87 (oLRI4 a1 mk (-1) (Int32.ofNat kk) 0) [(.int 1), (.ref w0), (.int 1), (.ref w0)] := fun t_ k_ => p186 t_ (by
    jvm_step X181.here [X181.here.top, hx, (hb hby d39_86), Value.category]
    show Steps p.tables e below (T181.setTop (mkF m 87 (oLRI4 a1 mk (-1) (Int32.ofNat kk) 0) [(.int 1), (.ref w0), (.int 1), (.ref w0)])) _
    exact k_)
   have f189 := (((F14.other W110 (Ne.symm ND.2.2.2.2.2.1)).other W121 (Ne.symm ND.2.2.2.2.2.1)).other W132 (Ne.symm ND.2.2.2.2.2.1))
   obtain ⟨cl188, Ar188, q188, S188, Ng188, H188, G188⟩ := id f189
   have hin188 := inb_of S188 (j := (1 : Int32)) ⟨by decide, by decide⟩
   have hat188 := H188.at (v := (.long q1)) hin188 rfl
   have p190 : GF p e below _ T181 m 92 (oLRI4 a1 mk (-1) (Int32.ofNat kk) 0) [(.long (q1 ||| ((1 : Int64) <<< ((Int32.ofNat kk) &&& 63).toInt64))), (.int 1), (.ref w0)] := fun t_ k_ => p187 t_ (by
    refine X181.laload hx (j := (1 : Int32)) (v := (.long q1)) (by rw [e181]; exact Ar188.1) (State.isArrayOf_alike hZ.alike Ar188.2.1) Ar188.2.2 hin188 hat188 (g := (mkF m 87 (oLRI4 a1 mk (-1) (Int32.ofNat kk) 0) [(.int 1), (.ref w0), (.int 1), (.ref w0)])) rfl rfl (hb hby d39_87) _ ?_
    refine XS.lconst X181.here hx rfl (hb hby d39_88) ?_
    refine XS.iloadN X181.here hx rfl (hb hby d39_89) rfl ?_
    refine XS.lshl X181.here hx rfl (hb hby d39_90) rfl ?_
    refine XS.lor X181.here hx rfl (hb hby d39_91) rfl ?_
    exact k_)
   obtain ⟨cl191, Ar191, q191, S191, Ng191, H191, G191⟩ := id f189
   have hin191 := inb_of S191 (j := (1 : Int32)) ⟨by decide, by decide⟩
   obtain ⟨T191, h191, X191, e191, W191, st191⟩ := stJ X181 hx hZ e181 Ar191 (j := (1 : Int32)) hin191 (g := (mkF m 92 (oLRI4 a1 mk (-1) (Int32.ofNat kk) 0) [(.long (q1 ||| ((1 : Int64) <<< ((Int32.ofNat kk) &&& 63).toInt64))), (.int 1), (.ref w0)])) rfl rfl (hb hby d39_92)
   have K192 : Keep h0 h191 [a1, sz, rs, ir, w0, w1] := K133.wr W191 (Or.inl (List.mem_of_getElem? (i := 4) rfl))
   have N191 := Fr.snoc X191 N132 GE.2.2.2.2.2.2.1
   have V191 : Arv Z h191 w0 kw0 .long (2 : Int32) [(.long q0), (.long (q1 ||| ((1 : Int64) <<< ((Int32.ofNat kk) &&& 63).toInt64)))] (.long 0) := Arv.set Ar191 q191 S191 Ng191 H191 G191 rfl W191 1 rfl (Nat.le_of_ble_eq_true rfl)
   have p193 : GF p e below _ T191 m 94 (oLRI4 a1 mk (-1) (Int32.ofNat kk) 0) [(.ref a1)] := fun t_ k_ => (gc p190 st191) t_ (by
    refine XS.aloadN X191.here hx rfl (hb hby d39_93) rfl rfl ?_
    exact k_)
   have f194 := ((((F4.other W110 (Or.inr (slot_ne (Or.inr (own_w hw 279 rfl)) (Or.inl (own_w hw 308 rfl)) (by decide) (t := (.array .int)) (t' := .int) (by decide) (by decide)))).other W121 (Or.inr (slot_ne (Or.inr (own_w hw 279 rfl)) (Or.inl (own_w hw 308 rfl)) (by decide) (t := (.array .int)) (t' := .int) (by decide) (by decide)))).other W132 (Or.inr (slot_ne (Or.inr (own_w hw 279 rfl)) (Or.inl (own_w hw 308 rfl)) (by decide) (t := (.array .int)) (t' := .int) (by decide) (by decide)))).other W191 (Or.inl ND.2.2.2.2.2.1))
   obtain ⟨T195, X195, e195, st195⟩ := getF X191 hx hZ hown (host := "") (Or.inl (own_w hw 278 rfl)) Via.refl e191 f194 (g := (mkF m 94 (oLRI4 a1 mk (-1) (Int32.ofNat kk) 0) [(.ref a1)])) rfl rfl (hb hby d39_94)
   have p196 : GF p e below _ T195 m 100 (oLRI4 a1 mk (-1) (Int32.ofNat kk) 0) [(.int 0), (.ref sz), (.int 0), (.ref sz)] := fun t_ k_ => (gc p193 st195) t_ (by
    refine XS.iload X195.here hx rfl (hb hby d39_97) rfl ?_
    jvm_step X195.here [X195.here.top, hx, (hb hby d39_99), Value.category]
    show Steps p.tables e below (T195.setTop (mkF m 100 (oLRI4 a1 mk (-1) (Int32.ofNat kk) 0) [(.int 0), (.ref sz), (.int 0), (.ref sz)])) _
    exact k_)
   have f198 := ((((F11.other W110 (Ne.symm ND.2.2.1)).other W121 (Ne.symm ND.2.2.1)).other W132 (Ne.symm ND.2.2.1)).other W191 ND.2.2.2.2.2.2.2.2.2.2.2.2.2.2.2.2.2.2.2.2.1)
   obtain ⟨cl197, Ar197, q197, S197, Ng197, H197, G197⟩ := id f198
   have hin197 := inb_of S197 (j := (0 : Int32)) ⟨by decide, by decide⟩
   have hat197 := H197.at (v := (.int s0)) hin197 rfl
   have p199 : GF p e below _ T195 m 103 (oLRI4 a1 mk (-1) (Int32.ofNat kk) 0) [(.int (s0 + (1 : Int32))), (.int 0), (.ref sz)] := fun t_ k_ => p196 t_ (by
    refine X195.iaload hx (j := (0 : Int32)) (v := (.int s0)) (by rw [e195]; exact Ar197.1) (State.isArrayOf_alike hZ.alike Ar197.2.1) Ar197.2.2 hin197 hat197 (g := (mkF m 100 (oLRI4 a1 mk (-1) (Int32.ofNat kk) 0) [(.int 0), (.ref sz), (.int 0), (.ref sz)])) rfl rfl (hb hby d39_100) _ ?_
    refine XS.iconst X195.here hx rfl (hb hby d39_101) ?_
    refine XS.iadd X195.here hx rfl (hb hby d39_102) rfl ?_
    exact k_)
   obtain ⟨cl200, Ar200, q200, S200, Ng200, H200, G200⟩ := id f198
   have hin200 := inb_of S200 (j := (0 : Int32)) ⟨by decide, by decide⟩
   obtain ⟨T200, h200, X200, e200, W200, st200⟩ := stI X195 hx hZ e195 Ar200 (j := (0 : Int32)) hin200 (g := (mkF m 103 (oLRI4 a1 mk (-1) (Int32.ofNat kk) 0) [(.int (s0 + (1 : Int32))), (.int 0), (.ref sz)])) rfl rfl (hb hby d39_103)
   have K201 : Keep h0 h200 [a1, sz, rs, ir, w0, w1] := K192.wr W200 (Or.inl (List.mem_of_getElem? (i := 1) rfl))
   have N200 := Fr.snoc X200 N191 GE.2.2.2.1
   have V200 : Arv Z h200 sz ksz .int (2 : Int32) [(.int (s0 + (1 : Int32))), (.int s1)] (.int 0) := Arv.set Ar200 q200 S200 Ng200 H200 G200 rfl W200 0 rfl (Nat.le_of_ble_eq_true rfl)
   have p202 : GF p e below _ T200 m 104 (oLRI4 a1 mk (-1) aa xx) [] := goF (gc p199 st200) (by rw [hx0, hak])
   have f203 := (((f131.wr W132).wr W191).wr W200)
   have f204 := (((f126.other W132 (Or.inr (slot_ne (Or.inl (own_w hw 265 rfl)) (Or.inl (own_w hw 308 rfl)) (by decide) (t := (.array .int)) (t' := .int) (by decide) (by decide)))).other W191 (Or.inl ND.2.2.2.2.2.1)).other W200 (Or.inl ND.2.2.1))
   have f205 := (((((F2.other W110 (Or.inr (slot_ne (Or.inr (own_w hw 267 rfl)) (Or.inl (own_w hw 308 rfl)) (by decide) (t := (.array .int)) (t' := .int) (by decide) (by decide)))).other W121 (Or.inr (slot_ne (Or.inr (own_w hw 267 rfl)) (Or.inl (own_w hw 308 rfl)) (by decide) (t := (.array .int)) (t' := .int) (by decide) (by decide)))).other W132 (Or.inr (slot_ne (Or.inr (own_w hw 267 rfl)) (Or.inl (own_w hw 308 rfl)) (by decide) (t := (.array .int)) (t' := .int) (by decide) (by decide)))).other W191 (Or.inl ND.2.2.2.2.2.1)).other W200 (Or.inl ND.2.2.1))
   have f206 := ((f180.other W191 (Or.inl ND.2.2.2.2.2.1)).other W200 (Or.inl ND.2.2.1))
   have f207 := (f194.other W200 (Or.inl ND.2.2.1))
   have f208 := (((((F5.other W110 (Or.inr (slot_ne (Or.inr (own_w hw 281 rfl)) (Or.inl (own_w hw 308 rfl)) (by decide) (t := (.array .int)) (t' := .int) (by decide) (by decide)))).other W121 (Or.inr (slot_ne (Or.inr (own_w hw 281 rfl)) (Or.inl (own_w hw 308 rfl)) (by decide) (t := (.array .int)) (t' := .int) (by decide) (by decide)))).other W132 (Or.inr (slot_ne (Or.inr (own_w hw 281 rfl)) (Or.inl (own_w hw 308 rfl)) (by decide) (t := (.array .int)) (t' := .int) (by decide) (by decide)))).other W191 (Or.inl ND.2.2.2.2.2.1)).other W200 (Or.inl ND.2.2.1))
   have f209 := (((((F6.other W110 (Or.inr (slot_ne (Or.inr (own_w hw 284 rfl)) (Or.inl (own_w hw 308 rfl)) (by decide) (t := (.array .boolean)) (t' := .int) (by decide) (by decide)))).other W121 (Or.inr (slot_ne (Or.inr (own_w hw 284 rfl)) (Or.inl (own_w hw 308 rfl)) (by decide) (t := (.array .boolean)) (t' := .int) (by decide) (by decide)))).other W132 (Or.inr (slot_ne (Or.inr (own_w hw 284 rfl)) (Or.inl (own_w hw 308 rfl)) (by decide) (t := (.array .boolean)) (t' := .int) (by decide) (by decide)))).other W191 (Or.inl ND.2.2.2.2.2.1)).other W200 (Or.inl ND.2.2.1))
   have f210 := (((((F7.other W110 (Or.inr (slot_ne (Or.inl (own_w hw 335 rfl)) (Or.inl (own_w hw 308 rfl)) (by decide) (t := .int) (t' := .int) (by decide) (by decide)))).other W121 (Or.inr (slot_ne (Or.inl (own_w hw 335 rfl)) (Or.inl (own_w hw 308 rfl)) (by decide) (t := .int) (t' := .int) (by decide) (by decide)))).other W132 (Or.inr (slot_ne (Or.inl (own_w hw 335 rfl)) (Or.inl (own_w hw 308 rfl)) (by decide) (t := .int) (t' := .int) (by decide) (by decide)))).other W191 (Or.inl ND.2.2.2.2.2.1)).other W200 (Or.inl ND.2.2.1))
   have f211 := ((F132.other W191 (Or.inl ND.2.2.2.2.2.1)).other W200 (Or.inl ND.2.2.1))
   have f212 := ((f135.other W191 ND.2.2.2.2.2.2.2.2.2.2.2.1).other W200 ND.2.2.2.2.2.2.2.2.1)
   have f213 := ((f184.other W191 ND.2.2.2.2.2.2.2.2.2.2.2.2.2.2.2.2.1).other W200 ND.2.2.2.2.2.2.2.2.2.2.2.2.2.1)
   have f214 := (((((F12.other W110 (Ne.symm ND.2.2.2.1)).other W121 (Ne.symm ND.2.2.2.1)).other W132 (Ne.symm ND.2.2.2.1)).other W191 ND.2.2.2.2.2.2.2.2.2.2.2.2.2.2.2.2.2.2.2.2.2.2.2.1).other W200 (Ne.symm ND.2.2.2.2.2.2.2.2.2.2.2.2.2.2.2.2.2.2.1))
   have f215 := (((((F13.other W110 (Ne.symm ND.2.2.2.2.1)).other W121 (Ne.symm ND.2.2.2.2.1)).other W132 (Ne.symm ND.2.2.2.2.1)).other W191 ND.2.2.2.2.2.2.2.2.2.2.2.2.2.2.2.2.2.2.2.2.2.2.2.2.2.1).other W200 (Ne.symm ND.2.2.2.2.2.2.2.2.2.2.2.2.2.2.2.2.2.2.2.1))
   have f216 := (V191.other W200 (Ne.symm ND.2.2.2.2.2.2.2.2.2.2.2.2.2.2.2.2.2.2.2.2.1))
   have f217 := (((((F15.other W110 (Ne.symm ND.2.2.2.2.2.2.1)).other W121 (Ne.symm ND.2.2.2.2.2.2.1)).other W132 (Ne.symm ND.2.2.2.2.2.2.1)).other W191 (Ne.symm ND.2.2.2.2.2.2.2.2.2.2.2.2.2.2.2.2.2.2.2.2.2.2.2.2.2.2.2)).other W200 (Ne.symm ND.2.2.2.2.2.2.2.2.2.2.2.2.2.2.2.2.2.2.2.2.2.1))
   exact ⟨_, _, _, q0, (q1 ||| ((1 : Int64) <<< ((Int32.ofNat kk) &&& 63).toInt64)), qc, (s0 + (1 : Int32)), s1, X200, e200, N200, K201, f203, f204, f205, f206, f207, f208, f209, f210, f211, f212, f213, V200, f214, f215, f216, f217, own_onB q0 q1 qc hx0 hk1 hk hak, p202⟩
  ·have p218 : GF p e below _ T132 m 75 (oLRI4 a1 mk (-1) (Int32.ofNat kk) 1) [] := goF p136 (by rw [hx0, hak])
   have p219 : GF p e below _ T132 m 76 (oLRI4 a1 mk (-1) (Int32.ofNat kk) 1) [(.ref a1)] := fun t_ k_ => p218 t_ (by
    refine XS.aloadN X132.here hx rfl (hb hby d39_75) rfl rfl ?_
    exact k_)
   have f220 := (((F3.other W110 (Or.inr (slot_ne (Or.inr (own_w hw 277 rfl)) (Or.inl (own_w hw 308 rfl)) (by decide) (t := (.array (.array .long))) (t' := .int) (by decide) (by decide)))).other W121 (Or.inr (slot_ne (Or.inr (own_w hw 277 rfl)) (Or.inl (own_w hw 308 rfl)) (by decide) (t := (.array (.array .long))) (t' := .int) (by decide) (by decide)))).other W132 (Or.inr (slot_ne (Or.inr (own_w hw 277 rfl)) (Or.inl (own_w hw 308 rfl)) (by decide) (t := (.array (.array .long))) (t' := .int) (by decide) (by decide))))
   obtain ⟨T221, X221, e221, st221⟩ := getF X132 hx hZ hown (host := "") (Or.inl (own_w hw 276 rfl)) Via.refl e132 f220 (g := (mkF m 76 (oLRI4 a1 mk (-1) (Int32.ofNat kk) 1) [(.ref a1)])) rfl rfl (hb hby d39_76)
   have p222 : GF p e below _ T221 m 81 (oLRI4 a1 mk (-1) (Int32.ofNat kk) 1) [(.int 1), (.ref bi)] := fun t_ k_ => (gc p219 st221) t_ (by
    refine XS.iload X221.here hx rfl (hb hby d39_79) rfl ?_
    exact k_)
   have f224 := (((F10.other W110 (Ne.symm ND.2.1)).other W121 (Ne.symm ND.2.1)).other W132 (Ne.symm ND.2.1))
   obtain ⟨cl223, Ar223, q223, S223, Ng223, H223, G223⟩ := id f224
   have hin223 := inb_of S223 (j := (1 : Int32)) ⟨by decide, by decide⟩
   have hat223 := H223.at (v := (.ref w1)) hin223 rfl
   have p225 : GF p e below _ T221 m 86 (oLRI4 a1 mk (-1) (Int32.ofNat kk) 1) [(.int (((Int32.ofNat kk).toUInt32 >>> (6 : UInt32)).toInt32)), (.ref w1)] := fun t_ k_ => p222 t_ (by
    refine X221.aaload hx (j := (1 : Int32)) (v := (.ref w1)) (by rw [e221]; exact Ar223.1) (State.isArrayOf_alike hZ.alike Ar223.2.1) rfl Ar223.2.2 hin223 hat223 (g := (mkF m 81 (oLRI4 a1 mk (-1) (Int32.ofNat kk) 1) [(.int 1), (.ref bi)])) rfl rfl (hb hby d39_81) _ ?_
    refine XS.iloadN X221.here hx rfl (hb hby d39_82) rfl ?_
    refine XS.bipush X221.here hx rfl (hb hby d39_83) ?_
    refine XS.iushr X221.here hx rfl (hb hby d39_85) rfl ?_
    exact k_)
   have p226 : GF p e below _ T221 m 86 (oLRI4 a1 mk (-1) (Int32.ofNat kk) 1) [(.int 0), (.ref w1)] := goF p225 (by rw [show (((Int32.ofNat kk).toUInt32 >>> (6 : UInt32)).toInt32) = (0 : Int32) from (own_q0 (by omega))])
   have p227 : GF p e below _ T221 m 87 (oLRI4 a1 mk (-1) (Int32.ofNat kk) 1) [(.int 0), (.ref w1), (.int 0), (.ref w1)] := fun t_ k_ => p226 t_ (by
    jvm_step X221.here [X221.here.top, hx, (hb hby d39_86), Value.category]
    show Steps p.tables e below (T221.setTop (mkF m 87 (oLRI4 a1 mk (-1) (Int32.ofNat kk) 1) [(.int 0), (.ref w1), (.int 0), (.ref w1)])) _
    exact k_)
   have f229 := (((F15.other W110 (Ne.symm ND.2.2.2.2.2.2.1)).other W121 (Ne.symm ND.2.2.2.2.2.2.1)).other W132 (Ne.symm ND.2.2.2.2.2.2.1))
   obtain ⟨cl228, Ar228, q228, S228, Ng228, H228, G228⟩ := id f229
   have hin228 := inb_of S228 (j := (0 : Int32)) ⟨by decide, by decide⟩
   have hat228 := H228.at (v := (.long qc)) hin228 rfl
   have p230 : GF p e below _ T221 m 92 (oLRI4 a1 mk (-1) (Int32.ofNat kk) 1) [(.long (qc ||| ((1 : Int64) <<< ((Int32.ofNat kk) &&& 63).toInt64))), (.int 0), (.ref w1)] := fun t_ k_ => p227 t_ (by
    refine X221.laload hx (j := (0 : Int32)) (v := (.long qc)) (by rw [e221]; exact Ar228.1) (State.isArrayOf_alike hZ.alike Ar228.2.1) Ar228.2.2 hin228 hat228 (g := (mkF m 87 (oLRI4 a1 mk (-1) (Int32.ofNat kk) 1) [(.int 0), (.ref w1), (.int 0), (.ref w1)])) rfl rfl (hb hby d39_87) _ ?_
    refine XS.lconst X221.here hx rfl (hb hby d39_88) ?_
    refine XS.iloadN X221.here hx rfl (hb hby d39_89) rfl ?_
    refine XS.lshl X221.here hx rfl (hb hby d39_90) rfl ?_
    refine XS.lor X221.here hx rfl (hb hby d39_91) rfl ?_
    exact k_)
   obtain ⟨cl231, Ar231, q231, S231, Ng231, H231, G231⟩ := id f229
   have hin231 := inb_of S231 (j := (0 : Int32)) ⟨by decide, by decide⟩
   obtain ⟨T231, h231, X231, e231, W231, st231⟩ := stJ X221 hx hZ e221 Ar231 (j := (0 : Int32)) hin231 (g := (mkF m 92 (oLRI4 a1 mk (-1) (Int32.ofNat kk) 1) [(.long (qc ||| ((1 : Int64) <<< ((Int32.ofNat kk) &&& 63).toInt64))), (.int 0), (.ref w1)])) rfl rfl (hb hby d39_92)
   have K232 : Keep h0 h231 [a1, sz, rs, ir, w0, w1] := K133.wr W231 (Or.inl (List.mem_of_getElem? (i := 5) rfl))
   have N231 := Fr.snoc X231 N132 GE.2.2.2.2.2.2.2
   have V231 : Arv Z h231 w1 kw1 .long (1 : Int32) [(.long (qc ||| ((1 : Int64) <<< ((Int32.ofNat kk) &&& 63).toInt64)))] (.long 0) := Arv.set Ar231 q231 S231 Ng231 H231 G231 rfl W231 0 rfl (Nat.le_of_ble_eq_true rfl)
   have p233 : GF p e below _ T231 m 94 (oLRI4 a1 mk (-1) (Int32.ofNat kk) 1) [(.ref a1)] := fun t_ k_ => (gc p230 st231) t_ (by
    refine XS.aloadN X231.here hx rfl (hb hby d39_93) rfl rfl ?_
    exact k_)
   have f234 := ((((F4.other W110 (Or.inr (slot_ne (Or.inr (own_w hw 279 rfl)) (Or.inl (own_w hw 308 rfl)) (by decide) (t := (.array .int)) (t' := .int) (by decide) (by decide)))).other W121 (Or.inr (slot_ne (Or.inr (own_w hw 279 rfl)) (Or.inl (own_w hw 308 rfl)) (by decide) (t := (.array .int)) (t' := .int) (by decide) (by decide)))).other W132 (Or.inr (slot_ne (Or.inr (own_w hw 279 rfl)) (Or.inl (own_w hw 308 rfl)) (by decide) (t := (.array .int)) (t' := .int) (by decide) (by decide)))).other W231 (Or.inl ND.2.2.2.2.2.2.1))
   obtain ⟨T235, X235, e235, st235⟩ := getF X231 hx hZ hown (host := "") (Or.inl (own_w hw 278 rfl)) Via.refl e231 f234 (g := (mkF m 94 (oLRI4 a1 mk (-1) (Int32.ofNat kk) 1) [(.ref a1)])) rfl rfl (hb hby d39_94)
   have p236 : GF p e below _ T235 m 100 (oLRI4 a1 mk (-1) (Int32.ofNat kk) 1) [(.int 1), (.ref sz), (.int 1), (.ref sz)] := fun t_ k_ => (gc p233 st235) t_ (by
    refine XS.iload X235.here hx rfl (hb hby d39_97) rfl ?_
    jvm_step X235.here [X235.here.top, hx, (hb hby d39_99), Value.category]
    show Steps p.tables e below (T235.setTop (mkF m 100 (oLRI4 a1 mk (-1) (Int32.ofNat kk) 1) [(.int 1), (.ref sz), (.int 1), (.ref sz)])) _
    exact k_)
   have f238 := ((((F11.other W110 (Ne.symm ND.2.2.1)).other W121 (Ne.symm ND.2.2.1)).other W132 (Ne.symm ND.2.2.1)).other W231 ND.2.2.2.2.2.2.2.2.2.2.2.2.2.2.2.2.2.2.2.2.2.1)
   obtain ⟨cl237, Ar237, q237, S237, Ng237, H237, G237⟩ := id f238
   have hin237 := inb_of S237 (j := (1 : Int32)) ⟨by decide, by decide⟩
   have hat237 := H237.at (v := (.int s1)) hin237 rfl
   have p239 : GF p e below _ T235 m 103 (oLRI4 a1 mk (-1) (Int32.ofNat kk) 1) [(.int (s1 + (1 : Int32))), (.int 1), (.ref sz)] := fun t_ k_ => p236 t_ (by
    refine X235.iaload hx (j := (1 : Int32)) (v := (.int s1)) (by rw [e235]; exact Ar237.1) (State.isArrayOf_alike hZ.alike Ar237.2.1) Ar237.2.2 hin237 hat237 (g := (mkF m 100 (oLRI4 a1 mk (-1) (Int32.ofNat kk) 1) [(.int 1), (.ref sz), (.int 1), (.ref sz)])) rfl rfl (hb hby d39_100) _ ?_
    refine XS.iconst X235.here hx rfl (hb hby d39_101) ?_
    refine XS.iadd X235.here hx rfl (hb hby d39_102) rfl ?_
    exact k_)
   obtain ⟨cl240, Ar240, q240, S240, Ng240, H240, G240⟩ := id f238
   have hin240 := inb_of S240 (j := (1 : Int32)) ⟨by decide, by decide⟩
   obtain ⟨T240, h240, X240, e240, W240, st240⟩ := stI X235 hx hZ e235 Ar240 (j := (1 : Int32)) hin240 (g := (mkF m 103 (oLRI4 a1 mk (-1) (Int32.ofNat kk) 1) [(.int (s1 + (1 : Int32))), (.int 1), (.ref sz)])) rfl rfl (hb hby d39_103)
   have K241 : Keep h0 h240 [a1, sz, rs, ir, w0, w1] := K232.wr W240 (Or.inl (List.mem_of_getElem? (i := 1) rfl))
   have N240 := Fr.snoc X240 N231 GE.2.2.2.1
   have V240 : Arv Z h240 sz ksz .int (2 : Int32) [(.int s0), (.int (s1 + (1 : Int32)))] (.int 0) := Arv.set Ar240 q240 S240 Ng240 H240 G240 rfl W240 1 rfl (Nat.le_of_ble_eq_true rfl)
   have p242 : GF p e below _ T240 m 104 (oLRI4 a1 mk (-1) aa xx) [] := goF (gc p239 st240) (by rw [hx0, hak])
   have f243 := (((f131.wr W132).wr W231).wr W240)
   have f244 := (((f126.other W132 (Or.inr (slot_ne (Or.inl (own_w hw 265 rfl)) (Or.inl (own_w hw 308 rfl)) (by decide) (t := (.array .int)) (t' := .int) (by decide) (by decide)))).other W231 (Or.inl ND.2.2.2.2.2.2.1)).other W240 (Or.inl ND.2.2.1))
   have f245 := (((((F2.other W110 (Or.inr (slot_ne (Or.inr (own_w hw 267 rfl)) (Or.inl (own_w hw 308 rfl)) (by decide) (t := (.array .int)) (t' := .int) (by decide) (by decide)))).other W121 (Or.inr (slot_ne (Or.inr (own_w hw 267 rfl)) (Or.inl (own_w hw 308 rfl)) (by decide) (t := (.array .int)) (t' := .int) (by decide) (by decide)))).other W132 (Or.inr (slot_ne (Or.inr (own_w hw 267 rfl)) (Or.inl (own_w hw 308 rfl)) (by decide) (t := (.array .int)) (t' := .int) (by decide) (by decide)))).other W231 (Or.inl ND.2.2.2.2.2.2.1)).other W240 (Or.inl ND.2.2.1))
   have f246 := ((f220.other W231 (Or.inl ND.2.2.2.2.2.2.1)).other W240 (Or.inl ND.2.2.1))
   have f247 := (f234.other W240 (Or.inl ND.2.2.1))
   have f248 := (((((F5.other W110 (Or.inr (slot_ne (Or.inr (own_w hw 281 rfl)) (Or.inl (own_w hw 308 rfl)) (by decide) (t := (.array .int)) (t' := .int) (by decide) (by decide)))).other W121 (Or.inr (slot_ne (Or.inr (own_w hw 281 rfl)) (Or.inl (own_w hw 308 rfl)) (by decide) (t := (.array .int)) (t' := .int) (by decide) (by decide)))).other W132 (Or.inr (slot_ne (Or.inr (own_w hw 281 rfl)) (Or.inl (own_w hw 308 rfl)) (by decide) (t := (.array .int)) (t' := .int) (by decide) (by decide)))).other W231 (Or.inl ND.2.2.2.2.2.2.1)).other W240 (Or.inl ND.2.2.1))
   have f249 := (((((F6.other W110 (Or.inr (slot_ne (Or.inr (own_w hw 284 rfl)) (Or.inl (own_w hw 308 rfl)) (by decide) (t := (.array .boolean)) (t' := .int) (by decide) (by decide)))).other W121 (Or.inr (slot_ne (Or.inr (own_w hw 284 rfl)) (Or.inl (own_w hw 308 rfl)) (by decide) (t := (.array .boolean)) (t' := .int) (by decide) (by decide)))).other W132 (Or.inr (slot_ne (Or.inr (own_w hw 284 rfl)) (Or.inl (own_w hw 308 rfl)) (by decide) (t := (.array .boolean)) (t' := .int) (by decide) (by decide)))).other W231 (Or.inl ND.2.2.2.2.2.2.1)).other W240 (Or.inl ND.2.2.1))
   have f250 := (((((F7.other W110 (Or.inr (slot_ne (Or.inl (own_w hw 335 rfl)) (Or.inl (own_w hw 308 rfl)) (by decide) (t := .int) (t' := .int) (by decide) (by decide)))).other W121 (Or.inr (slot_ne (Or.inl (own_w hw 335 rfl)) (Or.inl (own_w hw 308 rfl)) (by decide) (t := .int) (t' := .int) (by decide) (by decide)))).other W132 (Or.inr (slot_ne (Or.inl (own_w hw 335 rfl)) (Or.inl (own_w hw 308 rfl)) (by decide) (t := .int) (t' := .int) (by decide) (by decide)))).other W231 (Or.inl ND.2.2.2.2.2.2.1)).other W240 (Or.inl ND.2.2.1))
   have f251 := ((F132.other W231 (Or.inl ND.2.2.2.2.2.2.1)).other W240 (Or.inl ND.2.2.1))
   have f252 := ((f135.other W231 ND.2.2.2.2.2.2.2.2.2.2.2.2.1).other W240 ND.2.2.2.2.2.2.2.2.1)
   have f253 := ((f224.other W231 ND.2.2.2.2.2.2.2.2.2.2.2.2.2.2.2.2.2.1).other W240 ND.2.2.2.2.2.2.2.2.2.2.2.2.2.1)
   have f254 := (((((F12.other W110 (Ne.symm ND.2.2.2.1)).other W121 (Ne.symm ND.2.2.2.1)).other W132 (Ne.symm ND.2.2.2.1)).other W231 ND.2.2.2.2.2.2.2.2.2.2.2.2.2.2.2.2.2.2.2.2.2.2.2.2.1).other W240 (Ne.symm ND.2.2.2.2.2.2.2.2.2.2.2.2.2.2.2.2.2.2.1))
   have f255 := (((((F13.other W110 (Ne.symm ND.2.2.2.2.1)).other W121 (Ne.symm ND.2.2.2.2.1)).other W132 (Ne.symm ND.2.2.2.2.1)).other W231 ND.2.2.2.2.2.2.2.2.2.2.2.2.2.2.2.2.2.2.2.2.2.2.2.2.2.2.1).other W240 (Ne.symm ND.2.2.2.2.2.2.2.2.2.2.2.2.2.2.2.2.2.2.2.1))
   have f256 := (((((F14.other W110 (Ne.symm ND.2.2.2.2.2.1)).other W121 (Ne.symm ND.2.2.2.2.2.1)).other W132 (Ne.symm ND.2.2.2.2.2.1)).other W231 ND.2.2.2.2.2.2.2.2.2.2.2.2.2.2.2.2.2.2.2.2.2.2.2.2.2.2.2).other W240 (Ne.symm ND.2.2.2.2.2.2.2.2.2.2.2.2.2.2.2.2.2.2.2.2.1))
   have f257 := (V231.other W240 (Ne.symm ND.2.2.2.2.2.2.2.2.2.2.2.2.2.2.2.2.2.2.2.2.2.1))
   exact ⟨_, _, _, q0, q1, (qc ||| ((1 : Int64) <<< ((Int32.ofNat kk) &&& 63).toInt64)), s0, (s1 + (1 : Int32)), X240, e240, N240, K241, f243, f244, f245, f246, f247, f248, f249, f250, f251, f252, f253, V240, f254, f255, f256, f257, own_onC q0 q1 qc hx0 hk hak, p242⟩
 have p258 : GF p e below _ T137 m 107 (oLRI4 a1 mk (-1) aa xx) [(.int xx), (.ref a1)] := fun t_ k_ => p137 t_ (by
  refine XS.aloadN X137.here hx rfl (hb hby d39_104) rfl rfl ?_
  refine XS.iload X137.here hx rfl (hb hby d39_105) rfl ?_
  exact k_)
 obtain ⟨cq259, q259, q259'⟩ := J137_0.cell
 obtain ⟨_, _, ⟨T259, L259, k259, n259⟩, -, X259, ⟨Lc259, hQ259, l259, y259, z259⟩, st259⟩ := X137.privateBack hx (y := oM8) hown (mvT hZ (own_w hw 330 rfl)) (mvT hZ (own_w hw 331 rfl)) (selPriv (mvT hZ (own_w hw 305 rfl)) rfl (Cond.privateMethod_at (mvP hZ (own_w hw 332 rfl) (args := #[]))) (mvT hZ (own_w hw 331 rfl)) (by decide)) (Cond.privateMethod_at (mvP hZ (own_w hw 332 rfl) (args := #[]))) (mvT hZ (own_w hw 333 rfl)) (by decide) (backOf (W := 0) (rm42 l Z a0 hw [] a1 tr bi sz rs ir w0 w1 rb krs kir ((((Int32.ofNat (t + 3)) - (1 : Int32)) - (1 : Int32)) - (1 : Int32)) rc u0 u1 eb0 eb1 xx h137 n0 (Nat.le_trans Z0 K137.1) J137_0 J137_1 J137_2 J137_3 J137_4 J137_5 J137_6 J137_7 J137_8 J137_12 J137_13 ND GE HM (own_dx hd)) hZ (own_w hw 333 rfl) (own_w hw 91 rfl) (by decide) (by decide)) (g := (mkF m 107 (oLRI4 a1 mk (-1) aa xx) [(.int xx), (.ref a1)])) rfl (by rw [hml]; rfl) (Steps.refl _) (a := a1) (by rw [e137]; exact q259) q259' (argsL := [(.int xx)]) (rest := []) (lenOf pd18 rfl) rfl (by show 2 * 0 + _ ≤ _; exact Nat.le_of_eq rfl) (hb hby d39_107) (fun _ _ => ⟨rfl, e137, (by decide : 0 + 0 ≤ _), (by decide : 0 + 0 ≤ _)⟩)
 dsimp only [Pt.U, Pt.locs, Pt.cells, Pt.slots] at X259 l259 y259 z259 st259 hQ259
 subst l259 y259 z259
 obtain ⟨x260, x261, x262, x263, x264, rfl, N259q, q259_K, q259_F0, q259_F1, q259_F2, q259_F3, q259_F4, q259_F5, q259_F6, q259_F7, q259_F8, q259_F9, q259_F10, q259_M⟩ := hQ259
 have N259 := Fr.app N137 N259q
 have K265 : Keep h0 T259.heap [a1, sz, rs, ir, w0, w1] := K137.trans q259_K (allS (Or.inl (List.mem_of_getElem? (i := 0) rfl)) (allS (Or.inl (List.mem_of_getElem? (i := 2) rfl)) (allS (Or.inl (List.mem_of_getElem? (i := 3) rfl)) all0)))
 have p266 : GF p e below _ T259 m 1 (oLRI4 a1 mk (-1) aa xx) [(.ref a1)] := fun t_ k_ => (gcT p258 st259) t_ (by
  refine XS.goto X259.here hx rfl (pc0 := 110) (pc' := 0) rfl (hb hby d39_110) (by decide) (by decide) ?_
  refine XS.aloadN X259.here hx rfl (hb hby d39_0) rfl rfl ?_
  exact k_)
 obtain ⟨T267, X267, e267, st267⟩ := getF X259 hx hZ hown (host := "") (Or.inl (own_w hw 307 rfl)) Via.refl rfl q259_F8 (g := (mkF m 1 (oLRI4 a1 mk (-1) aa xx) [(.ref a1)])) rfl rfl (hb hby d39_1)
 have p268 : GF p e below _ T267 m 5 (oLRI4 a1 mk (-1) aa xx) [(.int mk), (.int ((((Int32.ofNat (t + 3)) - (1 : Int32)) - (1 : Int32)) - (1 : Int32)))] := fun t_ k_ => (gc p266 st267) t_ (by
  refine XS.iloadN X267.here hx rfl (hb hby d39_4) rfl ?_
  exact k_)
 have c269 : ¬ (mk < ((((Int32.ofNat (t + 3)) - (1 : Int32)) - (1 : Int32)) - (1 : Int32))) := own_mge ht hmk
 have p270 : GF p e below _ T267 m 113 (oLRI4 a1 mk (-1) aa xx) [] := fun t_ k_ => p268 t_ (by
  refine XS.icmpYes X267.here hx rfl (pc0 := 5) (pc' := 113) rfl (hb hby d39_5) rfl (flt c269).2.2.2 (by decide) (by decide) ?_
  exact k_)
 have f271 := (J137_9.keep q259_K (ninS (Ne.symm ND.1) (ninS ND.2.2.2.2.2.2.2.2.2.1 (ninS ND.2.2.2.2.2.2.2.2.2.2.1 nin0))))
 have f272 := (J137_10.keep q259_K (ninS (Ne.symm ND.2.1) (ninS ND.2.2.2.2.2.2.2.2.2.2.2.2.2.2.1 (ninS ND.2.2.2.2.2.2.2.2.2.2.2.2.2.2.2.1 nin0))))
 have f273 := (J137_11.keep q259_K (ninS (Ne.symm ND.2.2.1) (ninS ND.2.2.2.2.2.2.2.2.2.2.2.2.2.2.2.2.2.2.1 (ninS ND.2.2.2.2.2.2.2.2.2.2.2.2.2.2.2.2.2.2.2.1 nin0))))
 have f274 := (J137_14.keep q259_K (ninS (Ne.symm ND.2.2.2.2.2.1) (ninS (Ne.symm ND.2.2.2.2.2.2.2.2.2.2.2.2.2.2.2.2.2.2.2.2.2.2.2.1) (ninS (Ne.symm ND.2.2.2.2.2.2.2.2.2.2.2.2.2.2.2.2.2.2.2.2.2.2.2.2.2.1) nin0))))
 have f275 := (J137_15.keep q259_K (ninS (Ne.symm ND.2.2.2.2.2.2.1) (ninS (Ne.symm ND.2.2.2.2.2.2.2.2.2.2.2.2.2.2.2.2.2.2.2.2.2.2.2.2.1) (ninS (Ne.symm ND.2.2.2.2.2.2.2.2.2.2.2.2.2.2.2.2.2.2.2.2.2.2.2.2.2.2.1) nin0))))
 obtain ⟨fs, hr, hrun, hended, hW, hsame⟩ := X267.leave (v := none) (fun _ => rfl)
 refine ⟨_, _, p270 _ (X267.returnOut hx Bd.returns (hb hby d39_113) hr), hrun, hended, _, _, rfl, ?_, ⟨_, rfl⟩, hW, hsame.mono (by decide) (by decide)⟩
 show Q39_1 Z a1 tr bi sz rs ir w0 w1 rb ktr kbi ksz krs kir kw0 kw1 q0 q1 qc s0 s1 u0 u1 eb0 eb1 tvs t rc xx aa mk h0 n0 _ T267.heap _
 rw [e267]
 exact ⟨qa137, qb137, qc137, sa137, sb137, x261, x262, x263, x264, x260, rfl, N259, K265, q259_F0, q259_F1, q259_F2, q259_F3, q259_F4, q259_F5, q259_F6, q259_F7, q259_F8, f271, f272, f273, q259_F9, q259_F10, f274, f275, q259_M, R137⟩
theorem ef_rm39_0 (m : MethodId) (a1 : Addr) (tl : Int32) (mk : Int32) : entryFrame m #[(.ref a1), (.int mk)] 5 = mkF m 0 (oLRIu3 a1 mk) [] := by first | (simp [entryFrame, mkF, argsToLocals, Value.category]; done) | rfl
def Q39_0 (Z : State) (a1 : Addr) (tl : Int32) (mk : Int32) (h0 : Heap) (n0 : Nat) (v : Option Value) (h : Heap) (L : List Loc) : Prop := v = none ∧ Fr n0 L ∧ (h = h0)
set_option maxRecDepth 65536 in
set_option maxHeartbeats 40000000 in
theorem rm39_0 (l : Launch) (Z : State) (a0 : Array Value) (hw : ∀ d ∈ tables_1, d.before a0 Z = true) (ws : List Jvm.Cond) (a1 : Addr) (tl : Int32) (mk : Int32) (h0 : Heap) (n0 : Nat) (Z0 : n0 ≤ h0.size) (F1 : Fld Z h0 a1 "com/example/arcward/arcward/solver/Domains" "trailLength" "I" (.int tl)) (hnl : ¬ mk < tl) :
  MetFree l oM11 (head1 (Jvm.Cond.code oM11 prog_50_method_22_code 5 none :: ws) ({ frames := 0, cells := 0, slots := 0, locals := 0 } : Room)) (fun a U => a = #[(.ref a1), (.int mk)] ∧ Z.Warmed39 U.vm ∧ U.heap = h0) (fun _ _ _ _ _ => True) (fun _ U o U' => ∃ v L, o = .returned v ∧ Q39_0 Z a1 tl mk h0 n0 v U'.heap L ∧ FrameEnd U o U' L ({ frames := 0, cells := 0, slots := 0, locals := 0 } : Room).cells ({ frames := 0, cells := 0, slots := 0, locals := 0 } : Room).slots) := by
 refine MetFree.of_bodySF pn39 hisR ?_
 intro p e s m args below meth c s₁ Bd hml0 hP hK
 obtain ⟨rfl, hZ, hh⟩ := hP
 have hx := Bd.exec
 have hby := Bd.bytes
 have hml : c.maxLocals = 5 := hml0
 have hown : s.vm.findClass "com/example/arcward/arcward/solver/Domains" = some m.cls := findClass_of_methodNamed Bd.named
 have hnm := (name_of_methodNamed Bd.named Bd.method).1
 have X0 : Stand p l e ({ frames := 0, cells := 0, slots := 0, locals := 0 } : Room) s m #[(.ref a1), (.int mk)] below meth c s₁ [] 0 0 := Stand.of_body Bd
 have e0 : s₁.heap = h0 := by rw [← hh, Bd.state]; rfl
 have N0 := Fr.nil n0
 have p0 : GF p e below (s₁.setTop (entryFrame m #[(.ref a1), (.int mk)] 5)) s₁ m 0 (oLRIu3 a1 mk) [] := fun t_ k_ => castTop (ef_rm39_0 m a1 tl mk) k_
 have p101 : GF p e below _ s₁ m 1 (oLRIu3 a1 mk) [(.ref a1)] := fun t_ k_ => p0 t_ (by
  refine XS.aloadN X0.here hx rfl (hb hby d39_0) rfl rfl ?_
  exact k_)
 obtain ⟨T102, X102, e102, st102⟩ := getF X0 hx hZ hown (host := "") (Or.inl (own_w hw 307 rfl)) Via.refl e0 F1 (g := (mkF m 1 (oLRIu3 a1 mk) [(.ref a1)])) rfl rfl (hb hby d39_1)
 have p103 : GF p e below _ T102 m 5 (oLRIu3 a1 mk) [(.int mk), (.int tl)] := fun t_ k_ => (gc p101 st102) t_ (by
  refine XS.iloadN X102.here hx rfl (hb hby d39_4) rfl ?_
  exact k_)
 have c104 : ¬ (mk < tl) := hnl
 have p105 : GF p e below _ T102 m 113 (oLRIu3 a1 mk) [] := fun t_ k_ => p103 t_ (by
  refine XS.icmpYes X102.here hx rfl (pc0 := 5) (pc' := 113) rfl (hb hby d39_5) rfl (flt c104).2.2.2 (by decide) (by decide) ?_
  exact k_)
 obtain ⟨fs, hr, hrun, hended, hW, hsame⟩ := X102.leave (v := none) (fun _ => rfl)
 refine ⟨_, _, p105 _ (X102.returnOut hx Bd.returns (hb hby d39_113) hr), hrun, hended, _, _, rfl, ?_, ⟨_, rfl⟩, hW, hsame.mono (by decide) (by decide)⟩
 show Q39_0 Z a1 tl mk h0 n0 _ T102.heap _
 rw [e102]
 exact ⟨rfl, N0, rfl⟩
theorem d37_0 : decode prog_50_method_21_code 0 = .ok (.aload_n 0, 1) := by decide +kernel
theorem d37_1 : decode prog_50_method_21_code 1 = .ok (.getfield 115, 3) := by decide +kernel
theorem d37_4 : decode prog_50_method_21_code 4 = .ok (.ireturn, 1) := by decide +kernel
theorem pn37 : plainFor (⟨"com/example/arcward/arcward/solver/Domains", "mark", "()I"⟩ : MethodName) = true := plainFor_of_name (by first | (simp [plainName, overriddenIn]; done) | decide +kernel)
theorem ef_rm37 (m : MethodId) (a1 : Addr) (tl : Int32) : entryFrame m #[(.ref a1)] 1 = mkF m 0 #[.val (.ref a1)] [] := by first | (simp [entryFrame, mkF, argsToLocals, Value.category]; done) | rfl
def Q37 (Z : State) (a1 : Addr) (tl : Int32) (h0 : Heap) (n0 : Nat) (v : Option Value) (h : Heap) (L : List Loc) : Prop := v = some (.int tl) ∧ Fr n0 L ∧ (h = h0)
set_option maxRecDepth 65536 in
set_option maxHeartbeats 40000000 in
theorem rm37 (l : Launch) (Z : State) (a0 : Array Value) (hw : ∀ d ∈ tables_1, d.before a0 Z = true) (ws : List Jvm.Cond) (a1 : Addr) (tl : Int32) (h0 : Heap) (n0 : Nat) (Z0 : n0 ≤ h0.size) (F1 : Fld Z h0 a1 "com/example/arcward/arcward/solver/Domains" "trailLength" "I" (.int tl)) :
  MetFree l oM7 (head1 (Jvm.Cond.code oM7 prog_50_method_21_code 1 (some .int) :: ws) ({ frames := 0, cells := 0, slots := 0, locals := 0 } : Room)) (fun a U => a = #[(.ref a1)] ∧ Z.Warmed39 U.vm ∧ U.heap = h0) (fun _ _ _ _ _ => True) (fun _ U o U' => ∃ v L, o = .returned v ∧ Q37 Z a1 tl h0 n0 v U'.heap L ∧ FrameEnd U o U' L ({ frames := 0, cells := 0, slots := 0, locals := 0 } : Room).cells ({ frames := 0, cells := 0, slots := 0, locals := 0 } : Room).slots) := by
 refine MetFree.of_bodySF pn37 hisR ?_
 intro p e s m args below meth c s₁ Bd hml0 hP hK
 obtain ⟨rfl, hZ, hh⟩ := hP
 have hx := Bd.exec
 have hby := Bd.bytes
 have hml : c.maxLocals = 1 := hml0
 have hown : s.vm.findClass "com/example/arcward/arcward/solver/Domains" = some m.cls := findClass_of_methodNamed Bd.named
 have hnm := (name_of_methodNamed Bd.named Bd.method).1
 have X0 : Stand p l e ({ frames := 0, cells := 0, slots := 0, locals := 0 } : Room) s m #[(.ref a1)] below meth c s₁ [] 0 0 := Stand.of_body Bd
 have e0 : s₁.heap = h0 := by rw [← hh, Bd.state]; rfl
 have N0 := Fr.nil n0
 have p0 : GF p e below (s₁.setTop (entryFrame m #[(.ref a1)] 1)) s₁ m 0 #[.val (.ref a1)] [] := fun t_ k_ => castTop (ef_rm37 m a1 tl) k_
 have p101 : GF p e below _ s₁ m 1 #[.val (.ref a1)] [(.ref a1)] := fun t_ k_ => p0 t_ (by
  refine XS.aloadN X0.here hx rfl (hb hby d37_0) rfl rfl ?_
  exact k_)
 obtain ⟨T102, X102, e102, st102⟩ := getF X0 hx hZ hown (host := "") (Or.inl (own_w hw 307 rfl)) Via.refl e0 F1 (g := (mkF m 1 #[.val (.ref a1)] [(.ref a1)])) rfl rfl (hb hby d37_1)
 obtain ⟨fs, hr, hrun, hended, hW, hsame⟩ := X102.leave (v := some (.int tl)) (fun h => by rw [Bd.returns] at h; cases h)
 refine ⟨_, _, (gc p101 st102) _ (retI X102 hx Bd.returns (hb hby d37_4) hr), hrun, hended, _, _, rfl, ?_, ⟨_, rfl⟩, hW, hsame.mono (by decide) (by decide)⟩
 show Q37 Z a1 tl h0 n0 _ T102.heap _
 rw [e102]
 exact ⟨rfl, N0, rfl⟩
theorem d38_0 : decode prog_50_method_6_code 0 = .ok (.aload_n 0, 1) := by decide +kernel
theorem d38_1 : decode prog_50_method_6_code 1 = .ok (.getfield 30, 3) := by decide +kernel
theorem d38_4 : decode prog_50_method_6_code 4 = .ok (.iload_n 1, 1) := by decide +kernel
theorem d38_5 : decode prog_50_method_6_code 5 = .ok (.aaload, 1) := by decide +kernel
theorem d38_6 : decode prog_50_method_6_code 6 = .ok (.iload_n 2, 1) := by decide +kernel
theorem d38_7 : decode prog_50_method_6_code 7 = .ok (.bipush 6, 2) := by decide +kernel
theorem d38_9 : decode prog_50_method_6_code 9 = .ok (.iushr, 1) := by decide +kernel
theorem d38_10 : decode prog_50_method_6_code 10 = .ok (.laload, 1) := by decide +kernel
theorem d38_11 : decode prog_50_method_6_code 11 = .ok (.lconst 1, 1) := by decide +kernel
theorem d38_12 : decode prog_50_method_6_code 12 = .ok (.iload_n 2, 1) := by decide +kernel
theorem d38_13 : decode prog_50_method_6_code 13 = .ok (.lshl, 1) := by decide +kernel
theorem d38_14 : decode prog_50_method_6_code 14 = .ok (.land, 1) := by decide +kernel
theorem d38_15 : decode prog_50_method_6_code 15 = .ok (.lconst 0, 1) := by decide +kernel
theorem d38_16 : decode prog_50_method_6_code 16 = .ok (.lcmp, 1) := by decide +kernel
theorem d38_17 : decode prog_50_method_6_code 17 = .ok (.ifCond .eq 7, 3) := by decide +kernel
theorem d38_20 : decode prog_50_method_6_code 20 = .ok (.iconst 1, 1) := by decide +kernel
theorem d38_21 : decode prog_50_method_6_code 21 = .ok (.goto 4, 3) := by decide +kernel
theorem d38_24 : decode prog_50_method_6_code 24 = .ok (.iconst 0, 1) := by decide +kernel
theorem d38_25 : decode prog_50_method_6_code 25 = .ok (.ireturn, 1) := by decide +kernel
theorem pn38 : plainFor (⟨"com/example/arcward/arcward/solver/Domains", "contains", "(II)Z"⟩ : MethodName) = true := plainFor_of_name (by first | (simp [plainName, overriddenIn]; done) | decide +kernel)
theorem ef_rm38 (m : MethodId) (a1 : Addr) (bi : Addr) (w0 : Addr) (w1 : Addr) (kbi : ClassId) (kw0 : ClassId) (kw1 : ClassId) (q0 : Int64) (q1 : Int64) (qc : Int64) (p2 : Int32) (p3 : Int32) : entryFrame m #[(.ref a1), (.int p2), (.int p3)] 3 = mkF m 0 #[.val (.ref a1), .val (.int p2), .val (.int p3)] [] := by first | (simp [entryFrame, mkF, argsToLocals, Value.category]; done) | rfl
def Q38 (Z : State) (a1 : Addr) (bi : Addr) (w0 : Addr) (w1 : Addr) (kbi : ClassId) (kw0 : ClassId) (kw1 : ClassId) (q0 : Int64) (q1 : Int64) (qc : Int64) (p2 : Int32) (p3 : Int32) (h0 : Heap) (n0 : Nat) (v : Option Value) (h : Heap) (L : List Loc) : Prop := v = some (.int (own_cn q0 q1 qc p2 p3)) ∧ Fr n0 L ∧ (h = h0)
set_option maxRecDepth 65536 in
set_option maxHeartbeats 40000000 in
theorem rm38 (l : Launch) (Z : State) (a0 : Array Value) (hw : ∀ d ∈ tables_1, d.before a0 Z = true) (ws : List Jvm.Cond) (a1 : Addr) (bi : Addr) (w0 : Addr) (w1 : Addr) (kbi : ClassId) (kw0 : ClassId) (kw1 : ClassId) (q0 : Int64) (q1 : Int64) (qc : Int64) (p2 : Int32) (p3 : Int32) (h0 : Heap) (n0 : Nat) (Z0 : n0 ≤ h0.size) (F1 : Fld Z h0 a1 "com/example/arcward/arcward/solver/Domains" "bits" "[[J" (.ref bi)) (V0 : Arv Z h0 bi kbi (.array .long) (2 : Int32) [(.ref w0), (.ref w1)] .null) (V1 : Arv Z h0 w0 kw0 .long (2 : Int32) [(.long q0), (.long q1)] (.long 0)) (V2 : Arv Z h0 w1 kw1 .long (1 : Int32) [(.long qc)] (.long 0)) (hd : own_dom p2 p3) :
  MetFree l oM6 (head1 (Jvm.Cond.code oM6 prog_50_method_6_code 3 (some .boolean) :: ws) ({ frames := 0, cells := 0, slots := 0, locals := 0 } : Room)) (fun a U => a = #[(.ref a1), (.int p2), (.int p3)] ∧ Z.Warmed39 U.vm ∧ U.heap = h0) (fun _ _ _ _ _ => True) (fun _ U o U' => ∃ v L, o = .returned v ∧ Q38 Z a1 bi w0 w1 kbi kw0 kw1 q0 q1 qc p2 p3 h0 n0 v U'.heap L ∧ FrameEnd U o U' L ({ frames := 0, cells := 0, slots := 0, locals := 0 } : Room).cells ({ frames := 0, cells := 0, slots := 0, locals := 0 } : Room).slots) := by
 refine MetFree.of_bodySF pn38 hisR ?_
 intro p e s m args below meth c s₁ Bd hml0 hP hK
 obtain ⟨rfl, hZ, hh⟩ := hP
 have hx := Bd.exec
 have hby := Bd.bytes
 have hml : c.maxLocals = 3 := hml0
 have hown : s.vm.findClass "com/example/arcward/arcward/solver/Domains" = some m.cls := findClass_of_methodNamed Bd.named
 have hnm := (name_of_methodNamed Bd.named Bd.method).1
 have X0 : Stand p l e ({ frames := 0, cells := 0, slots := 0, locals := 0 } : Room) s m #[(.ref a1), (.int p2), (.int p3)] below meth c s₁ [] 0 0 := Stand.of_body Bd
 have e0 : s₁.heap = h0 := by rw [← hh, Bd.state]; rfl
 have N0 := Fr.nil n0
 have p0 : GF p e below (s₁.setTop (entryFrame m #[(.ref a1), (.int p2), (.int p3)] 3)) s₁ m 0 #[.val (.ref a1), .val (.int p2), .val (.int p3)] [] := fun t_ k_ => castTop (ef_rm38 m a1 bi w0 w1 kbi kw0 kw1 q0 q1 qc p2 p3) k_
 rcases id hd with ⟨hx0, kk, hk, hak⟩ | ⟨hx0, kk, hk1, hk, hak⟩ | ⟨hx0, kk, hk, hak⟩
 ·have p101 : GF p e below _ s₁ m 0 #[.val (.ref a1), .val (.int 0), .val (.int (Int32.ofNat kk))] [] := goF p0 (by rw [hx0, hak])
  have p102 : GF p e below _ s₁ m 1 #[.val (.ref a1), .val (.int 0), .val (.int (Int32.ofNat kk))] [(.ref a1)] := fun t_ k_ => p101 t_ (by
   refine XS.aloadN X0.here hx rfl (hb hby d38_0) rfl rfl ?_
   exact k_)
  obtain ⟨T103, X103, e103, st103⟩ := getF X0 hx hZ hown (host := "") (Or.inl (own_w hw 276 rfl)) Via.refl e0 F1 (g := (mkF m 1 #[.val (.ref a1), .val (.int 0), .val (.int (Int32.ofNat kk))] [(.ref a1)])) rfl rfl (hb hby d38_1)
  have p104 : GF p e below _ T103 m 5 #[.val (.ref a1), .val (.int 0), .val (.int (Int32.ofNat kk))] [(.int 0), (.ref bi)] := fun t_ k_ => (gc p102 st103) t_ (by
   refine XS.iloadN X103.here hx rfl (hb hby d38_4) rfl ?_
   exact k_)
  obtain ⟨cl105, Ar105, q105, S105, Ng105, H105, G105⟩ := id V0
  have hin105 := inb_of S105 (j := (0 : Int32)) ⟨by decide, by decide⟩
  have hat105 := H105.at (v := (.ref w0)) hin105 rfl
  have p106 : GF p e below _ T103 m 10 #[.val (.ref a1), .val (.int 0), .val (.int (Int32.ofNat kk))] [(.int (((Int32.ofNat kk).toUInt32 >>> (6 : UInt32)).toInt32)), (.ref w0)] := fun t_ k_ => p104 t_ (by
   refine X103.aaload hx (j := (0 : Int32)) (v := (.ref w0)) (by rw [e103]; exact Ar105.1) (State.isArrayOf_alike hZ.alike Ar105.2.1) rfl Ar105.2.2 hin105 hat105 (g := (mkF m 5 #[.val (.ref a1), .val (.int 0), .val (.int (Int32.ofNat kk))] [(.int 0), (.ref bi)])) rfl rfl (hb hby d38_5) _ ?_
   refine XS.iloadN X103.here hx rfl (hb hby d38_6) rfl ?_
   refine XS.bipush X103.here hx rfl (hb hby d38_7) ?_
   refine XS.iushr X103.here hx rfl (hb hby d38_9) rfl ?_
   exact k_)
  have p107 : GF p e below _ T103 m 10 #[.val (.ref a1), .val (.int 0), .val (.int (Int32.ofNat kk))] [(.int 0), (.ref w0)] := goF p106 (by rw [show (((Int32.ofNat kk).toUInt32 >>> (6 : UInt32)).toInt32) = (0 : Int32) from (own_q0 hk)])
  obtain ⟨cl108, Ar108, q108, S108, Ng108, H108, G108⟩ := id V1
  have hin108 := inb_of S108 (j := (0 : Int32)) ⟨by decide, by decide⟩
  have hat108 := H108.at (v := (.long q0)) hin108 rfl
  have p109 : GF p e below _ T103 m 17 #[.val (.ref a1), .val (.int 0), .val (.int (Int32.ofNat kk))] [(.int (lcmpW (q0 &&& ((1 : Int64) <<< ((Int32.ofNat kk) &&& 63).toInt64)) (0 : Int64)))] := fun t_ k_ => p107 t_ (by
   refine X103.laload hx (j := (0 : Int32)) (v := (.long q0)) (by rw [e103]; exact Ar108.1) (State.isArrayOf_alike hZ.alike Ar108.2.1) Ar108.2.2 hin108 hat108 (g := (mkF m 10 #[.val (.ref a1), .val (.int 0), .val (.int (Int32.ofNat kk))] [(.int 0), (.ref w0)])) rfl rfl (hb hby d38_10) _ ?_
   refine XS.lconst X103.here hx rfl (hb hby d38_11) ?_
   refine XS.iloadN X103.here hx rfl (hb hby d38_12) rfl ?_
   refine XS.lshl X103.here hx rfl (hb hby d38_13) rfl ?_
   refine XS.land X103.here hx rfl (hb hby d38_14) rfl ?_
   refine XS.lconst X103.here hx rfl (hb hby d38_15) ?_
   refine XS.lcmp X103.here hx rfl (hb hby d38_16) rfl ?_
   exact k_)
  by_cases c110 : (q0 &&& ((1 : Int64) <<< ((Int32.ofNat kk) &&& 63).toInt64)) = (0 : Int64)
  ·have p111 : GF p e below _ T103 m 24 #[.val (.ref a1), .val (.int 0), .val (.int (Int32.ofNat kk))] [] := fun t_ k_ => p109 t_ (by
    refine XS.ifYes X103.here hx rfl (pc0 := 17) (pc' := 24) rfl (hb hby d38_17) rfl ((if0 _ _).trans (teq ((lw_eq _ _).mpr c110)).1) (by decide) (by decide) ?_
    exact k_)
   have p112 : GF p e below _ T103 m 25 #[.val (.ref a1), .val (.int 0), .val (.int (Int32.ofNat kk))] [(.int 0)] := fun t_ k_ => p111 t_ (by
    refine XS.iconst X103.here hx rfl (hb hby d38_24) ?_
    exact k_)
   obtain ⟨fs, hr, hrun, hended, hW, hsame⟩ := X103.leave (v := some (.int 0)) (fun h => by rw [Bd.returns] at h; cases h)
   refine ⟨_, _, p112 _ (retN X103 hx (t := .boolean) Bd.returns (by simp) (hb hby d38_25) hr), hrun, hended, _, _, rfl, ?_, ⟨_, rfl⟩, hW, hsame.mono (by decide) (by decide)⟩
   show Q38 Z a1 bi w0 w1 kbi kw0 kw1 q0 q1 qc p2 p3 h0 n0 _ T103.heap _
   rw [e103]
   exact ⟨congrArg (fun q => some (Value.int q)) (own_cnA0 hx0 hk hak c110).symm, N0, rfl⟩
  ·have p113 : GF p e below _ T103 m 20 #[.val (.ref a1), .val (.int 0), .val (.int (Int32.ofNat kk))] [] := fun t_ k_ => p109 t_ (by
    refine XS.ifNo X103.here hx rfl (hb hby d38_17) rfl ((if0 _ _).trans (feq (mt (lw_eq _ _).mp c110)).1) ?_
    exact k_)
   have p114 : GF p e below _ T103 m 25 #[.val (.ref a1), .val (.int 0), .val (.int (Int32.ofNat kk))] [(.int 1)] := fun t_ k_ => p113 t_ (by
    refine XS.iconst X103.here hx rfl (hb hby d38_20) ?_
    refine XS.goto X103.here hx rfl (pc0 := 21) (pc' := 25) rfl (hb hby d38_21) (by decide) (by decide) ?_
    exact k_)
   obtain ⟨fs, hr, hrun, hended, hW, hsame⟩ := X103.leave (v := some (.int 1)) (fun h => by rw [Bd.returns] at h; cases h)
   refine ⟨_, _, p114 _ (retN X103 hx (t := .boolean) Bd.returns (by simp) (hb hby d38_25) hr), hrun, hended, _, _, rfl, ?_, ⟨_, rfl⟩, hW, hsame.mono (by decide) (by decide)⟩
   show Q38 Z a1 bi w0 w1 kbi kw0 kw1 q0 q1 qc p2 p3 h0 n0 _ T103.heap _
   rw [e103]
   exact ⟨congrArg (fun q => some (Value.int q)) (own_cnA1 hx0 hk hak c110).symm, N0, rfl⟩
 ·have p115 : GF p e below _ s₁ m 0 #[.val (.ref a1), .val (.int 0), .val (.int (Int32.ofNat kk))] [] := goF p0 (by rw [hx0, hak])
  have p116 : GF p e below _ s₁ m 1 #[.val (.ref a1), .val (.int 0), .val (.int (Int32.ofNat kk))] [(.ref a1)] := fun t_ k_ => p115 t_ (by
   refine XS.aloadN X0.here hx rfl (hb hby d38_0) rfl rfl ?_
   exact k_)
  obtain ⟨T117, X117, e117, st117⟩ := getF X0 hx hZ hown (host := "") (Or.inl (own_w hw 276 rfl)) Via.refl e0 F1 (g := (mkF m 1 #[.val (.ref a1), .val (.int 0), .val (.int (Int32.ofNat kk))] [(.ref a1)])) rfl rfl (hb hby d38_1)
  have p118 : GF p e below _ T117 m 5 #[.val (.ref a1), .val (.int 0), .val (.int (Int32.ofNat kk))] [(.int 0), (.ref bi)] := fun t_ k_ => (gc p116 st117) t_ (by
   refine XS.iloadN X117.here hx rfl (hb hby d38_4) rfl ?_
   exact k_)
  obtain ⟨cl119, Ar119, q119, S119, Ng119, H119, G119⟩ := id V0
  have hin119 := inb_of S119 (j := (0 : Int32)) ⟨by decide, by decide⟩
  have hat119 := H119.at (v := (.ref w0)) hin119 rfl
  have p120 : GF p e below _ T117 m 10 #[.val (.ref a1), .val (.int 0), .val (.int (Int32.ofNat kk))] [(.int (((Int32.ofNat kk).toUInt32 >>> (6 : UInt32)).toInt32)), (.ref w0)] := fun t_ k_ => p118 t_ (by
   refine X117.aaload hx (j := (0 : Int32)) (v := (.ref w0)) (by rw [e117]; exact Ar119.1) (State.isArrayOf_alike hZ.alike Ar119.2.1) rfl Ar119.2.2 hin119 hat119 (g := (mkF m 5 #[.val (.ref a1), .val (.int 0), .val (.int (Int32.ofNat kk))] [(.int 0), (.ref bi)])) rfl rfl (hb hby d38_5) _ ?_
   refine XS.iloadN X117.here hx rfl (hb hby d38_6) rfl ?_
   refine XS.bipush X117.here hx rfl (hb hby d38_7) ?_
   refine XS.iushr X117.here hx rfl (hb hby d38_9) rfl ?_
   exact k_)
  have p121 : GF p e below _ T117 m 10 #[.val (.ref a1), .val (.int 0), .val (.int (Int32.ofNat kk))] [(.int 1), (.ref w0)] := goF p120 (by rw [show (((Int32.ofNat kk).toUInt32 >>> (6 : UInt32)).toInt32) = (1 : Int32) from (own_q1 hk1 hk)])
  obtain ⟨cl122, Ar122, q122, S122, Ng122, H122, G122⟩ := id V1
  have hin122 := inb_of S122 (j := (1 : Int32)) ⟨by decide, by decide⟩
  have hat122 := H122.at (v := (.long q1)) hin122 rfl
  have p123 : GF p e below _ T117 m 17 #[.val (.ref a1), .val (.int 0), .val (.int (Int32.ofNat kk))] [(.int (lcmpW (q1 &&& ((1 : Int64) <<< ((Int32.ofNat kk) &&& 63).toInt64)) (0 : Int64)))] := fun t_ k_ => p121 t_ (by
   refine X117.laload hx (j := (1 : Int32)) (v := (.long q1)) (by rw [e117]; exact Ar122.1) (State.isArrayOf_alike hZ.alike Ar122.2.1) Ar122.2.2 hin122 hat122 (g := (mkF m 10 #[.val (.ref a1), .val (.int 0), .val (.int (Int32.ofNat kk))] [(.int 1), (.ref w0)])) rfl rfl (hb hby d38_10) _ ?_
   refine XS.lconst X117.here hx rfl (hb hby d38_11) ?_
   refine XS.iloadN X117.here hx rfl (hb hby d38_12) rfl ?_
   refine XS.lshl X117.here hx rfl (hb hby d38_13) rfl ?_
   refine XS.land X117.here hx rfl (hb hby d38_14) rfl ?_
   refine XS.lconst X117.here hx rfl (hb hby d38_15) ?_
   refine XS.lcmp X117.here hx rfl (hb hby d38_16) rfl ?_
   exact k_)
  by_cases c124 : (q1 &&& ((1 : Int64) <<< ((Int32.ofNat kk) &&& 63).toInt64)) = (0 : Int64)
  ·have p125 : GF p e below _ T117 m 24 #[.val (.ref a1), .val (.int 0), .val (.int (Int32.ofNat kk))] [] := fun t_ k_ => p123 t_ (by
    refine XS.ifYes X117.here hx rfl (pc0 := 17) (pc' := 24) rfl (hb hby d38_17) rfl ((if0 _ _).trans (teq ((lw_eq _ _).mpr c124)).1) (by decide) (by decide) ?_
    exact k_)
   have p126 : GF p e below _ T117 m 25 #[.val (.ref a1), .val (.int 0), .val (.int (Int32.ofNat kk))] [(.int 0)] := fun t_ k_ => p125 t_ (by
    refine XS.iconst X117.here hx rfl (hb hby d38_24) ?_
    exact k_)
   obtain ⟨fs, hr, hrun, hended, hW, hsame⟩ := X117.leave (v := some (.int 0)) (fun h => by rw [Bd.returns] at h; cases h)
   refine ⟨_, _, p126 _ (retN X117 hx (t := .boolean) Bd.returns (by simp) (hb hby d38_25) hr), hrun, hended, _, _, rfl, ?_, ⟨_, rfl⟩, hW, hsame.mono (by decide) (by decide)⟩
   show Q38 Z a1 bi w0 w1 kbi kw0 kw1 q0 q1 qc p2 p3 h0 n0 _ T117.heap _
   rw [e117]
   exact ⟨congrArg (fun q => some (Value.int q)) (own_cnB0 hx0 hk1 hk hak c124).symm, N0, rfl⟩
  ·have p127 : GF p e below _ T117 m 20 #[.val (.ref a1), .val (.int 0), .val (.int (Int32.ofNat kk))] [] := fun t_ k_ => p123 t_ (by
    refine XS.ifNo X117.here hx rfl (hb hby d38_17) rfl ((if0 _ _).trans (feq (mt (lw_eq _ _).mp c124)).1) ?_
    exact k_)
   have p128 : GF p e below _ T117 m 25 #[.val (.ref a1), .val (.int 0), .val (.int (Int32.ofNat kk))] [(.int 1)] := fun t_ k_ => p127 t_ (by
    refine XS.iconst X117.here hx rfl (hb hby d38_20) ?_
    refine XS.goto X117.here hx rfl (pc0 := 21) (pc' := 25) rfl (hb hby d38_21) (by decide) (by decide) ?_
    exact k_)
   obtain ⟨fs, hr, hrun, hended, hW, hsame⟩ := X117.leave (v := some (.int 1)) (fun h => by rw [Bd.returns] at h; cases h)
   refine ⟨_, _, p128 _ (retN X117 hx (t := .boolean) Bd.returns (by simp) (hb hby d38_25) hr), hrun, hended, _, _, rfl, ?_, ⟨_, rfl⟩, hW, hsame.mono (by decide) (by decide)⟩
   show Q38 Z a1 bi w0 w1 kbi kw0 kw1 q0 q1 qc p2 p3 h0 n0 _ T117.heap _
   rw [e117]
   exact ⟨congrArg (fun q => some (Value.int q)) (own_cnB1 hx0 hk1 hk hak c124).symm, N0, rfl⟩
 ·have p129 : GF p e below _ s₁ m 0 #[.val (.ref a1), .val (.int 1), .val (.int (Int32.ofNat kk))] [] := goF p0 (by rw [hx0, hak])
  have p130 : GF p e below _ s₁ m 1 #[.val (.ref a1), .val (.int 1), .val (.int (Int32.ofNat kk))] [(.ref a1)] := fun t_ k_ => p129 t_ (by
   refine XS.aloadN X0.here hx rfl (hb hby d38_0) rfl rfl ?_
   exact k_)
  obtain ⟨T131, X131, e131, st131⟩ := getF X0 hx hZ hown (host := "") (Or.inl (own_w hw 276 rfl)) Via.refl e0 F1 (g := (mkF m 1 #[.val (.ref a1), .val (.int 1), .val (.int (Int32.ofNat kk))] [(.ref a1)])) rfl rfl (hb hby d38_1)
  have p132 : GF p e below _ T131 m 5 #[.val (.ref a1), .val (.int 1), .val (.int (Int32.ofNat kk))] [(.int 1), (.ref bi)] := fun t_ k_ => (gc p130 st131) t_ (by
   refine XS.iloadN X131.here hx rfl (hb hby d38_4) rfl ?_
   exact k_)
  obtain ⟨cl133, Ar133, q133, S133, Ng133, H133, G133⟩ := id V0
  have hin133 := inb_of S133 (j := (1 : Int32)) ⟨by decide, by decide⟩
  have hat133 := H133.at (v := (.ref w1)) hin133 rfl
  have p134 : GF p e below _ T131 m 10 #[.val (.ref a1), .val (.int 1), .val (.int (Int32.ofNat kk))] [(.int (((Int32.ofNat kk).toUInt32 >>> (6 : UInt32)).toInt32)), (.ref w1)] := fun t_ k_ => p132 t_ (by
   refine X131.aaload hx (j := (1 : Int32)) (v := (.ref w1)) (by rw [e131]; exact Ar133.1) (State.isArrayOf_alike hZ.alike Ar133.2.1) rfl Ar133.2.2 hin133 hat133 (g := (mkF m 5 #[.val (.ref a1), .val (.int 1), .val (.int (Int32.ofNat kk))] [(.int 1), (.ref bi)])) rfl rfl (hb hby d38_5) _ ?_
   refine XS.iloadN X131.here hx rfl (hb hby d38_6) rfl ?_
   refine XS.bipush X131.here hx rfl (hb hby d38_7) ?_
   refine XS.iushr X131.here hx rfl (hb hby d38_9) rfl ?_
   exact k_)
  have p135 : GF p e below _ T131 m 10 #[.val (.ref a1), .val (.int 1), .val (.int (Int32.ofNat kk))] [(.int 0), (.ref w1)] := goF p134 (by rw [show (((Int32.ofNat kk).toUInt32 >>> (6 : UInt32)).toInt32) = (0 : Int32) from (own_q0 (by omega))])
  obtain ⟨cl136, Ar136, q136, S136, Ng136, H136, G136⟩ := id V2
  have hin136 := inb_of S136 (j := (0 : Int32)) ⟨by decide, by decide⟩
  have hat136 := H136.at (v := (.long qc)) hin136 rfl
  have p137 : GF p e below _ T131 m 17 #[.val (.ref a1), .val (.int 1), .val (.int (Int32.ofNat kk))] [(.int (lcmpW (qc &&& ((1 : Int64) <<< ((Int32.ofNat kk) &&& 63).toInt64)) (0 : Int64)))] := fun t_ k_ => p135 t_ (by
   refine X131.laload hx (j := (0 : Int32)) (v := (.long qc)) (by rw [e131]; exact Ar136.1) (State.isArrayOf_alike hZ.alike Ar136.2.1) Ar136.2.2 hin136 hat136 (g := (mkF m 10 #[.val (.ref a1), .val (.int 1), .val (.int (Int32.ofNat kk))] [(.int 0), (.ref w1)])) rfl rfl (hb hby d38_10) _ ?_
   refine XS.lconst X131.here hx rfl (hb hby d38_11) ?_
   refine XS.iloadN X131.here hx rfl (hb hby d38_12) rfl ?_
   refine XS.lshl X131.here hx rfl (hb hby d38_13) rfl ?_
   refine XS.land X131.here hx rfl (hb hby d38_14) rfl ?_
   refine XS.lconst X131.here hx rfl (hb hby d38_15) ?_
   refine XS.lcmp X131.here hx rfl (hb hby d38_16) rfl ?_
   exact k_)
  by_cases c138 : (qc &&& ((1 : Int64) <<< ((Int32.ofNat kk) &&& 63).toInt64)) = (0 : Int64)
  ·have p139 : GF p e below _ T131 m 24 #[.val (.ref a1), .val (.int 1), .val (.int (Int32.ofNat kk))] [] := fun t_ k_ => p137 t_ (by
    refine XS.ifYes X131.here hx rfl (pc0 := 17) (pc' := 24) rfl (hb hby d38_17) rfl ((if0 _ _).trans (teq ((lw_eq _ _).mpr c138)).1) (by decide) (by decide) ?_
    exact k_)
   have p140 : GF p e below _ T131 m 25 #[.val (.ref a1), .val (.int 1), .val (.int (Int32.ofNat kk))] [(.int 0)] := fun t_ k_ => p139 t_ (by
    refine XS.iconst X131.here hx rfl (hb hby d38_24) ?_
    exact k_)
   obtain ⟨fs, hr, hrun, hended, hW, hsame⟩ := X131.leave (v := some (.int 0)) (fun h => by rw [Bd.returns] at h; cases h)
   refine ⟨_, _, p140 _ (retN X131 hx (t := .boolean) Bd.returns (by simp) (hb hby d38_25) hr), hrun, hended, _, _, rfl, ?_, ⟨_, rfl⟩, hW, hsame.mono (by decide) (by decide)⟩
   show Q38 Z a1 bi w0 w1 kbi kw0 kw1 q0 q1 qc p2 p3 h0 n0 _ T131.heap _
   rw [e131]
   exact ⟨congrArg (fun q => some (Value.int q)) (own_cnC0 hx0 hk hak c138).symm, N0, rfl⟩
  ·have p141 : GF p e below _ T131 m 20 #[.val (.ref a1), .val (.int 1), .val (.int (Int32.ofNat kk))] [] := fun t_ k_ => p137 t_ (by
    refine XS.ifNo X131.here hx rfl (hb hby d38_17) rfl ((if0 _ _).trans (feq (mt (lw_eq _ _).mp c138)).1) ?_
    exact k_)
   have p142 : GF p e below _ T131 m 25 #[.val (.ref a1), .val (.int 1), .val (.int (Int32.ofNat kk))] [(.int 1)] := fun t_ k_ => p141 t_ (by
    refine XS.iconst X131.here hx rfl (hb hby d38_20) ?_
    refine XS.goto X131.here hx rfl (pc0 := 21) (pc' := 25) rfl (hb hby d38_21) (by decide) (by decide) ?_
    exact k_)
   obtain ⟨fs, hr, hrun, hended, hW, hsame⟩ := X131.leave (v := some (.int 1)) (fun h => by rw [Bd.returns] at h; cases h)
   refine ⟨_, _, p142 _ (retN X131 hx (t := .boolean) Bd.returns (by simp) (hb hby d38_25) hr), hrun, hended, _, _, rfl, ?_, ⟨_, rfl⟩, hW, hsame.mono (by decide) (by decide)⟩
   show Q38 Z a1 bi w0 w1 kbi kw0 kw1 q0 q1 qc p2 p3 h0 n0 _ T131.heap _
   rw [e131]
   exact ⟨congrArg (fun q => some (Value.int q)) (own_cnC1 hx0 hk hak c138).symm, N0, rfl⟩
theorem d36_0 : decode method_2_code 0 = .ok (.iload_n 0, 1) := by decide +kernel
theorem d36_1 : decode method_2_code 1 = .ok (.ifCond .ne 8, 3) := by decide +kernel
theorem d36_4 : decode method_2_code 4 = .ok (.bipush 70, 2) := by decide +kernel
theorem d36_6 : decode method_2_code 6 = .ok (.goto 4, 3) := by decide +kernel
theorem d36_9 : decode method_2_code 9 = .ok (.iconst 3, 1) := by decide +kernel
theorem d36_10 : decode method_2_code 10 = .ok (.ireturn, 1) := by decide +kernel
theorem pn36 : plainFor (⟨"com/example/arcward/arcward/solver/DomainsContainsPinLaw", "sizeOf", "(I)I"⟩ : MethodName) = true := plainFor_of_name (by first | (simp [plainName, overriddenIn]; done) | decide +kernel)
theorem ef_rm36 (m : MethodId) (p1 : Int32) : entryFrame m #[(.int p1)] 1 = mkF m 0 #[.val (.int p1)] [] := by first | (simp [entryFrame, mkF, argsToLocals, Value.category]; done) | rfl
def Q36 (Z : State) (p1 : Int32) (h0 : Heap) (n0 : Nat) (v : Option Value) (h : Heap) (L : List Loc) : Prop := v = some (.int (own_sz p1)) ∧ Fr n0 L ∧ (h = h0)
set_option maxRecDepth 65536 in
set_option maxHeartbeats 40000000 in
theorem rm36 (l : Launch) (Z : State) (a0 : Array Value) (hw : ∀ d ∈ tables_1, d.before a0 Z = true) (ws : List Jvm.Cond) (p1 : Int32) (h0 : Heap) (n0 : Nat) (Z0 : n0 ≤ h0.size) :
  MetFree l oM13 (head1 (Jvm.Cond.code oM13 method_2_code 1 (some .int) :: ws) ({ frames := 0, cells := 0, slots := 0, locals := 0 } : Room)) (fun a U => a = #[(.int p1)] ∧ Z.Warmed39 U.vm ∧ U.heap = h0) (fun _ _ _ _ _ => True) (fun _ U o U' => ∃ v L, o = .returned v ∧ Q36 Z p1 h0 n0 v U'.heap L ∧ FrameEnd U o U' L ({ frames := 0, cells := 0, slots := 0, locals := 0 } : Room).cells ({ frames := 0, cells := 0, slots := 0, locals := 0 } : Room).slots) := by
 refine MetFree.of_bodySF pn36 hisR ?_
 intro p e s m args below meth c s₁ Bd hml0 hP hK
 obtain ⟨rfl, hZ, hh⟩ := hP
 have hx := Bd.exec
 have hby := Bd.bytes
 have hml : c.maxLocals = 1 := hml0
 have hown : s.vm.findClass "com/example/arcward/arcward/solver/DomainsContainsPinLaw" = some m.cls := findClass_of_methodNamed Bd.named
 have hnm := (name_of_methodNamed Bd.named Bd.method).1
 have X0 : Stand p l e ({ frames := 0, cells := 0, slots := 0, locals := 0 } : Room) s m #[(.int p1)] below meth c s₁ [] 0 0 := Stand.of_body Bd
 have e0 : s₁.heap = h0 := by rw [← hh, Bd.state]; rfl
 have N0 := Fr.nil n0
 have p0 : GF p e below (s₁.setTop (entryFrame m #[(.int p1)] 1)) s₁ m 0 #[.val (.int p1)] [] := fun t_ k_ => castTop (ef_rm36 m p1) k_
 have p101 : GF p e below _ s₁ m 1 #[.val (.int p1)] [(.int p1)] := fun t_ k_ => p0 t_ (by
  refine XS.iloadN X0.here hx rfl (hb hby d36_0) rfl ?_
  exact k_)
 by_cases c102 : p1 = (0 : Int32)
 ·have p103 : GF p e below _ s₁ m 4 #[.val (.int p1)] [] := fun t_ k_ => p101 t_ (by
   refine XS.ifNo X0.here hx rfl (hb hby d36_1) rfl ((if0 _ _).trans (teq c102).2) ?_
   exact k_)
  have p104 : GF p e below _ s₁ m 10 #[.val (.int p1)] [(.int 70)] := fun t_ k_ => p103 t_ (by
   refine XS.bipush X0.here hx rfl (hb hby d36_4) ?_
   refine XS.goto X0.here hx rfl (pc0 := 6) (pc' := 10) rfl (hb hby d36_6) (by decide) (by decide) ?_
   exact k_)
  obtain ⟨fs, hr, hrun, hended, hW, hsame⟩ := X0.leave (v := some (.int 70)) (fun h => by rw [Bd.returns] at h; cases h)
  refine ⟨_, _, p104 _ (retI X0 hx Bd.returns (hb hby d36_10) hr), hrun, hended, _, _, rfl, ?_, ⟨_, rfl⟩, hW, hsame.mono (by decide) (by decide)⟩
  show Q36 Z p1 h0 n0 _ s₁.heap _
  rw [e0]
  exact ⟨by simp [own_sz, c102], N0, rfl⟩
 ·have p105 : GF p e below _ s₁ m 9 #[.val (.int p1)] [] := fun t_ k_ => p101 t_ (by
   refine XS.ifYes X0.here hx rfl (pc0 := 1) (pc' := 9) rfl (hb hby d36_1) rfl ((if0 _ _).trans (feq c102).2) (by decide) (by decide) ?_
   exact k_)
  have p106 : GF p e below _ s₁ m 10 #[.val (.int p1)] [(.int 3)] := fun t_ k_ => p105 t_ (by
   refine XS.iconst X0.here hx rfl (hb hby d36_9) ?_
   exact k_)
  obtain ⟨fs, hr, hrun, hended, hW, hsame⟩ := X0.leave (v := some (.int 3)) (fun h => by rw [Bd.returns] at h; cases h)
  refine ⟨_, _, p106 _ (retI X0 hx Bd.returns (hb hby d36_10) hr), hrun, hended, _, _, rfl, ?_, ⟨_, rfl⟩, hW, hsame.mono (by decide) (by decide)⟩
  show Q36 Z p1 h0 n0 _ s₁.heap _
  rw [e0]
  exact ⟨by simp [own_sz, c102], N0, rfl⟩
theorem pd20 : parseMethodDescriptor "(Ljava/lang/String;I[I)V" = some ⟨[(.object "java/lang/String"), .int, (.array .int)], none⟩ := by decide +kernel
theorem pd21 : parseMethodDescriptor "(Ljava/lang/Object;)Z" = some ⟨[(.object "java/lang/Object")], some .boolean⟩ := by decide +kernel
theorem pd22 : parseMethodDescriptor "(Ljava/util/List;Ljava/util/List;)V" = some ⟨[(.object "java/util/List"), (.object "java/util/List")], none⟩ := by decide +kernel
theorem pd23 : parseMethodDescriptor "(Lcom/example/arcward/arcward/model/Instance;I)V" = some ⟨[(.object "com/example/arcward/arcward/model/Instance"), .int], none⟩ := by decide +kernel
theorem pd24 : parseMethodDescriptor "(II)Z" = some ⟨[.int, .int], some .boolean⟩ := by decide +kernel
theorem pd25 : parseMethodDescriptor "(II)V" = some ⟨[.int, .int], none⟩ := by decide +kernel
theorem pn0 : plainFor (⟨"com/example/arcward/arcward/solver/DomainsContainsPinLaw", "law", "(IIII)Z"⟩ : MethodName) = true := plainFor_of_name (by first | (simp [plainName, overriddenIn]; done) | decide +kernel)
theorem ef_rm0 (m : MethodId) (p1 : Int32) (p2 : Int32) (p3 : Int32) (p4 : Int32) (de : Addr) (kde : ClassId) (el : Addr) (ea : Addr) (kea : ClassId) (em : Addr) (mr : Addr) : entryFrame m #[(.int p1), (.int p2), (.int p3), (.int p4)] maxLocals = mkF m 0 (oLI4u19 p1 p2 p3 p4) [] := by first | (simp [entryFrame, mkF, argsToLocals, Value.category, maxLocals]; done) | rfl
def Q0 (Z : State) (p1 : Int32) (p2 : Int32) (p3 : Int32) (p4 : Int32) (de : Addr) (kde : ClassId) (el : Addr) (ea : Addr) (kea : ClassId) (em : Addr) (mr : Addr) (h0 : Heap) (n0 : Nat) (v : Option Value) (h : Heap) (L : List Loc) : Prop := v = some (.int 1) ∧ Fr n0 L
set_option maxRecDepth 65536 in
set_option maxHeartbeats 40000000 in
theorem rm0 (l : Launch) (Z : State) (a0 : Array Value) (hw : ∀ d ∈ tables_1, d.before a0 Z = true) (ws : List Jvm.Cond) (p1 : Int32) (p2 : Int32) (p3 : Int32) (p4 : Int32) (de : Addr) (kde : ClassId) (el : Addr) (ea : Addr) (kea : ClassId) (em : Addr) (mr : Addr) (h0 : Heap) (n0 : Nat) (Z0 : n0 ≤ h0.size) (O1 : Old Z n0 h0) (G : own_H Z de kde el ea kea em mr) :
  MetFree l x (head1 (Jvm.Cond.code x code maxLocals ret :: ws) room_1) (fun a U => a = #[(.int p1), (.int p2), (.int p3), (.int p4)] ∧ Z.Warmed39 U.vm ∧ U.heap = h0 ∧ IB Z U.vm []) (fun _ _ _ _ _ => True) (fun _ U o U' => ∃ v L, o = .returned v ∧ Q0 Z p1 p2 p3 p4 de kde el ea kea em mr h0 n0 v U'.heap L ∧ ReturnedEndW U o U' L room_1.cells room_1.slots) := by
 refine MetFree.of_bodySF pn0 hisR ?_
 intro p e s m args below meth c s₁ Bd hml0 hP hK
 obtain ⟨rfl, hZ, hh, I0⟩ := hP
 have hx := Bd.exec
 have hby := Bd.bytes
 have hml : c.maxLocals = 23 := hml0
 have hown : s.vm.findClass "com/example/arcward/arcward/solver/DomainsContainsPinLaw" = some m.cls := findClass_of_methodNamed Bd.named
 have hnm := (name_of_methodNamed Bd.named Bd.method).1
 have X0 : Stand p l e room_1 s m #[(.int p1), (.int p2), (.int p3), (.int p4)] below meth c s₁ [] 0 0 := Stand.of_body Bd
 have e0 : s₁.heap = h0 := by rw [← hh, Bd.state]; rfl
 have N0 := Fr.nil n0
 have p0 : GF p e below (s₁.setTop (entryFrame m #[(.int p1), (.int p2), (.int p3), (.int p4)] maxLocals)) s₁ m 0 (oLI4u19 p1 p2 p3 p4) [] := fun t_ k_ => castTop (ef_rm0 m p1 p2 p3 p4 de kde el ea kea em mr) k_
 have hkp : ∀ (b : Addr) (cl : Cell), Z.heap[b]? = some cl → s.heap[b]? = some cl := fun b cl q => by rw [hh]; exact O1.2.2 b cl q
 have p101 : GF p e below _ s₁ m 2 (oLI4u19 p1 p2 p3 p4) [(.int 70)] := fun t_ k_ => p0 t_ (by
  refine XS.bipush X0.here hx rfl (hb hby at_0) ?_
  exact k_)
 obtain ⟨T102, h102, k102, X102, e102, E102, A102, AE102, st102⟩ := newPE X0 hx hZ (own_w hw 0 rfl) e0 (g := (mkF m 2 (oLI4u19 p1 p2 p3 p4) [(.int 70)])) rfl (hb hby at_2) rfl (by decide) (cap := 70) (by decide) (by decide) (by decide) (by decide) (ad := "[I") (by decide)
 obtain ⟨b102, g102⟩ : ∃ z, z = h0.size := ⟨_, rfl⟩
 rw [← g102] at A102 AE102 st102
 have ge_b102 : n0 ≤ b102 := Nat.le_trans (Nat.le_trans Z0 (Keep.refl h0 []).1) (Nat.le_of_eq g102.symm)
 have sz_b102 : h0.size ≤ b102 := Nat.le_trans (Keep.refl h0 []).1 (Nat.le_of_eq g102.symm)
 have K103 : Keep h0 h102 [] := (Keep.refl h0 []).ext E102
 have V102 : Arv Z h102 b102 k102 .int (70 : Int32) (List.replicate 70 (.int 0)) (.int 0) := (Arv.new A102 (by decide)).pad (pad_rep [] (.int 0) 70)
 have p104 : GF p e below _ T102 m 7 (oLI4u19 p1 p2 p3 p4) [(.int 0), (.int 0), (.ref b102), (.ref b102)] := fun t_ k_ => (gc p101 st102) t_ (by
  refine XS.dup X102.here hx rfl (hb hby at_4) rfl rfl ?_
  refine XS.iconst X102.here hx rfl (hb hby at_5) ?_
  refine XS.iconst X102.here hx rfl (hb hby at_6) ?_
  exact k_)
 obtain ⟨cl105, Ar105, q105, S105, Ng105, H105, G105⟩ := id V102
 have hin105 := inb_of S105 (j := (0 : Int32)) ⟨by decide, by decide⟩
 obtain ⟨T105, h105, X105, e105, W105, st105⟩ := stI X102 hx hZ e102 Ar105 (j := (0 : Int32)) hin105 (g := (mkF m 7 (oLI4u19 p1 p2 p3 p4) [(.int 0), (.int 0), (.ref b102), (.ref b102)])) rfl rfl (hb hby at_7)
 have K106 : Keep h0 h105 [] := K103.wr W105 (Or.inr sz_b102)
 have N105 := Fr.snoc X105 N0 ge_b102
 have V105 : Arv Z h105 b102 k102 .int (70 : Int32) (own_pz 1) (.int 0) := by have z := Arv.set (vs := own_pz 0) Ar105 q105 S105 Ng105 H105 G105 rfl W105 0 rfl (by rw [own_pzl]; decide); exact z
 have p107 : GF p e below _ T105 m 11 (oLI4u19 p1 p2 p3 p4) [(.int 1), (.int 1), (.ref b102), (.ref b102)] := fun t_ k_ => (gc p104 st105) t_ (by
  refine XS.dup X105.here hx rfl (hb hby at_8) rfl rfl ?_
  refine XS.iconst X105.here hx rfl (hb hby at_9) ?_
  refine XS.iconst X105.here hx rfl (hb hby at_10) ?_
  exact k_)
 obtain ⟨cl108, Ar108, q108, S108, Ng108, H108, G108⟩ := id V105
 have hin108 := inb_of S108 (j := (1 : Int32)) ⟨by decide, by decide⟩
 obtain ⟨T108, h108, X108, e108, W108, st108⟩ := stI X105 hx hZ e105 Ar108 (j := (1 : Int32)) hin108 (g := (mkF m 11 (oLI4u19 p1 p2 p3 p4) [(.int 1), (.int 1), (.ref b102), (.ref b102)])) rfl rfl (hb hby at_11)
 have K109 : Keep h0 h108 [] := K106.wr W108 (Or.inr sz_b102)
 have N108 := Fr.snoc X108 N105 ge_b102
 have V108 : Arv Z h108 b102 k102 .int (70 : Int32) (own_pz 2) (.int 0) := by have z := Arv.set (vs := own_pz 1) Ar108 q108 S108 Ng108 H108 G108 rfl W108 1 rfl (by rw [own_pzl]; decide); exact z
 have p110 : GF p e below _ T108 m 15 (oLI4u19 p1 p2 p3 p4) [(.int 2), (.int 2), (.ref b102), (.ref b102)] := fun t_ k_ => (gc p107 st108) t_ (by
  refine XS.dup X108.here hx rfl (hb hby at_12) rfl rfl ?_
  refine XS.iconst X108.here hx rfl (hb hby at_13) ?_
  refine XS.iconst X108.here hx rfl (hb hby at_14) ?_
  exact k_)
 obtain ⟨cl111, Ar111, q111, S111, Ng111, H111, G111⟩ := id V108
 have hin111 := inb_of S111 (j := (2 : Int32)) ⟨by decide, by decide⟩
 obtain ⟨T111, h111, X111, e111, W111, st111⟩ := stI X108 hx hZ e108 Ar111 (j := (2 : Int32)) hin111 (g := (mkF m 15 (oLI4u19 p1 p2 p3 p4) [(.int 2), (.int 2), (.ref b102), (.ref b102)])) rfl rfl (hb hby at_15)
 have K112 : Keep h0 h111 [] := K109.wr W111 (Or.inr sz_b102)
 have N111 := Fr.snoc X111 N108 ge_b102
 have V111 : Arv Z h111 b102 k102 .int (70 : Int32) (own_pz 3) (.int 0) := by have z := Arv.set (vs := own_pz 2) Ar111 q111 S111 Ng111 H111 G111 rfl W111 2 rfl (by rw [own_pzl]; decide); exact z
 have p113 : GF p e below _ T111 m 19 (oLI4u19 p1 p2 p3 p4) [(.int 3), (.int 3), (.ref b102), (.ref b102)] := fun t_ k_ => (gc p110 st111) t_ (by
  refine XS.dup X111.here hx rfl (hb hby at_16) rfl rfl ?_
  refine XS.iconst X111.here hx rfl (hb hby at_17) ?_
  refine XS.iconst X111.here hx rfl (hb hby at_18) ?_
  exact k_)
 obtain ⟨cl114, Ar114, q114, S114, Ng114, H114, G114⟩ := id V111
 have hin114 := inb_of S114 (j := (3 : Int32)) ⟨by decide, by decide⟩
 obtain ⟨T114, h114, X114, e114, W114, st114⟩ := stI X111 hx hZ e111 Ar114 (j := (3 : Int32)) hin114 (g := (mkF m 19 (oLI4u19 p1 p2 p3 p4) [(.int 3), (.int 3), (.ref b102), (.ref b102)])) rfl rfl (hb hby at_19)
 have K115 : Keep h0 h114 [] := K112.wr W114 (Or.inr sz_b102)
 have N114 := Fr.snoc X114 N111 ge_b102
 have V114 : Arv Z h114 b102 k102 .int (70 : Int32) (own_pz 4) (.int 0) := by have z := Arv.set (vs := own_pz 3) Ar114 q114 S114 Ng114 H114 G114 rfl W114 3 rfl (by rw [own_pzl]; decide); exact z
 have p116 : GF p e below _ T114 m 23 (oLI4u19 p1 p2 p3 p4) [(.int 4), (.int 4), (.ref b102), (.ref b102)] := fun t_ k_ => (gc p113 st114) t_ (by
  refine XS.dup X114.here hx rfl (hb hby at_20) rfl rfl ?_
  refine XS.iconst X114.here hx rfl (hb hby at_21) ?_
  refine XS.iconst X114.here hx rfl (hb hby at_22) ?_
  exact k_)
 obtain ⟨cl117, Ar117, q117, S117, Ng117, H117, G117⟩ := id V114
 have hin117 := inb_of S117 (j := (4 : Int32)) ⟨by decide, by decide⟩
 obtain ⟨T117, h117, X117, e117, W117, st117⟩ := stI X114 hx hZ e114 Ar117 (j := (4 : Int32)) hin117 (g := (mkF m 23 (oLI4u19 p1 p2 p3 p4) [(.int 4), (.int 4), (.ref b102), (.ref b102)])) rfl rfl (hb hby at_23)
 have K118 : Keep h0 h117 [] := K115.wr W117 (Or.inr sz_b102)
 have N117 := Fr.snoc X117 N114 ge_b102
 have V117 : Arv Z h117 b102 k102 .int (70 : Int32) (own_pz 5) (.int 0) := by have z := Arv.set (vs := own_pz 4) Ar117 q117 S117 Ng117 H117 G117 rfl W117 4 rfl (by rw [own_pzl]; decide); exact z
 have p119 : GF p e below _ T117 m 27 (oLI4u19 p1 p2 p3 p4) [(.int 5), (.int 5), (.ref b102), (.ref b102)] := fun t_ k_ => (gc p116 st117) t_ (by
  refine XS.dup X117.here hx rfl (hb hby at_24) rfl rfl ?_
  refine XS.iconst X117.here hx rfl (hb hby at_25) ?_
  refine XS.iconst X117.here hx rfl (hb hby at_26) ?_
  exact k_)
 obtain ⟨cl120, Ar120, q120, S120, Ng120, H120, G120⟩ := id V117
 have hin120 := inb_of S120 (j := (5 : Int32)) ⟨by decide, by decide⟩
 obtain ⟨T120, h120, X120, e120, W120, st120⟩ := stI X117 hx hZ e117 Ar120 (j := (5 : Int32)) hin120 (g := (mkF m 27 (oLI4u19 p1 p2 p3 p4) [(.int 5), (.int 5), (.ref b102), (.ref b102)])) rfl rfl (hb hby at_27)
 have K121 : Keep h0 h120 [] := K118.wr W120 (Or.inr sz_b102)
 have N120 := Fr.snoc X120 N117 ge_b102
 have V120 : Arv Z h120 b102 k102 .int (70 : Int32) (own_pz 6) (.int 0) := by have z := Arv.set (vs := own_pz 5) Ar120 q120 S120 Ng120 H120 G120 rfl W120 5 rfl (by rw [own_pzl]; decide); exact z
 obtain ⟨T122, h122, L122, X122, e122, K122, B122, N122, V122, p122⟩ := own_put (pc := 28) X120 hx hZ e120 K121 (Keep.refl h120 [b102]) sz_b102 ge_b102 N120 6 (by decide) rfl V120 (gc p119 st120) (hb hby at_28) (hb hby at_29) (hb hby at_31) (hb hby at_33)
 obtain ⟨T123, h123, L123, X123, e123, K123, B123, N123, V123, p123⟩ := own_put (pc := 34) X122 hx hZ e122 K122 B122 sz_b102 ge_b102 N122 7 (by decide) rfl V122 p122 (hb hby at_34) (hb hby at_35) (hb hby at_37) (hb hby at_39)
 obtain ⟨T124, h124, L124, X124, e124, K124, B124, N124, V124, p124⟩ := own_put (pc := 40) X123 hx hZ e123 K123 B123 sz_b102 ge_b102 N123 8 (by decide) rfl V123 p123 (hb hby at_40) (hb hby at_41) (hb hby at_43) (hb hby at_45)
 obtain ⟨T125, h125, L125, X125, e125, K125, B125, N125, V125, p125⟩ := own_put (pc := 46) X124 hx hZ e124 K124 B124 sz_b102 ge_b102 N124 9 (by decide) rfl V124 p124 (hb hby at_46) (hb hby at_47) (hb hby at_49) (hb hby at_51)
 obtain ⟨T126, h126, L126, X126, e126, K126, B126, N126, V126, p126⟩ := own_put (pc := 52) X125 hx hZ e125 K125 B125 sz_b102 ge_b102 N125 10 (by decide) rfl V125 p125 (hb hby at_52) (hb hby at_53) (hb hby at_55) (hb hby at_57)
 obtain ⟨T127, h127, L127, X127, e127, K127, B127, N127, V127, p127⟩ := own_put (pc := 58) X126 hx hZ e126 K126 B126 sz_b102 ge_b102 N126 11 (by decide) rfl V126 p126 (hb hby at_58) (hb hby at_59) (hb hby at_61) (hb hby at_63)
 obtain ⟨T128, h128, L128, X128, e128, K128, B128, N128, V128, p128⟩ := own_put (pc := 64) X127 hx hZ e127 K127 B127 sz_b102 ge_b102 N127 12 (by decide) rfl V127 p127 (hb hby at_64) (hb hby at_65) (hb hby at_67) (hb hby at_69)
 obtain ⟨T129, h129, L129, X129, e129, K129, B129, N129, V129, p129⟩ := own_put (pc := 70) X128 hx hZ e128 K128 B128 sz_b102 ge_b102 N128 13 (by decide) rfl V128 p128 (hb hby at_70) (hb hby at_71) (hb hby at_73) (hb hby at_75)
 obtain ⟨T130, h130, L130, X130, e130, K130, B130, N130, V130, p130⟩ := own_put (pc := 76) X129 hx hZ e129 K129 B129 sz_b102 ge_b102 N129 14 (by decide) rfl V129 p129 (hb hby at_76) (hb hby at_77) (hb hby at_79) (hb hby at_81)
 obtain ⟨T131, h131, L131, X131, e131, K131, B131, N131, V131, p131⟩ := own_put (pc := 82) X130 hx hZ e130 K130 B130 sz_b102 ge_b102 N130 15 (by decide) rfl V130 p130 (hb hby at_82) (hb hby at_83) (hb hby at_85) (hb hby at_87)
 obtain ⟨T132, h132, L132, X132, e132, K132, B132, N132, V132, p132⟩ := own_put (pc := 88) X131 hx hZ e131 K131 B131 sz_b102 ge_b102 N131 16 (by decide) rfl V131 p131 (hb hby at_88) (hb hby at_89) (hb hby at_91) (hb hby at_93)
 obtain ⟨T133, h133, L133, X133, e133, K133, B133, N133, V133, p133⟩ := own_put (pc := 94) X132 hx hZ e132 K132 B132 sz_b102 ge_b102 N132 17 (by decide) rfl V132 p132 (hb hby at_94) (hb hby at_95) (hb hby at_97) (hb hby at_99)
 obtain ⟨T134, h134, L134, X134, e134, K134, B134, N134, V134, p134⟩ := own_put (pc := 100) X133 hx hZ e133 K133 B133 sz_b102 ge_b102 N133 18 (by decide) rfl V133 p133 (hb hby at_100) (hb hby at_101) (hb hby at_103) (hb hby at_105)
 obtain ⟨T135, h135, L135, X135, e135, K135, B135, N135, V135, p135⟩ := own_put (pc := 106) X134 hx hZ e134 K134 B134 sz_b102 ge_b102 N134 19 (by decide) rfl V134 p134 (hb hby at_106) (hb hby at_107) (hb hby at_109) (hb hby at_111)
 obtain ⟨T136, h136, L136, X136, e136, K136, B136, N136, V136, p136⟩ := own_put (pc := 112) X135 hx hZ e135 K135 B135 sz_b102 ge_b102 N135 20 (by decide) rfl V135 p135 (hb hby at_112) (hb hby at_113) (hb hby at_115) (hb hby at_117)
 obtain ⟨T137, h137, L137, X137, e137, K137, B137, N137, V137, p137⟩ := own_put (pc := 118) X136 hx hZ e136 K136 B136 sz_b102 ge_b102 N136 21 (by decide) rfl V136 p136 (hb hby at_118) (hb hby at_119) (hb hby at_121) (hb hby at_123)
 obtain ⟨T138, h138, L138, X138, e138, K138, B138, N138, V138, p138⟩ := own_put (pc := 124) X137 hx hZ e137 K137 B137 sz_b102 ge_b102 N137 22 (by decide) rfl V137 p137 (hb hby at_124) (hb hby at_125) (hb hby at_127) (hb hby at_129)
 obtain ⟨T139, h139, L139, X139, e139, K139, B139, N139, V139, p139⟩ := own_put (pc := 130) X138 hx hZ e138 K138 B138 sz_b102 ge_b102 N138 23 (by decide) rfl V138 p138 (hb hby at_130) (hb hby at_131) (hb hby at_133) (hb hby at_135)
 obtain ⟨T140, h140, L140, X140, e140, K140, B140, N140, V140, p140⟩ := own_put (pc := 136) X139 hx hZ e139 K139 B139 sz_b102 ge_b102 N139 24 (by decide) rfl V139 p139 (hb hby at_136) (hb hby at_137) (hb hby at_139) (hb hby at_141)
 obtain ⟨T141, h141, L141, X141, e141, K141, B141, N141, V141, p141⟩ := own_put (pc := 142) X140 hx hZ e140 K140 B140 sz_b102 ge_b102 N140 25 (by decide) rfl V140 p140 (hb hby at_142) (hb hby at_143) (hb hby at_145) (hb hby at_147)
 obtain ⟨T142, h142, L142, X142, e142, K142, B142, N142, V142, p142⟩ := own_put (pc := 148) X141 hx hZ e141 K141 B141 sz_b102 ge_b102 N141 26 (by decide) rfl V141 p141 (hb hby at_148) (hb hby at_149) (hb hby at_151) (hb hby at_153)
 obtain ⟨T143, h143, L143, X143, e143, K143, B143, N143, V143, p143⟩ := own_put (pc := 154) X142 hx hZ e142 K142 B142 sz_b102 ge_b102 N142 27 (by decide) rfl V142 p142 (hb hby at_154) (hb hby at_155) (hb hby at_157) (hb hby at_159)
 obtain ⟨T144, h144, L144, X144, e144, K144, B144, N144, V144, p144⟩ := own_put (pc := 160) X143 hx hZ e143 K143 B143 sz_b102 ge_b102 N143 28 (by decide) rfl V143 p143 (hb hby at_160) (hb hby at_161) (hb hby at_163) (hb hby at_165)
 obtain ⟨T145, h145, L145, X145, e145, K145, B145, N145, V145, p145⟩ := own_put (pc := 166) X144 hx hZ e144 K144 B144 sz_b102 ge_b102 N144 29 (by decide) rfl V144 p144 (hb hby at_166) (hb hby at_167) (hb hby at_169) (hb hby at_171)
 obtain ⟨T146, h146, L146, X146, e146, K146, B146, N146, V146, p146⟩ := own_put (pc := 172) X145 hx hZ e145 K145 B145 sz_b102 ge_b102 N145 30 (by decide) rfl V145 p145 (hb hby at_172) (hb hby at_173) (hb hby at_175) (hb hby at_177)
 obtain ⟨T147, h147, L147, X147, e147, K147, B147, N147, V147, p147⟩ := own_put (pc := 178) X146 hx hZ e146 K146 B146 sz_b102 ge_b102 N146 31 (by decide) rfl V146 p146 (hb hby at_178) (hb hby at_179) (hb hby at_181) (hb hby at_183)
 obtain ⟨T148, h148, L148, X148, e148, K148, B148, N148, V148, p148⟩ := own_put (pc := 184) X147 hx hZ e147 K147 B147 sz_b102 ge_b102 N147 32 (by decide) rfl V147 p147 (hb hby at_184) (hb hby at_185) (hb hby at_187) (hb hby at_189)
 obtain ⟨T149, h149, L149, X149, e149, K149, B149, N149, V149, p149⟩ := own_put (pc := 190) X148 hx hZ e148 K148 B148 sz_b102 ge_b102 N148 33 (by decide) rfl V148 p148 (hb hby at_190) (hb hby at_191) (hb hby at_193) (hb hby at_195)
 obtain ⟨T150, h150, L150, X150, e150, K150, B150, N150, V150, p150⟩ := own_put (pc := 196) X149 hx hZ e149 K149 B149 sz_b102 ge_b102 N149 34 (by decide) rfl V149 p149 (hb hby at_196) (hb hby at_197) (hb hby at_199) (hb hby at_201)
 obtain ⟨T151, h151, L151, X151, e151, K151, B151, N151, V151, p151⟩ := own_put (pc := 202) X150 hx hZ e150 K150 B150 sz_b102 ge_b102 N150 35 (by decide) rfl V150 p150 (hb hby at_202) (hb hby at_203) (hb hby at_205) (hb hby at_207)
 obtain ⟨T152, h152, L152, X152, e152, K152, B152, N152, V152, p152⟩ := own_put (pc := 208) X151 hx hZ e151 K151 B151 sz_b102 ge_b102 N151 36 (by decide) rfl V151 p151 (hb hby at_208) (hb hby at_209) (hb hby at_211) (hb hby at_213)
 obtain ⟨T153, h153, L153, X153, e153, K153, B153, N153, V153, p153⟩ := own_put (pc := 214) X152 hx hZ e152 K152 B152 sz_b102 ge_b102 N152 37 (by decide) rfl V152 p152 (hb hby at_214) (hb hby at_215) (hb hby at_217) (hb hby at_219)
 obtain ⟨T154, h154, L154, X154, e154, K154, B154, N154, V154, p154⟩ := own_put (pc := 220) X153 hx hZ e153 K153 B153 sz_b102 ge_b102 N153 38 (by decide) rfl V153 p153 (hb hby at_220) (hb hby at_221) (hb hby at_223) (hb hby at_225)
 obtain ⟨T155, h155, L155, X155, e155, K155, B155, N155, V155, p155⟩ := own_put (pc := 226) X154 hx hZ e154 K154 B154 sz_b102 ge_b102 N154 39 (by decide) rfl V154 p154 (hb hby at_226) (hb hby at_227) (hb hby at_229) (hb hby at_231)
 obtain ⟨T156, h156, L156, X156, e156, K156, B156, N156, V156, p156⟩ := own_put (pc := 232) X155 hx hZ e155 K155 B155 sz_b102 ge_b102 N155 40 (by decide) rfl V155 p155 (hb hby at_232) (hb hby at_233) (hb hby at_235) (hb hby at_237)
 obtain ⟨T157, h157, L157, X157, e157, K157, B157, N157, V157, p157⟩ := own_put (pc := 238) X156 hx hZ e156 K156 B156 sz_b102 ge_b102 N156 41 (by decide) rfl V156 p156 (hb hby at_238) (hb hby at_239) (hb hby at_241) (hb hby at_243)
 obtain ⟨T158, h158, L158, X158, e158, K158, B158, N158, V158, p158⟩ := own_put (pc := 244) X157 hx hZ e157 K157 B157 sz_b102 ge_b102 N157 42 (by decide) rfl V157 p157 (hb hby at_244) (hb hby at_245) (hb hby at_247) (hb hby at_249)
 obtain ⟨T159, h159, L159, X159, e159, K159, B159, N159, V159, p159⟩ := own_put (pc := 250) X158 hx hZ e158 K158 B158 sz_b102 ge_b102 N158 43 (by decide) rfl V158 p158 (hb hby at_250) (hb hby at_251) (hb hby at_253) (hb hby at_255)
 obtain ⟨T160, h160, L160, X160, e160, K160, B160, N160, V160, p160⟩ := own_put (pc := 256) X159 hx hZ e159 K159 B159 sz_b102 ge_b102 N159 44 (by decide) rfl V159 p159 (hb hby at_256) (hb hby at_257) (hb hby at_259) (hb hby at_261)
 obtain ⟨T161, h161, L161, X161, e161, K161, B161, N161, V161, p161⟩ := own_put (pc := 262) X160 hx hZ e160 K160 B160 sz_b102 ge_b102 N160 45 (by decide) rfl V160 p160 (hb hby at_262) (hb hby at_263) (hb hby at_265) (hb hby at_267)
 obtain ⟨T162, h162, L162, X162, e162, K162, B162, N162, V162, p162⟩ := own_put (pc := 268) X161 hx hZ e161 K161 B161 sz_b102 ge_b102 N161 46 (by decide) rfl V161 p161 (hb hby at_268) (hb hby at_269) (hb hby at_271) (hb hby at_273)
 obtain ⟨T163, h163, L163, X163, e163, K163, B163, N163, V163, p163⟩ := own_put (pc := 274) X162 hx hZ e162 K162 B162 sz_b102 ge_b102 N162 47 (by decide) rfl V162 p162 (hb hby at_274) (hb hby at_275) (hb hby at_277) (hb hby at_279)
 obtain ⟨T164, h164, L164, X164, e164, K164, B164, N164, V164, p164⟩ := own_put (pc := 280) X163 hx hZ e163 K163 B163 sz_b102 ge_b102 N163 48 (by decide) rfl V163 p163 (hb hby at_280) (hb hby at_281) (hb hby at_283) (hb hby at_285)
 obtain ⟨T165, h165, L165, X165, e165, K165, B165, N165, V165, p165⟩ := own_put (pc := 286) X164 hx hZ e164 K164 B164 sz_b102 ge_b102 N164 49 (by decide) rfl V164 p164 (hb hby at_286) (hb hby at_287) (hb hby at_289) (hb hby at_291)
 obtain ⟨T166, h166, L166, X166, e166, K166, B166, N166, V166, p166⟩ := own_put (pc := 292) X165 hx hZ e165 K165 B165 sz_b102 ge_b102 N165 50 (by decide) rfl V165 p165 (hb hby at_292) (hb hby at_293) (hb hby at_295) (hb hby at_297)
 obtain ⟨T167, h167, L167, X167, e167, K167, B167, N167, V167, p167⟩ := own_put (pc := 298) X166 hx hZ e166 K166 B166 sz_b102 ge_b102 N166 51 (by decide) rfl V166 p166 (hb hby at_298) (hb hby at_299) (hb hby at_301) (hb hby at_303)
 obtain ⟨T168, h168, L168, X168, e168, K168, B168, N168, V168, p168⟩ := own_put (pc := 304) X167 hx hZ e167 K167 B167 sz_b102 ge_b102 N167 52 (by decide) rfl V167 p167 (hb hby at_304) (hb hby at_305) (hb hby at_307) (hb hby at_309)
 obtain ⟨T169, h169, L169, X169, e169, K169, B169, N169, V169, p169⟩ := own_put (pc := 310) X168 hx hZ e168 K168 B168 sz_b102 ge_b102 N168 53 (by decide) rfl V168 p168 (hb hby at_310) (hb hby at_311) (hb hby at_313) (hb hby at_315)
 obtain ⟨T170, h170, L170, X170, e170, K170, B170, N170, V170, p170⟩ := own_put (pc := 316) X169 hx hZ e169 K169 B169 sz_b102 ge_b102 N169 54 (by decide) rfl V169 p169 (hb hby at_316) (hb hby at_317) (hb hby at_319) (hb hby at_321)
 obtain ⟨T171, h171, L171, X171, e171, K171, B171, N171, V171, p171⟩ := own_put (pc := 322) X170 hx hZ e170 K170 B170 sz_b102 ge_b102 N170 55 (by decide) rfl V170 p170 (hb hby at_322) (hb hby at_323) (hb hby at_325) (hb hby at_327)
 obtain ⟨T172, h172, L172, X172, e172, K172, B172, N172, V172, p172⟩ := own_put (pc := 328) X171 hx hZ e171 K171 B171 sz_b102 ge_b102 N171 56 (by decide) rfl V171 p171 (hb hby at_328) (hb hby at_329) (hb hby at_331) (hb hby at_333)
 obtain ⟨T173, h173, L173, X173, e173, K173, B173, N173, V173, p173⟩ := own_put (pc := 334) X172 hx hZ e172 K172 B172 sz_b102 ge_b102 N172 57 (by decide) rfl V172 p172 (hb hby at_334) (hb hby at_335) (hb hby at_337) (hb hby at_339)
 obtain ⟨T174, h174, L174, X174, e174, K174, B174, N174, V174, p174⟩ := own_put (pc := 340) X173 hx hZ e173 K173 B173 sz_b102 ge_b102 N173 58 (by decide) rfl V173 p173 (hb hby at_340) (hb hby at_341) (hb hby at_343) (hb hby at_345)
 obtain ⟨T175, h175, L175, X175, e175, K175, B175, N175, V175, p175⟩ := own_put (pc := 346) X174 hx hZ e174 K174 B174 sz_b102 ge_b102 N174 59 (by decide) rfl V174 p174 (hb hby at_346) (hb hby at_347) (hb hby at_349) (hb hby at_351)
 obtain ⟨T176, h176, L176, X176, e176, K176, B176, N176, V176, p176⟩ := own_put (pc := 352) X175 hx hZ e175 K175 B175 sz_b102 ge_b102 N175 60 (by decide) rfl V175 p175 (hb hby at_352) (hb hby at_353) (hb hby at_355) (hb hby at_357)
 obtain ⟨T177, h177, L177, X177, e177, K177, B177, N177, V177, p177⟩ := own_put (pc := 358) X176 hx hZ e176 K176 B176 sz_b102 ge_b102 N176 61 (by decide) rfl V176 p176 (hb hby at_358) (hb hby at_359) (hb hby at_361) (hb hby at_363)
 obtain ⟨T178, h178, L178, X178, e178, K178, B178, N178, V178, p178⟩ := own_put (pc := 364) X177 hx hZ e177 K177 B177 sz_b102 ge_b102 N177 62 (by decide) rfl V177 p177 (hb hby at_364) (hb hby at_365) (hb hby at_367) (hb hby at_369)
 obtain ⟨T179, h179, L179, X179, e179, K179, B179, N179, V179, p179⟩ := own_put (pc := 370) X178 hx hZ e178 K178 B178 sz_b102 ge_b102 N178 63 (by decide) rfl V178 p178 (hb hby at_370) (hb hby at_371) (hb hby at_373) (hb hby at_375)
 obtain ⟨T180, h180, L180, X180, e180, K180, B180, N180, V180, p180⟩ := own_put (pc := 376) X179 hx hZ e179 K179 B179 sz_b102 ge_b102 N179 64 (by decide) rfl V179 p179 (hb hby at_376) (hb hby at_377) (hb hby at_379) (hb hby at_381)
 obtain ⟨T181, h181, L181, X181, e181, K181, B181, N181, V181, p181⟩ := own_put (pc := 382) X180 hx hZ e180 K180 B180 sz_b102 ge_b102 N180 65 (by decide) rfl V180 p180 (hb hby at_382) (hb hby at_383) (hb hby at_385) (hb hby at_387)
 obtain ⟨T182, h182, L182, X182, e182, K182, B182, N182, V182, p182⟩ := own_put (pc := 388) X181 hx hZ e181 K181 B181 sz_b102 ge_b102 N181 66 (by decide) rfl V181 p181 (hb hby at_388) (hb hby at_389) (hb hby at_391) (hb hby at_393)
 obtain ⟨T183, h183, L183, X183, e183, K183, B183, N183, V183, p183⟩ := own_put (pc := 394) X182 hx hZ e182 K182 B182 sz_b102 ge_b102 N182 67 (by decide) rfl V182 p182 (hb hby at_394) (hb hby at_395) (hb hby at_397) (hb hby at_399)
 obtain ⟨T184, h184, L184, X184, e184, K184, B184, N184, V184, p184⟩ := own_put (pc := 400) X183 hx hZ e183 K183 B183 sz_b102 ge_b102 N183 68 (by decide) rfl V183 p183 (hb hby at_400) (hb hby at_401) (hb hby at_403) (hb hby at_405)
 obtain ⟨T185, h185, L185, X185, e185, K185, B185, N185, V185, p185⟩ := own_put (pc := 406) X184 hx hZ e184 K184 B184 sz_b102 ge_b102 N184 69 (by decide) rfl V184 p184 (hb hby at_406) (hb hby at_407) (hb hby at_409) (hb hby at_411)
 have p186 : GF p e below _ T185 m 415 (oLI4Ru18 p1 p2 p3 p4 b102) [(.int 3)] := fun t_ k_ => p185 t_ (by
  refine XS.astore X185.here hx rfl (hb hby at_412) rfl rfl (l' := (oLI4Ru18 p1 p2 p3 p4 b102)) rfl ?_
  refine XS.iconst X185.here hx rfl (hb hby at_414) ?_
  exact k_)
 obtain ⟨T187, h187, k187, X187, e187, E187, A187, AE187, st187⟩ := newPE X185 hx hZ (own_w hw 0 rfl) e185 (g := (mkF m 415 (oLI4Ru18 p1 p2 p3 p4 b102) [(.int 3)])) rfl (hb hby at_415) rfl (by decide) (cap := 3) (by decide) (by decide) (by decide) (by decide) (ad := "[I") (by decide)
 obtain ⟨b187, g187⟩ : ∃ z, z = h185.size := ⟨_, rfl⟩
 rw [← g187] at A187 AE187 st187
 have f188 := (((((((AE102.wr W105).wr W108).wr W111).wr W114).wr W117).wr W120).keep B185)
 have ne_b102_b187 : b102 ≠ b187 := Nat.ne_of_lt (Nat.lt_of_lt_of_le f188.lt (Nat.le_of_eq g187.symm))
 have ge_b187 : n0 ≤ b187 := Nat.le_trans (Nat.le_trans Z0 K185.1) (Nat.le_of_eq g187.symm)
 have sz_b187 : h0.size ≤ b187 := Nat.le_trans K185.1 (Nat.le_of_eq g187.symm)
 have K189 : Keep h0 h187 [] := K185.ext E187
 have V187 : Arv Z h187 b187 k187 .int (3 : Int32) [(.int 0), (.int 0), (.int 0)] (.int 0) := (Arv.new A187 (by decide)).pad (pad_rep [] (.int 0) 3)
 have p190 : GF p e below _ T187 m 421 (oLI4Ru18 p1 p2 p3 p4 b102) [(.int (-4)), (.int 0), (.ref b187), (.ref b187)] := fun t_ k_ => (gc p186 st187) t_ (by
  refine XS.dup X187.here hx rfl (hb hby at_417) rfl rfl ?_
  refine XS.iconst X187.here hx rfl (hb hby at_418) ?_
  refine XS.bipush X187.here hx rfl (hb hby at_419) ?_
  exact k_)
 obtain ⟨cl191, Ar191, q191, S191, Ng191, H191, G191⟩ := id V187
 have hin191 := inb_of S191 (j := (0 : Int32)) ⟨by decide, by decide⟩
 obtain ⟨T191, h191, X191, e191, W191, st191⟩ := stI X187 hx hZ e187 Ar191 (j := (0 : Int32)) hin191 (g := (mkF m 421 (oLI4Ru18 p1 p2 p3 p4 b102) [(.int (-4)), (.int 0), (.ref b187), (.ref b187)])) rfl rfl (hb hby at_421)
 have K192 : Keep h0 h191 [] := K189.wr W191 (Or.inr sz_b187)
 have N191 := Fr.snoc X191 N185 ge_b187
 have V191 : Arv Z h191 b187 k187 .int (3 : Int32) [(.int (-4)), (.int 0), (.int 0)] (.int 0) := Arv.set Ar191 q191 S191 Ng191 H191 G191 rfl W191 0 rfl (Nat.le_of_ble_eq_true rfl)
 have p193 : GF p e below _ T191 m 426 (oLI4Ru18 p1 p2 p3 p4 b102) [(.int 7), (.int 1), (.ref b187), (.ref b187)] := fun t_ k_ => (gc p190 st191) t_ (by
  refine XS.dup X191.here hx rfl (hb hby at_422) rfl rfl ?_
  refine XS.iconst X191.here hx rfl (hb hby at_423) ?_
  refine XS.bipush X191.here hx rfl (hb hby at_424) ?_
  exact k_)
 obtain ⟨cl194, Ar194, q194, S194, Ng194, H194, G194⟩ := id V191
 have hin194 := inb_of S194 (j := (1 : Int32)) ⟨by decide, by decide⟩
 obtain ⟨T194, h194, X194, e194, W194, st194⟩ := stI X191 hx hZ e191 Ar194 (j := (1 : Int32)) hin194 (g := (mkF m 426 (oLI4Ru18 p1 p2 p3 p4 b102) [(.int 7), (.int 1), (.ref b187), (.ref b187)])) rfl rfl (hb hby at_426)
 have K195 : Keep h0 h194 [] := K192.wr W194 (Or.inr sz_b187)
 have N194 := Fr.snoc X194 N191 ge_b187
 have V194 : Arv Z h194 b187 k187 .int (3 : Int32) [(.int (-4)), (.int 7), (.int 0)] (.int 0) := Arv.set Ar194 q194 S194 Ng194 H194 G194 rfl W194 1 rfl (Nat.le_of_ble_eq_true rfl)
 have p196 : GF p e below _ T194 m 431 (oLI4Ru18 p1 p2 p3 p4 b102) [(.int 9), (.int 2), (.ref b187), (.ref b187)] := fun t_ k_ => (gc p193 st194) t_ (by
  refine XS.dup X194.here hx rfl (hb hby at_427) rfl rfl ?_
  refine XS.iconst X194.here hx rfl (hb hby at_428) ?_
  refine XS.bipush X194.here hx rfl (hb hby at_429) ?_
  exact k_)
 obtain ⟨cl197, Ar197, q197, S197, Ng197, H197, G197⟩ := id V194
 have hin197 := inb_of S197 (j := (2 : Int32)) ⟨by decide, by decide⟩
 obtain ⟨T197, h197, X197, e197, W197, st197⟩ := stI X194 hx hZ e194 Ar197 (j := (2 : Int32)) hin197 (g := (mkF m 431 (oLI4Ru18 p1 p2 p3 p4 b102) [(.int 9), (.int 2), (.ref b187), (.ref b187)])) rfl rfl (hb hby at_431)
 have K198 : Keep h0 h197 [] := K195.wr W197 (Or.inr sz_b187)
 have N197 := Fr.snoc X197 N194 ge_b187
 have V197 : Arv Z h197 b187 k187 .int (3 : Int32) [(.int (-4)), (.int 7), (.int 9)] (.int 0) := Arv.set Ar197 q197 S197 Ng197 H197 G197 rfl W197 2 rfl (Nat.le_of_ble_eq_true rfl)
 have p199 : GF p e below _ T197 m 434 (oLI4R2u17 p1 p2 p3 p4 b102 b187) [] := fun t_ k_ => (gc p196 st197) t_ (by
  refine XS.astore X197.here hx rfl (hb hby at_432) rfl rfl (l' := (oLI4R2u17 p1 p2 p3 p4 b102 b187)) rfl ?_
  exact k_)
 obtain ⟨T200, h200, X200, e200, E200, A200, D200, -, st200⟩ := newO X197 hx hZ hown (own_w hw 1 rfl) (own_w hw 2 rfl) (own_w hw 3 rfl) e197 (g := (mkF m 434 (oLI4R2u17 p1 p2 p3 p4 b102 b187) [])) rfl (hb hby at_434) (by decide) (by decide)
 obtain ⟨b200, g200⟩ : ∃ z, z = h197.size := ⟨_, rfl⟩
 rw [← g200] at A200 D200 st200
 have f201 := ((((f188.ext E187).wr W191).wr W194).wr W197)
 have ne_b102_b200 : b102 ≠ b200 := Nat.ne_of_lt (Nat.lt_of_lt_of_le f201.lt (Nat.le_of_eq g200.symm))
 have f202 := (((AE187.wr W191).wr W194).wr W197)
 have ne_b187_b200 : b187 ≠ b200 := Nat.ne_of_lt (Nat.lt_of_lt_of_le f202.lt (Nat.le_of_eq g200.symm))
 have ge_b200 : n0 ≤ b200 := Nat.le_trans (Nat.le_trans Z0 K198.1) (Nat.le_of_eq g200.symm)
 have sz_b200 : h0.size ≤ b200 := Nat.le_trans K198.1 (Nat.le_of_eq g200.symm)
 have K203 : Keep h0 h200 [] := K198.ext E200
 have F200_modCount : Fld Z h200 b200 "java/util/AbstractList" "modCount" "I" (.int 0) := D200 (Or.inl (own_w hw 23 rfl)) (ty := .int) (by decide)
 have F200_elementData : Fld Z h200 b200 "java/util/ArrayList" "elementData" "[Ljava/lang/Object;" .null := D200 (Or.inl (own_w hw 26 rfl)) (ty := (.array (.object "java/lang/Object"))) (by decide)
 have F200_size : Fld Z h200 b200 "java/util/ArrayList" "size" "I" (.int 0) := D200 (Or.inl (own_w hw 65 rfl)) (ty := .int) (by decide)
 have p204 : GF p e below _ T200 m 438 (oLI4R2u17 p1 p2 p3 p4 b102 b187) [(.ref b200), (.ref b200)] := fun t_ k_ => (gc p199 st200) t_ (by
  refine XS.dup X200.here hx rfl (hb hby at_437) rfl rfl ?_
  exact k_)
 have f205 := (((((((((((((O1.ext E102).wr W105 ge_b102).wr W108 ge_b102).wr W111 ge_b102).wr W114 ge_b102).wr W117 ge_b102).wr W120 ge_b102).keep B185 (allS ge_b102 all0)).ext E187).wr W191 ge_b187).wr W194 ge_b187).wr W197 ge_b187).ext E200)
 obtain ⟨_, _, ⟨T206, L206, k206, n206⟩, -, X206, ⟨Lc206, hQ206, l206, y206, z206⟩, st206⟩ := X200.specialBack hx (y := oM18) rfl hown (mvT hZ (own_w hw 4 rfl)) (mvT hZ (own_w hw 5 rfl)) (mvT hZ (own_w hw 6 rfl)) (by decide) (backOf (W := 1) (rm1 l Z a0 hw [] b200 de kde el ea kea em mr h200 n0 (Nat.le_trans Z0 K203.1) f205 G A200 F200_modCount F200_elementData F200_size ge_b200) hZ (own_w hw 6 rfl) (own_w hw 3 rfl) (by decide) (by decide)) (g := (mkF m 438 (oLI4R2u17 p1 p2 p3 p4 b102 b187) [(.ref b200), (.ref b200)])) rfl (by rw [hml]; rfl) (Steps.refl _) (a := b200) (argsL := []) (rest := [(.ref b200)]) (lenOf pd0 rfl) rfl (by show 2 * 0 + _ ≤ _; exact Nat.le_of_eq rfl) (hb hby at_438) (fun _ _ => ⟨rfl, e200, (by decide : 3 + 0 ≤ _), (by decide : 76 + 0 ≤ _)⟩)
 dsimp only [Pt.U, Pt.locs, Pt.cells, Pt.slots] at X206 l206 y206 z206 st206 hQ206
 subst l206 y206 z206
 obtain ⟨rfl, N206q, q206_K, q206_F0, q206_F1, q206_F2, q206_F3⟩ := hQ206
 have N206 := Fr.app N197 N206q
 have K207 : Keep h0 T206.heap [] := K203.trans q206_K (allS (Or.inr sz_b200) all0)
 have p208 : GF p e below _ T206 m 445 (oLI4R3u16 p1 p2 p3 p4 b102 b187 b200) [(.ref b200)] := fun t_ k_ => (gcT p204 st206) t_ (by
  refine XS.astore X206.here hx rfl (hb hby at_441) rfl rfl (l' := (oLI4R3u16 p1 p2 p3 p4 b102 b187 b200)) rfl ?_
  refine XS.aload X206.here hx rfl (hb hby at_443) rfl rfl ?_
  exact k_)
 obtain ⟨T209, h209, X209, e209, E209, A209, D209, -, st209⟩ := newO X206 hx hZ hown (own_w hw 27 rfl) (own_w hw 28 rfl) (own_w hw 29 rfl) rfl (g := (mkF m 445 (oLI4R3u16 p1 p2 p3 p4 b102 b187 b200) [(.ref b200)])) rfl (hb hby at_445) (by decide) (by decide)
 obtain ⟨b209, g209⟩ : ∃ z, z = T206.heap.size := ⟨_, rfl⟩
 rw [← g209] at A209 D209 st209
 have f210 := ((f201.ext E200).keep q206_K)
 have ne_b102_b209 : b102 ≠ b209 := Nat.ne_of_lt (Nat.lt_of_lt_of_le f210.lt (Nat.le_of_eq g209.symm))
 have f211 := ((f202.ext E200).keep q206_K)
 have ne_b187_b209 : b187 ≠ b209 := Nat.ne_of_lt (Nat.lt_of_lt_of_le f211.lt (Nat.le_of_eq g209.symm))
 have ne_b200_b209 : b200 ≠ b209 := Nat.ne_of_lt (Nat.lt_of_lt_of_le q206_F0.lt (Nat.le_of_eq g209.symm))
 have ge_b209 : n0 ≤ b209 := Nat.le_trans (Nat.le_trans Z0 K207.1) (Nat.le_of_eq g209.symm)
 have sz_b209 : h0.size ≤ b209 := Nat.le_trans K207.1 (Nat.le_of_eq g209.symm)
 have K212 : Keep h0 h209 [] := K207.ext E209
 have F209_name : Fld Z h209 b209 "com/example/arcward/arcward/model/Variable" "name" "Ljava/lang/String;" .null := D209 (Or.inr (own_w hw 43 rfl)) (ty := (.object "java/lang/String")) (by decide)
 have F209_index : Fld Z h209 b209 "com/example/arcward/arcward/model/Variable" "index" "I" (.int 0) := D209 (Or.inr (own_w hw 45 rfl)) (ty := .int) (by decide)
 have F209_values : Fld Z h209 b209 "com/example/arcward/arcward/model/Variable" "values" "[I" .null := D209 (Or.inr (own_w hw 56 rfl)) (ty := (.array .int)) (by decide)
 have p213 : GF p e below _ T209 m 449 (oLI4R3u16 p1 p2 p3 p4 b102 b187 b200) [(.ref b209), (.ref b209), (.ref b200)] := fun t_ k_ => (gc p208 st209) t_ (by
  refine XS.dup X209.here hx rfl (hb hby at_448) rfl rfl ?_
  exact k_)
 obtain ⟨b214, T214, h214, k214, X214, e214, E214, S214, kb214, hZ214, hown214, st214⟩ := ldcS (s := s) (vm0 := s.vm) X209 hx hZ hown (own_w hw 30 rfl) (own_sA hw) e209 ((State.WarmedH.refl s).since 0) (Nat.zero_le _) (g := (mkF m 449 (oLI4R3u16 p1 p2 p3 p4 b102 b187 b200) [(.ref b209), (.ref b209), (.ref b200)])) rfl (hb hby at_449) (n := 4) (by decide) (by decide) (by decide) (by decide)
 have K215 : Keep h0 h214 [] := K212.ext E214
 have p216 : GF p e below _ T214 m 454 (oLI4R3u16 p1 p2 p3 p4 b102 b187 b200) [(.ref b102), (.int 0), (.ref b214), (.ref b209), (.ref b209), (.ref b200)] := fun t_ k_ => (gc p213 st214) t_ (by
  refine XS.iconst X214.here hx rfl (hb hby at_451) ?_
  refine XS.aload X214.here hx rfl (hb hby at_452) rfl rfl ?_
  exact k_)
 have f217 := ((f210.ext E209).ext E214)
 have f218 := ((((((((V185.ext E187).other W191 ne_b102_b187).other W194 ne_b102_b187).other W197 ne_b102_b187).ext E200).keep q206_K (ninS ne_b102_b200 nin0)).ext E209).ext E214)
 have f219 := ((f211.ext E209).ext E214)
 have f220 := ((((V197.ext E200).keep q206_K (ninS ne_b187_b200 nin0)).ext E209).ext E214)
 have f221 := ((q206_F0.ext E209).ext E214)
 have f222 := (A209.ext E214)
 have f223 := (F209_name.ext E214)
 have f224 := (F209_index.ext E214)
 have f225 := (F209_values.ext E214)
 obtain ⟨_, _, ⟨T226, L226, k226, n226⟩, -, X226, ⟨Lc226, hQ226, l226, y226, z226⟩, st226⟩ := X214.specialBack hx (y := oM2) rfl hown214 (mvT hZ214 (own_w hw 38 rfl)) (mvT hZ214 (own_w hw 39 rfl)) (mvT hZ214 (own_w hw 40 rfl)) (by decide) (backOf (W := 2) (rm5_70 l Z a0 hw [] b209 b214 (0 : Int32) b102 k102 (own_pz 70) h214 n0 (Nat.le_trans Z0 K215.1) f222 f223 f224 f225 ge_b209 f218 f217 (Ne.symm ne_b102_b209) own_pzi) hZ214 (own_w hw 40 rfl) (own_w hw 29 rfl) (by decide) (by decide)) (g := (mkF m 454 (oLI4R3u16 p1 p2 p3 p4 b102 b187 b200) [(.ref b102), (.int 0), (.ref b214), (.ref b209), (.ref b209), (.ref b200)])) rfl (by rw [hml]; rfl) (Steps.refl _) (a := b209) (argsL := [(.ref b214), (.int 0), (.ref b102)]) (rest := [(.ref b209), (.ref b200)]) (lenOf pd20 rfl) rfl (by show 2 * 0 + _ ≤ _; exact Nat.le_of_eq rfl) (hb hby at_454) (fun _ _ => ⟨rfl, e214, (by decide : 6 + 1 ≤ _), (by decide : 87 + 70 ≤ _)⟩)
 dsimp only [Pt.U, Pt.locs, Pt.cells, Pt.slots] at X226 l226 y226 z226 st226 hQ226
 subst l226 y226 z226
 obtain ⟨x227, x228, rfl, N226q, q226_K, q226_F0, q226_F1, q226_F2, q226_F3, q226_V, q226_g, q226_z, q226_n⟩ := hQ226
 have N226 := Fr.app N206 N226q
 have K229 : Keep h0 T226.heap [] := K215.trans q226_K (allS (Or.inr sz_b209) all0)
 have ne_b102_x227 : b102 ≠ x227 := Nat.ne_of_lt (Nat.lt_of_lt_of_le f217.lt q226_z)
 have ne_b187_x227 : b187 ≠ x227 := Nat.ne_of_lt (Nat.lt_of_lt_of_le f219.lt q226_z)
 have ne_b200_x227 : b200 ≠ x227 := Nat.ne_of_lt (Nat.lt_of_lt_of_le f221.lt q226_z)
 have ne_b209_x227 : b209 ≠ x227 := Nat.ne_of_lt (Nat.lt_of_lt_of_le f222.lt q226_z)
 have f230 := (f217.keep q226_K)
 have f231 := (f218.keep q226_K (ninS ne_b102_b209 nin0))
 have f232 := (f219.keep q226_K)
 have f233 := (f220.keep q226_K (ninS ne_b187_b209 nin0))
 have f234 := (f221.keep q226_K)
 have f235 := ((((f205.keep q206_K (allS ge_b200 all0)).ext E209).ext E214).keep q226_K (allS ge_b209 all0))
 have f236 := (((q206_F1.ext E209).ext E214).keep q226_K (ninS ne_b200_b209 nin0))
 have f237 := (((q206_F2.ext E209).ext E214).keep q226_K (ninS ne_b200_b209 nin0))
 have f238 := (((q206_F3.ext E209).ext E214).keep q226_K (ninS ne_b200_b209 nin0))
 obtain ⟨cq239, kq239, q239a, q239b, q239c⟩ := isOf hZ214 rfl f234
 obtain ⟨_, _, ⟨T239, L239, k239, n239⟩, -, X239, ⟨Lc239, hQ239, l239, y239, z239⟩, st239⟩ := X226.virtualBack hx (y := oM19) (z := oM19) hown214 (mvT hZ214 (own_w hw 57 rfl)) (mvT hZ214 (own_w hw 58 rfl)) (notFace_of_selects (args := #[]) (mvT hZ214 (own_w hw 60 rfl))) (mvT hZ214 (own_w hw 60 rfl)) (mvT hZ214 (own_w hw 59 rfl)) (by decide) (backOf (W := 0) (rm6_0 l Z a0 hw [] b200 b209 (0 : Int32) de kde el ea kea em mr T226.heap n0 (Nat.le_trans Z0 K229.1) f235 G f234 f236 f237 f238 ge_b200 q226_F0 ne_b200_b209) hZ214 (own_w hw 61 rfl) (own_w hw 3 rfl) (by decide) (by decide)) q239a q239c (g := (mkF m 457 (oLI4R3u16 p1 p2 p3 p4 b102 b187 b200) [(.ref b209), (.ref b200)])) rfl (by rw [hml]; rfl) (Steps.refl _) (argsL := [(.ref b209)]) (rest := []) (lenOf pd21 rfl) rfl (by show 2 * 0 + _ ≤ _; exact Nat.le_of_eq rfl) (hb hby at_457) (fun _ _ => ⟨rfl, rfl, (by decide : 7 + 1 ≤ _), (by decide : 157 + 10 ≤ _)⟩)
 dsimp only [Pt.U, Pt.locs, Pt.cells, Pt.slots] at X239 l239 y239 z239 st239 hQ239
 subst l239 y239 z239
 obtain ⟨x240, x241, rfl, N239q, q239_K, q239_F0, q239_F1, q239_F2, q239_F3, q239_V, q239_X, q239_g, q239_z, q239_n, q239_o⟩ := hQ239
 have N239 := Fr.app N226 N239q
 have K242 : Keep h0 T239.heap [] := K229.trans q239_K (allS (Or.inr sz_b200) all0)
 have ne_b102_x240 : b102 ≠ x240 := Nat.ne_of_lt (Nat.lt_of_lt_of_le f230.lt q239_z)
 have ne_b187_x240 : b187 ≠ x240 := Nat.ne_of_lt (Nat.lt_of_lt_of_le f232.lt q239_z)
 have ne_b200_x240 : b200 ≠ x240 := Nat.ne_of_lt (Nat.lt_of_lt_of_le f234.lt q239_z)
 have ne_b209_x240 : b209 ≠ x240 := Nat.ne_of_lt (Nat.lt_of_lt_of_le q226_F0.lt q239_z)
 have ne_x227_x240 : x227 ≠ x240 := Nat.ne_of_lt (Nat.lt_of_lt_of_le q226_V.lt q239_z)
 have p243 : GF p e below _ T239 m 463 (oLI4R3u16 p1 p2 p3 p4 b102 b187 b200) [(.ref b200)] := fun t_ k_ => (gcT (gcT p216 st226) st239) t_ (by
  refine XS.pop X239.here hx rfl (hb hby at_460) rfl rfl ?_
  refine XS.aload X239.here hx rfl (hb hby at_461) rfl rfl ?_
  exact k_)
 obtain ⟨T244, h244, X244, e244, E244, A244, D244, -, st244⟩ := newO X239 hx hZ214 hown214 (own_w hw 27 rfl) (own_w hw 28 rfl) (own_w hw 29 rfl) rfl (g := (mkF m 463 (oLI4R3u16 p1 p2 p3 p4 b102 b187 b200) [(.ref b200)])) rfl (hb hby at_463) (by decide) (by decide)
 obtain ⟨b244, g244⟩ : ∃ z, z = T239.heap.size := ⟨_, rfl⟩
 rw [← g244] at A244 D244 st244
 have f245 := (f230.keep q239_K)
 have ne_b102_b244 : b102 ≠ b244 := Nat.ne_of_lt (Nat.lt_of_lt_of_le f245.lt (Nat.le_of_eq g244.symm))
 have f246 := (f232.keep q239_K)
 have ne_b187_b244 : b187 ≠ b244 := Nat.ne_of_lt (Nat.lt_of_lt_of_le f246.lt (Nat.le_of_eq g244.symm))
 have ne_b200_b244 : b200 ≠ b244 := Nat.ne_of_lt (Nat.lt_of_lt_of_le q239_F0.lt (Nat.le_of_eq g244.symm))
 have f247 := (q226_F0.keep q239_K)
 have ne_b209_b244 : b209 ≠ b244 := Nat.ne_of_lt (Nat.lt_of_lt_of_le f247.lt (Nat.le_of_eq g244.symm))
 have f248 := (q226_V.keep q239_K (ninS (Ne.symm ne_b200_x227) nin0))
 have ne_x227_b244 : x227 ≠ b244 := Nat.ne_of_lt (Nat.lt_of_lt_of_le f248.lt (Nat.le_of_eq g244.symm))
 have ne_x240_b244 : x240 ≠ b244 := Nat.ne_of_lt (Nat.lt_of_lt_of_le q239_V.lt (Nat.le_of_eq g244.symm))
 have ge_b244 : n0 ≤ b244 := Nat.le_trans (Nat.le_trans Z0 K242.1) (Nat.le_of_eq g244.symm)
 have sz_b244 : h0.size ≤ b244 := Nat.le_trans K242.1 (Nat.le_of_eq g244.symm)
 have K249 : Keep h0 h244 [] := K242.ext E244
 have F244_name : Fld Z h244 b244 "com/example/arcward/arcward/model/Variable" "name" "Ljava/lang/String;" .null := D244 (Or.inr (own_w hw 43 rfl)) (ty := (.object "java/lang/String")) (by decide)
 have F244_index : Fld Z h244 b244 "com/example/arcward/arcward/model/Variable" "index" "I" (.int 0) := D244 (Or.inr (own_w hw 45 rfl)) (ty := .int) (by decide)
 have F244_values : Fld Z h244 b244 "com/example/arcward/arcward/model/Variable" "values" "[I" .null := D244 (Or.inr (own_w hw 56 rfl)) (ty := (.array .int)) (by decide)
 have p250 : GF p e below _ T244 m 467 (oLI4R3u16 p1 p2 p3 p4 b102 b187 b200) [(.ref b244), (.ref b244), (.ref b200)] := fun t_ k_ => (gc p243 st244) t_ (by
  refine XS.dup X244.here hx rfl (hb hby at_466) rfl rfl ?_
  exact k_)
 have f252 := (Nat.le_trans (Nat.le_trans (Nat.le_trans kb214 q226_K.1) q239_K.1) E244.1)
 obtain ⟨b251, T251, h251, k251, X251, e251, E251, S251, kb251, hZ251, hown251, st251⟩ := ldcS (s := s) (vm0 := T214.vm) X244 hx hZ214 hown214 (own_w hw 88 rfl) (own_sA hw) e244 S214 f252 (g := (mkF m 467 (oLI4R3u16 p1 p2 p3 p4 b102 b187 b200) [(.ref b244), (.ref b244), (.ref b200)])) rfl (hb hby at_467) (n := 4) (by decide) (by decide) (by decide) (by decide)
 have K253 : Keep h0 h251 [] := K249.ext E251
 have p254 : GF p e below _ T251 m 472 (oLI4R3u16 p1 p2 p3 p4 b102 b187 b200) [(.ref b187), (.int 1), (.ref b251), (.ref b244), (.ref b244), (.ref b200)] := fun t_ k_ => (gc p250 st251) t_ (by
  refine XS.iconst X251.here hx rfl (hb hby at_469) ?_
  refine XS.aload X251.here hx rfl (hb hby at_470) rfl rfl ?_
  exact k_)
 have f255 := ((f245.ext E244).ext E251)
 have f256 := (((f231.keep q239_K (ninS ne_b102_b200 nin0)).ext E244).ext E251)
 have f257 := ((f246.ext E244).ext E251)
 have f258 := (((f233.keep q239_K (ninS ne_b187_b200 nin0)).ext E244).ext E251)
 have f259 := ((q239_F0.ext E244).ext E251)
 have f260 := ((f247.ext E244).ext E251)
 have f261 := ((f248.ext E244).ext E251)
 have f262 := ((q239_V.ext E244).ext E251)
 have f263 := ((q239_X.ext E244).ext E251)
 have f264 := (A244.ext E251)
 have f265 := (F244_name.ext E251)
 have f266 := (F244_index.ext E251)
 have f267 := (F244_values.ext E251)
 obtain ⟨_, _, ⟨T268, L268, k268, n268⟩, -, X268, ⟨Lc268, hQ268, l268, y268, z268⟩, st268⟩ := X251.specialBack hx (y := oM2) rfl hown251 (mvT hZ251 (own_w hw 38 rfl)) (mvT hZ251 (own_w hw 39 rfl)) (mvT hZ251 (own_w hw 40 rfl)) (by decide) (backOf (W := 2) (rm5_3 l Z a0 hw [] b244 b251 (1 : Int32) b187 k187 h251 n0 (Nat.le_trans Z0 K253.1) f264 f265 f266 f267 ge_b244 f258 f257 (Ne.symm ne_b187_b244)) hZ251 (own_w hw 40 rfl) (own_w hw 29 rfl) (by decide) (by decide)) (g := (mkF m 472 (oLI4R3u16 p1 p2 p3 p4 b102 b187 b200) [(.ref b187), (.int 1), (.ref b251), (.ref b244), (.ref b244), (.ref b200)])) rfl (by rw [hml]; rfl) (Steps.refl _) (a := b244) (argsL := [(.ref b251), (.int 1), (.ref b187)]) (rest := [(.ref b244), (.ref b200)]) (lenOf pd20 rfl) rfl (by show 2 * 0 + _ ≤ _; exact Nat.le_of_eq rfl) (hb hby at_472) (fun _ _ => ⟨rfl, e251, (by decide : 11 + 1 ≤ _), (by decide : 178 + 3 ≤ _)⟩)
 dsimp only [Pt.U, Pt.locs, Pt.cells, Pt.slots] at X268 l268 y268 z268 st268 hQ268
 subst l268 y268 z268
 obtain ⟨x269, x270, rfl, N268q, q268_K, q268_F0, q268_F1, q268_F2, q268_F3, q268_V, q268_g, q268_z, q268_n⟩ := hQ268
 have N268 := Fr.app N239 N268q
 have K271 : Keep h0 T268.heap [] := K253.trans q268_K (allS (Or.inr sz_b244) all0)
 have ne_b102_x269 : b102 ≠ x269 := Nat.ne_of_lt (Nat.lt_of_lt_of_le f255.lt q268_z)
 have ne_b187_x269 : b187 ≠ x269 := Nat.ne_of_lt (Nat.lt_of_lt_of_le f257.lt q268_z)
 have ne_b200_x269 : b200 ≠ x269 := Nat.ne_of_lt (Nat.lt_of_lt_of_le f259.lt q268_z)
 have ne_b209_x269 : b209 ≠ x269 := Nat.ne_of_lt (Nat.lt_of_lt_of_le f260.lt q268_z)
 have ne_x227_x269 : x227 ≠ x269 := Nat.ne_of_lt (Nat.lt_of_lt_of_le f261.lt q268_z)
 have ne_x240_x269 : x240 ≠ x269 := Nat.ne_of_lt (Nat.lt_of_lt_of_le f262.lt q268_z)
 have ne_b244_x269 : b244 ≠ x269 := Nat.ne_of_lt (Nat.lt_of_lt_of_le f264.lt q268_z)
 have f272 := (f259.keep q268_K)
 have f273 := (((q239_F1.ext E244).ext E251).keep q268_K (ninS ne_b200_b244 nin0))
 have f274 := (((q239_F2.ext E244).ext E251).keep q268_K (ninS ne_b200_b244 nin0))
 have f275 := (((q239_F3.ext E244).ext E251).keep q268_K (ninS ne_b200_b244 nin0))
 have f276 := (f262.keep q268_K (ninS ne_x240_b244 nin0))
 have f277 := (f263.keep q268_K)
 obtain ⟨cq278, kq278, q278a, q278b, q278c⟩ := isOf hZ251 rfl f272
 obtain ⟨_, _, ⟨T278, L278, k278, n278⟩, -, X278, ⟨Lc278, hQ278, l278, y278, z278⟩, st278⟩ := X268.virtualBack hx (y := oM19) (z := oM19) hown251 (mvT hZ251 (own_w hw 57 rfl)) (mvT hZ251 (own_w hw 58 rfl)) (notFace_of_selects (args := #[]) (mvT hZ251 (own_w hw 60 rfl))) (mvT hZ251 (own_w hw 60 rfl)) (mvT hZ251 (own_w hw 59 rfl)) (by decide) (backOf (W := 0) (rm6_1 l Z a0 hw [] b200 b244 ((0 : Int32) + (1 : Int32)) x240 x241 b209 T268.heap n0 (Nat.le_trans Z0 K271.1) f272 f273 f274 f275 f276 f277 ge_b200 q239_g q239_n (Ne.symm ne_x240_b244) q239_o q268_F0 ne_b200_b244) hZ251 (own_w hw 61 rfl) (own_w hw 3 rfl) (by decide) (by decide)) q278a q278c (g := (mkF m 475 (oLI4R3u16 p1 p2 p3 p4 b102 b187 b200) [(.ref b244), (.ref b200)])) rfl (by rw [hml]; rfl) (Steps.refl _) (argsL := [(.ref b244)]) (rest := []) (lenOf pd21 rfl) rfl (by show 2 * 0 + _ ≤ _; exact Nat.le_of_eq rfl) (hb hby at_475) (fun _ _ => ⟨rfl, rfl, (by decide : 12 + 0 ≤ _), (by decide : 181 + 0 ≤ _)⟩)
 dsimp only [Pt.U, Pt.locs, Pt.cells, Pt.slots] at X278 l278 y278 z278 st278 hQ278
 subst l278 y278 z278
 obtain ⟨rfl, N278q, q278_K, q278_F0, q278_F1, q278_F2, q278_F3, q278_F4, q278_F5⟩ := hQ278
 have N278 := Fr.app N268 N278q
 have K279 : Keep h0 T278.heap [] := K271.trans q278_K (allS (Or.inr sz_b200) (allS (Or.inr (Nat.le_trans K229.1 q239_z)) all0))
 have p280 : GF p e below _ T278 m 479 (oLI4R3u16 p1 p2 p3 p4 b102 b187 b200) [] := fun t_ k_ => (gcT (gcT p254 st268) st278) t_ (by
  refine XS.pop X278.here hx rfl (hb hby at_478) rfl rfl ?_
  exact k_)
 obtain ⟨T281, h281, X281, e281, E281, A281, D281, -, st281⟩ := newO X278 hx hZ251 hown251 (own_w hw 89 rfl) (own_w hw 90 rfl) (own_w hw 91 rfl) rfl (g := (mkF m 479 (oLI4R3u16 p1 p2 p3 p4 b102 b187 b200) [])) rfl (hb hby at_479) (by decide) (by decide)
 obtain ⟨b281, g281⟩ : ∃ z, z = T278.heap.size := ⟨_, rfl⟩
 rw [← g281] at A281 D281 st281
 have f282 := ((f255.keep q268_K).keep q278_K)
 have ne_b102_b281 : b102 ≠ b281 := Nat.ne_of_lt (Nat.lt_of_lt_of_le f282.lt (Nat.le_of_eq g281.symm))
 have f283 := ((f257.keep q268_K).keep q278_K)
 have ne_b187_b281 : b187 ≠ b281 := Nat.ne_of_lt (Nat.lt_of_lt_of_le f283.lt (Nat.le_of_eq g281.symm))
 have ne_b200_b281 : b200 ≠ b281 := Nat.ne_of_lt (Nat.lt_of_lt_of_le q278_F0.lt (Nat.le_of_eq g281.symm))
 have f284 := ((f260.keep q268_K).keep q278_K)
 have ne_b209_b281 : b209 ≠ b281 := Nat.ne_of_lt (Nat.lt_of_lt_of_le f284.lt (Nat.le_of_eq g281.symm))
 have f285 := ((f261.keep q268_K (ninS ne_x227_b244 nin0)).keep q278_K (ninS (Ne.symm ne_b200_x227) (ninS ne_x227_x240 nin0)))
 have ne_x227_b281 : x227 ≠ b281 := Nat.ne_of_lt (Nat.lt_of_lt_of_le f285.lt (Nat.le_of_eq g281.symm))
 have ne_x240_b281 : x240 ≠ b281 := Nat.ne_of_lt (Nat.lt_of_lt_of_le q278_F4.lt (Nat.le_of_eq g281.symm))
 have f286 := (q268_F0.keep q278_K)
 have ne_b244_b281 : b244 ≠ b281 := Nat.ne_of_lt (Nat.lt_of_lt_of_le f286.lt (Nat.le_of_eq g281.symm))
 have f287 := (q268_V.keep q278_K (ninS (Ne.symm ne_b200_x269) (ninS (Ne.symm ne_x240_x269) nin0)))
 have ne_x269_b281 : x269 ≠ b281 := Nat.ne_of_lt (Nat.lt_of_lt_of_le f287.lt (Nat.le_of_eq g281.symm))
 have ge_b281 : n0 ≤ b281 := Nat.le_trans (Nat.le_trans Z0 K279.1) (Nat.le_of_eq g281.symm)
 have sz_b281 : h0.size ≤ b281 := Nat.le_trans K279.1 (Nat.le_of_eq g281.symm)
 have K288 : Keep h0 h281 [] := K279.ext E281
 have F281_trail : Fld Z h281 b281 "com/example/arcward/arcward/solver/Domains" "trail" "[I" .null := D281 (Or.inl (own_w hw 265 rfl)) (ty := (.array .int)) (by decide)
 have F281_removedBy : Fld Z h281 b281 "com/example/arcward/arcward/solver/Domains" "removedBy" "[I" .null := D281 (Or.inr (own_w hw 267 rfl)) (ty := (.array .int)) (by decide)
 have F281_bits : Fld Z h281 b281 "com/example/arcward/arcward/solver/Domains" "bits" "[[J" .null := D281 (Or.inr (own_w hw 277 rfl)) (ty := (.array (.array .long))) (by decide)
 have F281_sizes : Fld Z h281 b281 "com/example/arcward/arcward/solver/Domains" "sizes" "[I" .null := D281 (Or.inr (own_w hw 279 rfl)) (ty := (.array .int)) (by decide)
 have F281_resized : Fld Z h281 b281 "com/example/arcward/arcward/solver/Domains" "resized" "[I" .null := D281 (Or.inr (own_w hw 281 rfl)) (ty := (.array .int)) (by decide)
 have F281_inResized : Fld Z h281 b281 "com/example/arcward/arcward/solver/Domains" "inResized" "[Z" .null := D281 (Or.inr (own_w hw 284 rfl)) (ty := (.array .boolean)) (by decide)
 have F281_trailLength : Fld Z h281 b281 "com/example/arcward/arcward/solver/Domains" "trailLength" "I" (.int 0) := D281 (Or.inl (own_w hw 308 rfl)) (ty := .int) (by decide)
 have F281_resizedCount : Fld Z h281 b281 "com/example/arcward/arcward/solver/Domains" "resizedCount" "I" (.int 0) := D281 (Or.inl (own_w hw 335 rfl)) (ty := .int) (by decide)
 have p289 : GF p e below _ T281 m 483 (oLI4R3u16 p1 p2 p3 p4 b102 b187 b200) [(.ref b281), (.ref b281)] := fun t_ k_ => (gc p280 st281) t_ (by
  refine XS.dup X281.here hx rfl (hb hby at_482) rfl rfl ?_
  exact k_)
 obtain ⟨T290, h290, X290, e290, E290, A290, D290, -, st290⟩ := newO X281 hx hZ251 hown251 (own_w hw 92 rfl) (own_w hw 93 rfl) (own_w hw 94 rfl) e281 (g := (mkF m 483 (oLI4R3u16 p1 p2 p3 p4 b102 b187 b200) [(.ref b281), (.ref b281)])) rfl (hb hby at_483) (by decide) (by decide)
 obtain ⟨b290, g290⟩ : ∃ z, z = h281.size := ⟨_, rfl⟩
 rw [← g290] at A290 D290 st290
 have f291 := (f282.ext E281)
 have ne_b102_b290 : b102 ≠ b290 := Nat.ne_of_lt (Nat.lt_of_lt_of_le f291.lt (Nat.le_of_eq g290.symm))
 have f292 := (f283.ext E281)
 have ne_b187_b290 : b187 ≠ b290 := Nat.ne_of_lt (Nat.lt_of_lt_of_le f292.lt (Nat.le_of_eq g290.symm))
 have f293 := (q278_F0.ext E281)
 have ne_b200_b290 : b200 ≠ b290 := Nat.ne_of_lt (Nat.lt_of_lt_of_le f293.lt (Nat.le_of_eq g290.symm))
 have f294 := (f284.ext E281)
 have ne_b209_b290 : b209 ≠ b290 := Nat.ne_of_lt (Nat.lt_of_lt_of_le f294.lt (Nat.le_of_eq g290.symm))
 have f295 := (f285.ext E281)
 have ne_x227_b290 : x227 ≠ b290 := Nat.ne_of_lt (Nat.lt_of_lt_of_le f295.lt (Nat.le_of_eq g290.symm))
 have f296 := (q278_F4.ext E281)
 have ne_x240_b290 : x240 ≠ b290 := Nat.ne_of_lt (Nat.lt_of_lt_of_le f296.lt (Nat.le_of_eq g290.symm))
 have f297 := (f286.ext E281)
 have ne_b244_b290 : b244 ≠ b290 := Nat.ne_of_lt (Nat.lt_of_lt_of_le f297.lt (Nat.le_of_eq g290.symm))
 have f298 := (f287.ext E281)
 have ne_x269_b290 : x269 ≠ b290 := Nat.ne_of_lt (Nat.lt_of_lt_of_le f298.lt (Nat.le_of_eq g290.symm))
 have ne_b281_b290 : b281 ≠ b290 := Nat.ne_of_lt (Nat.lt_of_lt_of_le A281.lt (Nat.le_of_eq g290.symm))
 have ge_b290 : n0 ≤ b290 := Nat.le_trans (Nat.le_trans Z0 K288.1) (Nat.le_of_eq g290.symm)
 have sz_b290 : h0.size ≤ b290 := Nat.le_trans K288.1 (Nat.le_of_eq g290.symm)
 have K299 : Keep h0 h290 [] := K288.ext E290
 have F290_variables : Fld Z h290 b290 "com/example/arcward/arcward/model/Instance" "variables" "Ljava/util/List;" .null := D290 (Or.inr (own_w hw 185 rfl)) (ty := (.object "java/util/List")) (by decide)
 have F290_constraints : Fld Z h290 b290 "com/example/arcward/arcward/model/Instance" "constraints" "Ljava/util/List;" .null := D290 (Or.inr (own_w hw 191 rfl)) (ty := (.object "java/util/List")) (by decide)
 have p300 : GF p e below _ T290 m 489 (oLI4R3u16 p1 p2 p3 p4 b102 b187 b200) [(.ref b200), (.ref b290), (.ref b290), (.ref b281), (.ref b281)] := fun t_ k_ => (gc p289 st290) t_ (by
  refine XS.dup X290.here hx rfl (hb hby at_486) rfl rfl ?_
  refine XS.aload X290.here hx rfl (hb hby at_487) rfl rfl ?_
  exact k_)
 obtain ⟨T301, h301, X301, e301, E301, A301, D301, -, st301⟩ := newO X290 hx hZ251 hown251 (own_w hw 1 rfl) (own_w hw 2 rfl) (own_w hw 3 rfl) e290 (g := (mkF m 489 (oLI4R3u16 p1 p2 p3 p4 b102 b187 b200) [(.ref b200), (.ref b290), (.ref b290), (.ref b281), (.ref b281)])) rfl (hb hby at_489) (by decide) (by decide)
 obtain ⟨b301, g301⟩ : ∃ z, z = h290.size := ⟨_, rfl⟩
 rw [← g301] at A301 D301 st301
 have f302 := (f291.ext E290)
 have ne_b102_b301 : b102 ≠ b301 := Nat.ne_of_lt (Nat.lt_of_lt_of_le f302.lt (Nat.le_of_eq g301.symm))
 have f303 := (f292.ext E290)
 have ne_b187_b301 : b187 ≠ b301 := Nat.ne_of_lt (Nat.lt_of_lt_of_le f303.lt (Nat.le_of_eq g301.symm))
 have f304 := (f293.ext E290)
 have ne_b200_b301 : b200 ≠ b301 := Nat.ne_of_lt (Nat.lt_of_lt_of_le f304.lt (Nat.le_of_eq g301.symm))
 have f305 := (f294.ext E290)
 have ne_b209_b301 : b209 ≠ b301 := Nat.ne_of_lt (Nat.lt_of_lt_of_le f305.lt (Nat.le_of_eq g301.symm))
 have f306 := (f295.ext E290)
 have ne_x227_b301 : x227 ≠ b301 := Nat.ne_of_lt (Nat.lt_of_lt_of_le f306.lt (Nat.le_of_eq g301.symm))
 have f307 := (f296.ext E290)
 have ne_x240_b301 : x240 ≠ b301 := Nat.ne_of_lt (Nat.lt_of_lt_of_le f307.lt (Nat.le_of_eq g301.symm))
 have f308 := (f297.ext E290)
 have ne_b244_b301 : b244 ≠ b301 := Nat.ne_of_lt (Nat.lt_of_lt_of_le f308.lt (Nat.le_of_eq g301.symm))
 have f309 := (f298.ext E290)
 have ne_x269_b301 : x269 ≠ b301 := Nat.ne_of_lt (Nat.lt_of_lt_of_le f309.lt (Nat.le_of_eq g301.symm))
 have f310 := (A281.ext E290)
 have ne_b281_b301 : b281 ≠ b301 := Nat.ne_of_lt (Nat.lt_of_lt_of_le f310.lt (Nat.le_of_eq g301.symm))
 have ne_b290_b301 : b290 ≠ b301 := Nat.ne_of_lt (Nat.lt_of_lt_of_le A290.lt (Nat.le_of_eq g301.symm))
 have ge_b301 : n0 ≤ b301 := Nat.le_trans (Nat.le_trans Z0 K299.1) (Nat.le_of_eq g301.symm)
 have sz_b301 : h0.size ≤ b301 := Nat.le_trans K299.1 (Nat.le_of_eq g301.symm)
 have K311 : Keep h0 h301 [] := K299.ext E301
 have F301_modCount : Fld Z h301 b301 "java/util/AbstractList" "modCount" "I" (.int 0) := D301 (Or.inl (own_w hw 23 rfl)) (ty := .int) (by decide)
 have F301_elementData : Fld Z h301 b301 "java/util/ArrayList" "elementData" "[Ljava/lang/Object;" .null := D301 (Or.inl (own_w hw 26 rfl)) (ty := (.array (.object "java/lang/Object"))) (by decide)
 have F301_size : Fld Z h301 b301 "java/util/ArrayList" "size" "I" (.int 0) := D301 (Or.inl (own_w hw 65 rfl)) (ty := .int) (by decide)
 have p312 : GF p e below _ T301 m 493 (oLI4R3u16 p1 p2 p3 p4 b102 b187 b200) [(.ref b301), (.ref b301), (.ref b200), (.ref b290), (.ref b290), (.ref b281), (.ref b281)] := fun t_ k_ => (gc p300 st301) t_ (by
  refine XS.dup X301.here hx rfl (hb hby at_492) rfl rfl ?_
  exact k_)
 have f313 := ((((((((f235.keep q239_K (allS ge_b200 all0)).ext E244).ext E251).keep q268_K (allS ge_b244 all0)).keep q278_K (allS ge_b200 (allS q239_g all0))).ext E281).ext E290).ext E301)
 obtain ⟨_, _, ⟨T314, L314, k314, n314⟩, -, X314, ⟨Lc314, hQ314, l314, y314, z314⟩, st314⟩ := X301.specialBack hx (y := oM18) rfl hown251 (mvT hZ251 (own_w hw 4 rfl)) (mvT hZ251 (own_w hw 5 rfl)) (mvT hZ251 (own_w hw 6 rfl)) (by decide) (backOf (W := 6) (rm1 l Z a0 hw [] b301 de kde el ea kea em mr h301 n0 (Nat.le_trans Z0 K311.1) f313 G A301 F301_modCount F301_elementData F301_size ge_b301) hZ251 (own_w hw 6 rfl) (own_w hw 3 rfl) (by decide) (by decide)) (g := (mkF m 493 (oLI4R3u16 p1 p2 p3 p4 b102 b187 b200) [(.ref b301), (.ref b301), (.ref b200), (.ref b290), (.ref b290), (.ref b281), (.ref b281)])) rfl (by rw [hml]; rfl) (Steps.refl _) (a := b301) (argsL := []) (rest := [(.ref b301), (.ref b200), (.ref b290), (.ref b290), (.ref b281), (.ref b281)]) (lenOf pd0 rfl) rfl (by show 2 * 0 + _ ≤ _; exact Nat.le_of_eq rfl) (hb hby at_493) (fun _ _ => ⟨rfl, e301, (by decide : 15 + 0 ≤ _), (by decide : 194 + 0 ≤ _)⟩)
 dsimp only [Pt.U, Pt.locs, Pt.cells, Pt.slots] at X314 l314 y314 z314 st314 hQ314
 subst l314 y314 z314
 obtain ⟨rfl, N314q, q314_K, q314_F0, q314_F1, q314_F2, q314_F3⟩ := hQ314
 have N314 := Fr.app N278 N314q
 have K315 : Keep h0 T314.heap [] := K311.trans q314_K (allS (Or.inr sz_b301) all0)
 have f316 := ((f302.ext E301).keep q314_K)
 have f317 := ((((((f256.keep q268_K (ninS ne_b102_b244 nin0)).keep q278_K (ninS ne_b102_b200 (ninS ne_b102_x240 nin0))).ext E281).ext E290).ext E301).keep q314_K (ninS ne_b102_b301 nin0))
 have f318 := ((f303.ext E301).keep q314_K)
 have f319 := ((((((f258.keep q268_K (ninS ne_b187_b244 nin0)).keep q278_K (ninS ne_b187_b200 (ninS ne_b187_x240 nin0))).ext E281).ext E290).ext E301).keep q314_K (ninS ne_b187_b301 nin0))
 have f320 := ((f304.ext E301).keep q314_K)
 have f321 := ((f305.ext E301).keep q314_K)
 have f322 := ((f306.ext E301).keep q314_K (ninS ne_x227_b301 nin0))
 have f323 := ((f307.ext E301).keep q314_K (ninS ne_x240_b301 nin0))
 have f324 := ((((q278_F5.ext E281).ext E290).ext E301).keep q314_K)
 have f325 := ((f308.ext E301).keep q314_K)
 have f326 := ((f309.ext E301).keep q314_K (ninS ne_x269_b301 nin0))
 have f327 := ((f310.ext E301).keep q314_K)
 have f328 := ((A290.ext E301).keep q314_K)
 have f329 := (f313.keep q314_K (allS ge_b301 all0))
 have f330 := ((F290_variables.ext E301).keep q314_K (ninS ne_b290_b301 nin0))
 have f331 := ((F290_constraints.ext E301).keep q314_K (ninS ne_b290_b301 nin0))
 have f332 := ((((q278_F1.ext E281).ext E290).ext E301).keep q314_K (ninS ne_b200_b301 nin0))
 have f333 := ((((q278_F2.ext E281).ext E290).ext E301).keep q314_K (ninS ne_b200_b301 nin0))
 have f334 := ((((q278_F3.ext E281).ext E290).ext E301).keep q314_K (ninS ne_b200_b301 nin0))
 have f335 := (((((((((q226_F2.keep q239_K (ninS (Ne.symm ne_b200_b209) nin0)).ext E244).ext E251).keep q268_K (ninS ne_b209_b244 nin0)).keep q278_K (ninS (Ne.symm ne_b200_b209) (ninS ne_b209_x240 nin0))).ext E281).ext E290).ext E301).keep q314_K (ninS ne_b209_b301 nin0))
 have f336 := (((((q268_F2.keep q278_K (ninS (Ne.symm ne_b200_b244) (ninS (Ne.symm ne_x240_b244) nin0))).ext E281).ext E290).ext E301).keep q314_K (ninS ne_b244_b301 nin0))
 obtain ⟨_, _, ⟨T337, L337, k337, n337⟩, -, X337, ⟨Lc337, hQ337, l337, y337, z337⟩, st337⟩ := X314.specialBack hx (y := oM0) rfl hown251 (mvT hZ251 (own_w hw 95 rfl)) (mvT hZ251 (own_w hw 96 rfl)) (mvT hZ251 (own_w hw 97 rfl)) (by decide) (backOf (W := 3) (rm11 l Z a0 hw [] b290 b200 b301 (((0 : Int32) + (1 : Int32)) + (1 : Int32)) (0 : Int32) x240 x241 b209 b244 de kde el ea kea em mr T314.heap n0 (Nat.le_trans Z0 K315.1) f329 G f328 f330 f331 ge_b290 f320 f332 f333 f334 f323 f324 f321 f325 f335 f336 q314_F0 q314_F1 q314_F2 q314_F3 ge_b244 (Ne.symm ne_b200_b290) ne_b290_b301 (Ne.symm ne_x240_b290) (Ne.symm ne_b209_b290) (Ne.symm ne_b244_b290)) hZ251 (own_w hw 97 rfl) (own_w hw 94 rfl) (by decide) (by decide)) (g := (mkF m 496 (oLI4R3u16 p1 p2 p3 p4 b102 b187 b200) [(.ref b301), (.ref b200), (.ref b290), (.ref b290), (.ref b281), (.ref b281)])) rfl (by rw [hml]; rfl) (Steps.refl _) (a := b290) (argsL := [(.ref b200), (.ref b301)]) (rest := [(.ref b290), (.ref b281), (.ref b281)]) (lenOf pd22 rfl) rfl (by show 2 * 0 + _ ≤ _; exact Nat.le_of_eq rfl) (hb hby at_496) (fun _ _ => ⟨rfl, rfl, (by decide : 15 + 3 ≤ _), (by decide : 194 + 8 ≤ _)⟩)
 dsimp only [Pt.U, Pt.locs, Pt.cells, Pt.slots] at X337 l337 y337 z337 st337 hQ337
 subst l337 y337 z337
 obtain ⟨x338, rfl, N337q, q337_K, q337_F0, q337_F1, q337_F2, q337_F3, q337_F4, q337_F5, q337_g, q337_z, q337_n⟩ := hQ337
 have N337 := Fr.app N314 N337q
 have K339 : Keep h0 T337.heap [] := K315.trans q337_K (allS (Or.inr sz_b290) all0)
 have ne_b102_x338 : b102 ≠ x338 := Nat.ne_of_lt (Nat.lt_of_lt_of_le f316.lt q337_z)
 have ne_b187_x338 : b187 ≠ x338 := Nat.ne_of_lt (Nat.lt_of_lt_of_le f318.lt q337_z)
 have ne_b200_x338 : b200 ≠ x338 := Nat.ne_of_lt (Nat.lt_of_lt_of_le f320.lt q337_z)
 have ne_b209_x338 : b209 ≠ x338 := Nat.ne_of_lt (Nat.lt_of_lt_of_le f321.lt q337_z)
 have ne_x227_x338 : x227 ≠ x338 := Nat.ne_of_lt (Nat.lt_of_lt_of_le f322.lt q337_z)
 have ne_x240_x338 : x240 ≠ x338 := Nat.ne_of_lt (Nat.lt_of_lt_of_le f323.lt q337_z)
 have ne_b244_x338 : b244 ≠ x338 := Nat.ne_of_lt (Nat.lt_of_lt_of_le f325.lt q337_z)
 have ne_x269_x338 : x269 ≠ x338 := Nat.ne_of_lt (Nat.lt_of_lt_of_le f326.lt q337_z)
 have ne_b281_x338 : b281 ≠ x338 := Nat.ne_of_lt (Nat.lt_of_lt_of_le f327.lt q337_z)
 have ne_b290_x338 : b290 ≠ x338 := Nat.ne_of_lt (Nat.lt_of_lt_of_le f328.lt q337_z)
 have ne_b301_x338 : b301 ≠ x338 := Nat.ne_of_lt (Nat.lt_of_lt_of_le q314_F0.lt q337_z)
 have p340 : GF p e below _ T337 m 500 (oLI4R3u16 p1 p2 p3 p4 b102 b187 b200) [(.int 0), (.ref b290), (.ref b281), (.ref b281)] := fun t_ k_ => (gcT (gcT p312 st314) st337) t_ (by
  refine XS.iconst X337.here hx rfl (hb hby at_499) ?_
  exact k_)
 have f341 := (f329.keep q337_K (allS ge_b290 all0))
 have f342 := (f327.keep q337_K)
 have f343 := ((((F281_trail.ext E290).ext E301).keep q314_K (ninS ne_b281_b301 nin0)).keep q337_K (ninS ne_b281_b290 nin0))
 have f344 := ((((F281_removedBy.ext E290).ext E301).keep q314_K (ninS ne_b281_b301 nin0)).keep q337_K (ninS ne_b281_b290 nin0))
 have f345 := ((((F281_bits.ext E290).ext E301).keep q314_K (ninS ne_b281_b301 nin0)).keep q337_K (ninS ne_b281_b290 nin0))
 have f346 := ((((F281_sizes.ext E290).ext E301).keep q314_K (ninS ne_b281_b301 nin0)).keep q337_K (ninS ne_b281_b290 nin0))
 have f347 := ((((F281_resized.ext E290).ext E301).keep q314_K (ninS ne_b281_b301 nin0)).keep q337_K (ninS ne_b281_b290 nin0))
 have f348 := ((((F281_inResized.ext E290).ext E301).keep q314_K (ninS ne_b281_b301 nin0)).keep q337_K (ninS ne_b281_b290 nin0))
 have f349 := ((((F281_resizedCount.ext E290).ext E301).keep q314_K (ninS ne_b281_b301 nin0)).keep q337_K (ninS ne_b281_b290 nin0))
 have f350 := ((((F281_trailLength.ext E290).ext E301).keep q314_K (ninS ne_b281_b301 nin0)).keep q337_K (ninS ne_b281_b290 nin0))
 have f351 := (f321.keep q337_K)
 have f352 := ((((((((((q226_F3.keep q239_K (ninS (Ne.symm ne_b200_b209) nin0)).ext E244).ext E251).keep q268_K (ninS ne_b209_b244 nin0)).keep q278_K (ninS (Ne.symm ne_b200_b209) (ninS ne_b209_x240 nin0))).ext E281).ext E290).ext E301).keep q314_K (ninS ne_b209_b301 nin0)).keep q337_K (ninS ne_b209_b290 nin0))
 have f353 := (f322.keep q337_K (ninS ne_x227_b290 nin0))
 have f354 := (f325.keep q337_K)
 have f355 := ((((((q268_F3.keep q278_K (ninS (Ne.symm ne_b200_b244) (ninS (Ne.symm ne_x240_b244) nin0))).ext E281).ext E290).ext E301).keep q314_K (ninS ne_b244_b301 nin0)).keep q337_K (ninS ne_b244_b290 nin0))
 have f356 := (f326.keep q337_K (ninS ne_x269_b290 nin0))
 obtain ⟨_, _, ⟨T357, L357, k357, n357⟩, -, X357, ⟨Lc357, hQ357, l357, y357, z357⟩, st357⟩ := X337.specialBack hx (y := oM5) rfl hown251 (mvT hZ251 (own_w hw 260 rfl)) (mvT hZ251 (own_w hw 261 rfl)) (mvT hZ251 (own_w hw 262 rfl)) (by decide) (backOf (W := 1) (rm32 l Z a0 hw [] b281 b290 x338 b209 b244 x227 x269 x228 x270 (own_pz 70) [(.int (-4)), (.int 7), (.int 9)] de kde el ea kea em mr T337.heap n0 (Nat.le_trans Z0 K339.1) f341 G f342 f343 f344 f345 f346 f347 f348 f349 f350 ge_b281 q337_F0 q337_F1 q337_F3 q337_F4 q337_F5 ge_b244 f351 f352 f353 f354 f355 f356 ne_b281_b290 ne_b281_x338 (Ne.symm ne_b209_b281) (Ne.symm ne_b244_b281) (Ne.symm ne_x227_b281) (Ne.symm ne_x269_b281)) hZ251 (own_w hw 262 rfl) (own_w hw 91 rfl) (by decide) (by decide)) (g := (mkF m 500 (oLI4R3u16 p1 p2 p3 p4 b102 b187 b200) [(.int 0), (.ref b290), (.ref b281), (.ref b281)])) rfl (by rw [hml]; rfl) (Steps.refl _) (a := b281) (argsL := [(.ref b290), (.int 0)]) (rest := [(.ref b281)]) (lenOf pd23 rfl) rfl (by show 2 * 0 + _ ≤ _; exact Nat.le_of_eq rfl) (hb hby at_500) (fun _ _ => ⟨rfl, rfl, (by decide : 18 + 8 ≤ _), (by decide : 202 + 107 ≤ _)⟩)
 dsimp only [Pt.U, Pt.locs, Pt.cells, Pt.slots] at X357 l357 y357 z357 st357 hQ357
 subst l357 y357 z357
 obtain ⟨x358, x359, x360, x361, x362, x363, x364, x365, x366, x367, x368, x369, x370, x371, x372, rfl, N357q, q357_K, q357_F0, q357_F1, q357_F2, q357_F3, q357_F4, q357_F5, q357_F6, q357_F7, q357_F8, q357_F9, q357_F10, q357_F11, q357_F12, q357_F13, q357_F14, q357_F15, q357_sz, q357_nd, q357_ge, q357_o⟩ := hQ357
 have N357 := Fr.app N337 N357q
 have K373 : Keep h0 T357.heap [] := K339.trans q357_K (allS (Or.inr sz_b281) all0)
 have p374 : GF p e below _ T357 m 512 (oLI4R4Iu14 p1 p2 p3 p4 b102 b187 b200 b281 (((p4.toUInt32 >>> (1 : UInt32)).toInt32) &&& (1 : Int32))) [] := fun t_ k_ => (gcT p340 st357) t_ (by
  refine XS.astore X357.here hx rfl (hb hby at_503) rfl rfl (l' := (oLI4R4u15 p1 p2 p3 p4 b102 b187 b200 b281)) rfl ?_
  refine XS.iloadN X357.here hx rfl (hb hby at_505) rfl ?_
  refine XS.iconst X357.here hx rfl (hb hby at_506) ?_
  refine XS.iushr X357.here hx rfl (hb hby at_507) rfl ?_
  refine XS.iconst X357.here hx rfl (hb hby at_508) ?_
  refine XS.iand X357.here hx rfl (hb hby at_509) rfl ?_
  refine XS.istore X357.here hx rfl (hb hby at_510) rfl (l' := (oLI4R4Iu14 p1 p2 p3 p4 b102 b187 b200 b281 (((p4.toUInt32 >>> (1 : UInt32)).toInt32) &&& (1 : Int32)))) rfl ?_
  exact k_)
 obtain ⟨v8, hv8⟩ : ∃ z, z = (((p4.toUInt32 >>> (1 : UInt32)).toInt32) &&& (1 : Int32)) := ⟨_, rfl⟩
 have p375 : GF p e below (s₁.setTop (entryFrame m #[(.int p1), (.int p2), (.int p3), (.int p4)] maxLocals)) T357 m 512 (oLI4R4Iu14 p1 p2 p3 p4 b102 b187 b200 b281 v8) [] := by rw [hv8]; exact p374
 have hx1 : v8 = 0 ∨ v8 = 1 := by rw [hv8]; exact own_an1 _
 have p376 : GF p e below _ T357 m 518 (oLI4R4Iu14 p1 p2 p3 p4 b102 b187 b200 b281 v8) [(.int v8), (.int (p2 &&& (2147483647 : Int32)))] := fun t_ k_ => p375 t_ (by
  refine XS.iloadN X357.here hx rfl (hb hby at_512) rfl ?_
  refine X357.ldcInt hx hown251 (mvT hZ251 (own_w hw 297 rfl)) (g := (mkF m 513 (oLI4R4Iu14 p1 p2 p3 p4 b102 b187 b200 b281 v8) [(.int p2)])) rfl (hb hby at_513) _ ?_
  refine XS.iand X357.here hx rfl (hb hby at_515) rfl ?_
  refine XS.iload X357.here hx rfl (hb hby at_516) rfl ?_
  exact k_)
 obtain ⟨_, _, ⟨T377, L377, k377, n377⟩, -, X377, ⟨Lc377, hQ377, l377, y377, z377⟩, st377⟩ := Jvm.LawKit.callS X357 hx (y := oM13) hown251 (mvT hZ251 (own_w hw 298 rfl)) (mvT hZ251 (own_w hw 299 rfl)) (mvT hZ251 (own_w hw 300 rfl)) (mvT hZ251 (own_w hw 301 rfl)) (by decide) (backOf (W := 1) (rm36 l Z a0 hw [] v8 T357.heap n0 (Nat.le_trans Z0 K373.1) ) hZ251 (own_w hw 301 rfl) (own_w hw 300 rfl) (by decide) (by decide)) (g := (mkF m 518 (oLI4R4Iu14 p1 p2 p3 p4 b102 b187 b200 b281 v8) [(.int v8), (.int (p2 &&& (2147483647 : Int32)))])) rfl (by rw [hml]; rfl) (argsL := [(.int v8)]) (rest := [(.int (p2 &&& (2147483647 : Int32)))]) (lenOf pd17 rfl) rfl (by show 2 * 0 + _ ≤ _; exact Nat.le_of_eq rfl) (hb hby at_518) (fun _ _ => ⟨rfl, rfl, (by decide : 26 + 0 ≤ _), (by decide : 309 + 0 ≤ _)⟩)
 dsimp only [Pt.U, Pt.locs, Pt.cells, Pt.slots] at X377 l377 y377 z377 st377 hQ377
 subst l377 y377 z377
 obtain ⟨rfl, N377q, q377_hh⟩ := hQ377
 have N377 := Fr.app N357 N377q
 have p378 : GF p e below _ T377 m 524 (oLI4R4I2u13 p1 p2 p3 p4 b102 b187 b200 b281 v8 ((p2 &&& (2147483647 : Int32)) % (own_sz v8))) [] := fun t_ k_ => (gc p376 st377) t_ (by
  refine Jvm.RoadKit.iremM X377 hx rfl (hb hby at_521) rfl (own_sznz _) ?_
  refine XS.istore X377.here hx rfl (hb hby at_522) rfl (l' := (oLI4R4I2u13 p1 p2 p3 p4 b102 b187 b200 b281 v8 ((p2 &&& (2147483647 : Int32)) % (own_sz v8)))) rfl ?_
  exact k_)
 obtain ⟨v9, hv9⟩ : ∃ z, z = ((p2 &&& (2147483647 : Int32)) % (own_sz v8)) := ⟨_, rfl⟩
 have p379 : GF p e below (s₁.setTop (entryFrame m #[(.int p1), (.int p2), (.int p3), (.int p4)] maxLocals)) T377 m 524 (oLI4R4I2u13 p1 p2 p3 p4 b102 b187 b200 b281 v8 v9) [] := by rw [hv9]; exact p378
 have hd1 : own_dom v8 v9 := by rw [hv9]; exact own_dm hx1 _
 have p380 : GF p e below _ T377 m 529 (oLI4R4I2u13 p1 p2 p3 p4 b102 b187 b200 b281 v8 v9) [(.int (((p4.toUInt32 >>> (2 : UInt32)).toInt32) &&& (1 : Int32)))] := fun t_ k_ => p379 t_ (by
  refine XS.iloadN X377.here hx rfl (hb hby at_524) rfl ?_
  refine XS.iconst X377.here hx rfl (hb hby at_525) ?_
  refine XS.iushr X377.here hx rfl (hb hby at_526) rfl ?_
  refine XS.iconst X377.here hx rfl (hb hby at_527) ?_
  refine XS.iand X377.here hx rfl (hb hby at_528) rfl ?_
  exact k_)
 have p386 : GF p e below (s₁.setTop (entryFrame m #[(.int p1), (.int p2), (.int p3), (.int p4)] maxLocals)) T377 m 537 (oLI4R4I2u13 p1 p2 p3 p4 b102 b187 b200 b281 v8 v9) [(.int (if (((p4.toUInt32 >>> (2 : UInt32)).toInt32) &&& (1 : Int32)) = (0 : Int32) then (0 : Int32) else (1 : Int32)))] := by
  by_cases c381 : (((p4.toUInt32 >>> (2 : UInt32)).toInt32) &&& (1 : Int32)) = (0 : Int32)
  ·have p382 : GF p e below _ T377 m 536 (oLI4R4I2u13 p1 p2 p3 p4 b102 b187 b200 b281 v8 v9) [] := fun t_ k_ => p380 t_ (by
    refine XS.ifYes X377.here hx rfl (pc0 := 529) (pc' := 536) rfl (hb hby at_529) rfl ((if0 _ _).trans (teq c381).1) (by decide) (by decide) ?_
    exact k_)
   have p383 : GF p e below _ T377 m 537 (oLI4R4I2u13 p1 p2 p3 p4 b102 b187 b200 b281 v8 v9) [(.int 0)] := fun t_ k_ => p382 t_ (by
    refine XS.iconst X377.here hx rfl (hb hby at_536) ?_
    exact k_)
   simp only [if_pos c381]; exact p383
  ·have p384 : GF p e below _ T377 m 532 (oLI4R4I2u13 p1 p2 p3 p4 b102 b187 b200 b281 v8 v9) [] := fun t_ k_ => p380 t_ (by
    refine XS.ifNo X377.here hx rfl (hb hby at_529) rfl ((if0 _ _).trans (feq c381).1) ?_
    exact k_)
   have p385 : GF p e below _ T377 m 537 (oLI4R4I2u13 p1 p2 p3 p4 b102 b187 b200 b281 v8 v9) [(.int 1)] := fun t_ k_ => p384 t_ (by
    refine XS.iconst X377.here hx rfl (hb hby at_532) ?_
    refine XS.goto X377.here hx rfl (pc0 := 533) (pc' := 537) rfl (hb hby at_533) (by decide) (by decide) ?_
    exact k_)
   simp only [if_neg c381]; exact p385
 obtain ⟨v10, hv10⟩ : ∃ z, z = (if (((p4.toUInt32 >>> (2 : UInt32)).toInt32) &&& (1 : Int32)) = (0 : Int32) then (0 : Int32) else (1 : Int32)) := ⟨_, rfl⟩
 have p387 : GF p e below (s₁.setTop (entryFrame m #[(.int p1), (.int p2), (.int p3), (.int p4)] maxLocals)) T377 m 537 (oLI4R4I2u13 p1 p2 p3 p4 b102 b187 b200 b281 v8 v9) [(.int v10)] := by rw [hv10]; exact p386
 have p388 : GF p e below _ T377 m 546 (oLI4R4I4u11 p1 p2 p3 p4 b102 b187 b200 b281 v8 v9 v10 (((p4.toUInt32 >>> (3 : UInt32)).toInt32) &&& (1 : Int32))) [] := fun t_ k_ => p387 t_ (by
  refine XS.istore X377.here hx rfl (hb hby at_537) rfl (l' := (oLI4R4I3u12 p1 p2 p3 p4 b102 b187 b200 b281 v8 v9 v10)) rfl ?_
  refine XS.iloadN X377.here hx rfl (hb hby at_539) rfl ?_
  refine XS.iconst X377.here hx rfl (hb hby at_540) ?_
  refine XS.iushr X377.here hx rfl (hb hby at_541) rfl ?_
  refine XS.iconst X377.here hx rfl (hb hby at_542) ?_
  refine XS.iand X377.here hx rfl (hb hby at_543) rfl ?_
  refine XS.istore X377.here hx rfl (hb hby at_544) rfl (l' := (oLI4R4I4u11 p1 p2 p3 p4 b102 b187 b200 b281 v8 v9 v10 (((p4.toUInt32 >>> (3 : UInt32)).toInt32) &&& (1 : Int32)))) rfl ?_
  exact k_)
 obtain ⟨v11, hv11⟩ : ∃ z, z = (((p4.toUInt32 >>> (3 : UInt32)).toInt32) &&& (1 : Int32)) := ⟨_, rfl⟩
 have p389 : GF p e below (s₁.setTop (entryFrame m #[(.int p1), (.int p2), (.int p3), (.int p4)] maxLocals)) T377 m 546 (oLI4R4I4u11 p1 p2 p3 p4 b102 b187 b200 b281 v8 v9 v10 v11) [] := by rw [hv11]; exact p388
 have hx3 : v11 = 0 ∨ v11 = 1 := by rw [hv11]; exact own_an1 _
 have p390 : GF p e below _ T377 m 552 (oLI4R4I4u11 p1 p2 p3 p4 b102 b187 b200 b281 v8 v9 v10 v11) [(.int v11), (.int (p3 &&& (2147483647 : Int32)))] := fun t_ k_ => p389 t_ (by
  refine XS.iloadN X377.here hx rfl (hb hby at_546) rfl ?_
  refine X377.ldcInt hx hown251 (mvT hZ251 (own_w hw 297 rfl)) (g := (mkF m 547 (oLI4R4I4u11 p1 p2 p3 p4 b102 b187 b200 b281 v8 v9 v10 v11) [(.int p3)])) rfl (hb hby at_547) _ ?_
  refine XS.iand X377.here hx rfl (hb hby at_549) rfl ?_
  refine XS.iload X377.here hx rfl (hb hby at_550) rfl ?_
  exact k_)
 obtain ⟨_, _, ⟨T391, L391, k391, n391⟩, -, X391, ⟨Lc391, hQ391, l391, y391, z391⟩, st391⟩ := Jvm.LawKit.callS X377 hx (y := oM13) hown251 (mvT hZ251 (own_w hw 298 rfl)) (mvT hZ251 (own_w hw 299 rfl)) (mvT hZ251 (own_w hw 300 rfl)) (mvT hZ251 (own_w hw 301 rfl)) (by decide) (backOf (W := 1) (rm36 l Z a0 hw [] v11 T357.heap n0 (Nat.le_trans Z0 K373.1) ) hZ251 (own_w hw 301 rfl) (own_w hw 300 rfl) (by decide) (by decide)) (g := (mkF m 552 (oLI4R4I4u11 p1 p2 p3 p4 b102 b187 b200 b281 v8 v9 v10 v11) [(.int v11), (.int (p3 &&& (2147483647 : Int32)))])) rfl (by rw [hml]; rfl) (argsL := [(.int v11)]) (rest := [(.int (p3 &&& (2147483647 : Int32)))]) (lenOf pd17 rfl) rfl (by show 2 * 0 + _ ≤ _; exact Nat.le_of_eq rfl) (hb hby at_552) (fun _ _ => ⟨rfl, q377_hh, (by decide : 26 + 0 ≤ _), (by decide : 309 + 0 ≤ _)⟩)
 dsimp only [Pt.U, Pt.locs, Pt.cells, Pt.slots] at X391 l391 y391 z391 st391 hQ391
 subst l391 y391 z391
 obtain ⟨rfl, N391q, q391_hh⟩ := hQ391
 have N391 := Fr.app N377 N391q
 have p392 : GF p e below _ T391 m 558 (oLI4R4I5u10 p1 p2 p3 p4 b102 b187 b200 b281 v8 v9 v10 v11 ((p3 &&& (2147483647 : Int32)) % (own_sz v11))) [] := fun t_ k_ => (gc p390 st391) t_ (by
  refine Jvm.RoadKit.iremM X391 hx rfl (hb hby at_555) rfl (own_sznz _) ?_
  refine XS.istore X391.here hx rfl (hb hby at_556) rfl (l' := (oLI4R4I5u10 p1 p2 p3 p4 b102 b187 b200 b281 v8 v9 v10 v11 ((p3 &&& (2147483647 : Int32)) % (own_sz v11)))) rfl ?_
  exact k_)
 obtain ⟨v12, hv12⟩ : ∃ z, z = ((p3 &&& (2147483647 : Int32)) % (own_sz v11)) := ⟨_, rfl⟩
 have p393 : GF p e below (s₁.setTop (entryFrame m #[(.int p1), (.int p2), (.int p3), (.int p4)] maxLocals)) T391 m 558 (oLI4R4I5u10 p1 p2 p3 p4 b102 b187 b200 b281 v8 v9 v10 v11 v12) [] := by rw [hv12]; exact p392
 have hd2 : own_dom v11 v12 := by rw [hv12]; exact own_dm hx3 _
 have p394 : GF p e below _ T391 m 562 (oLI4R4I5u10 p1 p2 p3 p4 b102 b187 b200 b281 v8 v9 v10 v11 v12) [(.int v8), (.int v11)] := fun t_ k_ => p393 t_ (by
  refine XS.iload X391.here hx rfl (hb hby at_558) rfl ?_
  refine XS.iload X391.here hx rfl (hb hby at_560) rfl ?_
  exact k_)
 have p405 : GF p e below (s₁.setTop (entryFrame m #[(.int p1), (.int p2), (.int p3), (.int p4)] maxLocals)) T391 m 577 (oLI4R4I5u10 p1 p2 p3 p4 b102 b187 b200 b281 v8 v9 v10 v11 v12) [(.int (if v11 = v8 then (if v12 = v9 then (1 : Int32) else (0 : Int32)) else (0 : Int32)))] := by
  by_cases c395 : v11 = v8
  ·have p396 : GF p e below _ T391 m 565 (oLI4R4I5u10 p1 p2 p3 p4 b102 b187 b200 b281 v8 v9 v10 v11 v12) [] := fun t_ k_ => p394 t_ (by
    refine XS.icmpNo X391.here hx rfl (hb hby at_562) rfl (teq c395).2 ?_
    exact k_)
   have p397 : GF p e below _ T391 m 569 (oLI4R4I5u10 p1 p2 p3 p4 b102 b187 b200 b281 v8 v9 v10 v11 v12) [(.int v9), (.int v12)] := fun t_ k_ => p396 t_ (by
    refine XS.iload X391.here hx rfl (hb hby at_565) rfl ?_
    refine XS.iload X391.here hx rfl (hb hby at_567) rfl ?_
    exact k_)
   by_cases c398 : v12 = v9
   ·have p399 : GF p e below _ T391 m 572 (oLI4R4I5u10 p1 p2 p3 p4 b102 b187 b200 b281 v8 v9 v10 v11 v12) [] := fun t_ k_ => p397 t_ (by
     refine XS.icmpNo X391.here hx rfl (hb hby at_569) rfl (teq c398).2 ?_
     exact k_)
    have p400 : GF p e below _ T391 m 577 (oLI4R4I5u10 p1 p2 p3 p4 b102 b187 b200 b281 v8 v9 v10 v11 v12) [(.int 1)] := fun t_ k_ => p399 t_ (by
     refine XS.iconst X391.here hx rfl (hb hby at_572) ?_
     refine XS.goto X391.here hx rfl (pc0 := 573) (pc' := 577) rfl (hb hby at_573) (by decide) (by decide) ?_
     exact k_)
    simp only [if_pos c395, if_pos c398]; exact p400
   ·have p401 : GF p e below _ T391 m 576 (oLI4R4I5u10 p1 p2 p3 p4 b102 b187 b200 b281 v8 v9 v10 v11 v12) [] := fun t_ k_ => p397 t_ (by
     refine XS.icmpYes X391.here hx rfl (pc0 := 569) (pc' := 576) rfl (hb hby at_569) rfl (feq c398).2 (by decide) (by decide) ?_
     exact k_)
    have p402 : GF p e below _ T391 m 577 (oLI4R4I5u10 p1 p2 p3 p4 b102 b187 b200 b281 v8 v9 v10 v11 v12) [(.int 0)] := fun t_ k_ => p401 t_ (by
     refine XS.iconst X391.here hx rfl (hb hby at_576) ?_
     exact k_)
    simp only [if_pos c395, if_neg c398]; exact p402
  ·have p403 : GF p e below _ T391 m 576 (oLI4R4I5u10 p1 p2 p3 p4 b102 b187 b200 b281 v8 v9 v10 v11 v12) [] := fun t_ k_ => p394 t_ (by
    refine XS.icmpYes X391.here hx rfl (pc0 := 562) (pc' := 576) rfl (hb hby at_562) rfl (feq c395).2 (by decide) (by decide) ?_
    exact k_)
   have p404 : GF p e below _ T391 m 577 (oLI4R4I5u10 p1 p2 p3 p4 b102 b187 b200 b281 v8 v9 v10 v11 v12) [(.int 0)] := fun t_ k_ => p403 t_ (by
    refine XS.iconst X391.here hx rfl (hb hby at_576) ?_
    exact k_)
   simp only [if_neg c395]; exact p404
 obtain ⟨v13, hv13⟩ : ∃ z, z = (if v11 = v8 then (if v12 = v9 then (1 : Int32) else (0 : Int32)) else (0 : Int32)) := ⟨_, rfl⟩
 have p406 : GF p e below (s₁.setTop (entryFrame m #[(.int p1), (.int p2), (.int p3), (.int p4)] maxLocals)) T391 m 577 (oLI4R4I5u10 p1 p2 p3 p4 b102 b187 b200 b281 v8 v9 v10 v11 v12) [(.int v13)] := by rw [hv13]; exact p405
 have p407 : GF p e below _ T391 m 584 (oLI4R4I6u9 p1 p2 p3 p4 b102 b187 b200 b281 v8 v9 v10 v11 v12 v13) [(.int (((p4.toUInt32 >>> (4 : UInt32)).toInt32) &&& (1 : Int32)))] := fun t_ k_ => p406 t_ (by
  refine XS.istore X391.here hx rfl (hb hby at_577) rfl (l' := (oLI4R4I6u9 p1 p2 p3 p4 b102 b187 b200 b281 v8 v9 v10 v11 v12 v13)) rfl ?_
  refine XS.iloadN X391.here hx rfl (hb hby at_579) rfl ?_
  refine XS.iconst X391.here hx rfl (hb hby at_580) ?_
  refine XS.iushr X391.here hx rfl (hb hby at_581) rfl ?_
  refine XS.iconst X391.here hx rfl (hb hby at_582) ?_
  refine XS.iand X391.here hx rfl (hb hby at_583) rfl ?_
  exact k_)
 have p423 : GF p e below (s₁.setTop (entryFrame m #[(.int p1), (.int p2), (.int p3), (.int p4)] maxLocals)) T391 m 602 (oLI4R4I6u9 p1 p2 p3 p4 b102 b187 b200 b281 v8 v9 v10 v11 v12 v13) [(.int (if (((p4.toUInt32 >>> (4 : UInt32)).toInt32) &&& (1 : Int32)) = (0 : Int32) then (0 : Int32) else (if v10 = (0 : Int32) then (1 : Int32) else (if v13 = (0 : Int32) then (1 : Int32) else (0 : Int32)))))] := by
  by_cases c408 : (((p4.toUInt32 >>> (4 : UInt32)).toInt32) &&& (1 : Int32)) = (0 : Int32)
  ·have p409 : GF p e below _ T391 m 601 (oLI4R4I6u9 p1 p2 p3 p4 b102 b187 b200 b281 v8 v9 v10 v11 v12 v13) [] := fun t_ k_ => p407 t_ (by
    refine XS.ifYes X391.here hx rfl (pc0 := 584) (pc' := 601) rfl (hb hby at_584) rfl ((if0 _ _).trans (teq c408).1) (by decide) (by decide) ?_
    exact k_)
   have p410 : GF p e below _ T391 m 602 (oLI4R4I6u9 p1 p2 p3 p4 b102 b187 b200 b281 v8 v9 v10 v11 v12 v13) [(.int 0)] := fun t_ k_ => p409 t_ (by
    refine XS.iconst X391.here hx rfl (hb hby at_601) ?_
    exact k_)
   simp only [if_pos c408]; exact p410
  ·have p411 : GF p e below _ T391 m 587 (oLI4R4I6u9 p1 p2 p3 p4 b102 b187 b200 b281 v8 v9 v10 v11 v12 v13) [] := fun t_ k_ => p407 t_ (by
    refine XS.ifNo X391.here hx rfl (hb hby at_584) rfl ((if0 _ _).trans (feq c408).1) ?_
    exact k_)
   have p412 : GF p e below _ T391 m 589 (oLI4R4I6u9 p1 p2 p3 p4 b102 b187 b200 b281 v8 v9 v10 v11 v12 v13) [(.int v10)] := fun t_ k_ => p411 t_ (by
    refine XS.iload X391.here hx rfl (hb hby at_587) rfl ?_
    exact k_)
   by_cases c413 : v10 = (0 : Int32)
   ·have p414 : GF p e below _ T391 m 597 (oLI4R4I6u9 p1 p2 p3 p4 b102 b187 b200 b281 v8 v9 v10 v11 v12 v13) [] := fun t_ k_ => p412 t_ (by
     refine XS.ifYes X391.here hx rfl (pc0 := 589) (pc' := 597) rfl (hb hby at_589) rfl ((if0 _ _).trans (teq c413).1) (by decide) (by decide) ?_
     exact k_)
    have p415 : GF p e below _ T391 m 602 (oLI4R4I6u9 p1 p2 p3 p4 b102 b187 b200 b281 v8 v9 v10 v11 v12 v13) [(.int 1)] := fun t_ k_ => p414 t_ (by
     refine XS.iconst X391.here hx rfl (hb hby at_597) ?_
     refine XS.goto X391.here hx rfl (pc0 := 598) (pc' := 602) rfl (hb hby at_598) (by decide) (by decide) ?_
     exact k_)
    simp only [if_neg c408, if_pos c413]; exact p415
   ·have p416 : GF p e below _ T391 m 592 (oLI4R4I6u9 p1 p2 p3 p4 b102 b187 b200 b281 v8 v9 v10 v11 v12 v13) [] := fun t_ k_ => p412 t_ (by
     refine XS.ifNo X391.here hx rfl (hb hby at_589) rfl ((if0 _ _).trans (feq c413).1) ?_
     exact k_)
    have p417 : GF p e below _ T391 m 594 (oLI4R4I6u9 p1 p2 p3 p4 b102 b187 b200 b281 v8 v9 v10 v11 v12 v13) [(.int v13)] := fun t_ k_ => p416 t_ (by
     refine XS.iload X391.here hx rfl (hb hby at_592) rfl ?_
     exact k_)
    by_cases c418 : v13 = (0 : Int32)
    ·have p419 : GF p e below _ T391 m 597 (oLI4R4I6u9 p1 p2 p3 p4 b102 b187 b200 b281 v8 v9 v10 v11 v12 v13) [] := fun t_ k_ => p417 t_ (by
      refine XS.ifNo X391.here hx rfl (hb hby at_594) rfl ((if0 _ _).trans (teq c418).2) ?_
      exact k_)
     have p420 : GF p e below _ T391 m 602 (oLI4R4I6u9 p1 p2 p3 p4 b102 b187 b200 b281 v8 v9 v10 v11 v12 v13) [(.int 1)] := fun t_ k_ => p419 t_ (by
      refine XS.iconst X391.here hx rfl (hb hby at_597) ?_
      refine XS.goto X391.here hx rfl (pc0 := 598) (pc' := 602) rfl (hb hby at_598) (by decide) (by decide) ?_
      exact k_)
     simp only [if_neg c408, if_neg c413, if_pos c418]; exact p420
    ·have p421 : GF p e below _ T391 m 601 (oLI4R4I6u9 p1 p2 p3 p4 b102 b187 b200 b281 v8 v9 v10 v11 v12 v13) [] := fun t_ k_ => p417 t_ (by
      refine XS.ifYes X391.here hx rfl (pc0 := 594) (pc' := 601) rfl (hb hby at_594) rfl ((if0 _ _).trans (feq c418).2) (by decide) (by decide) ?_
      exact k_)
     have p422 : GF p e below _ T391 m 602 (oLI4R4I6u9 p1 p2 p3 p4 b102 b187 b200 b281 v8 v9 v10 v11 v12 v13) [(.int 0)] := fun t_ k_ => p421 t_ (by
      refine XS.iconst X391.here hx rfl (hb hby at_601) ?_
      exact k_)
     simp only [if_neg c408, if_neg c413, if_neg c418]; exact p422
 obtain ⟨v14, hv14⟩ : ∃ z, z = (if (((p4.toUInt32 >>> (4 : UInt32)).toInt32) &&& (1 : Int32)) = (0 : Int32) then (0 : Int32) else (if v10 = (0 : Int32) then (1 : Int32) else (if v13 = (0 : Int32) then (1 : Int32) else (0 : Int32)))) := ⟨_, rfl⟩
 have p424 : GF p e below (s₁.setTop (entryFrame m #[(.int p1), (.int p2), (.int p3), (.int p4)] maxLocals)) T391 m 602 (oLI4R4I6u9 p1 p2 p3 p4 b102 b187 b200 b281 v8 v9 v10 v11 v12 v13) [(.int v14)] := by rw [hv14]; exact p423
 have p425 : GF p e below _ T391 m 604 (oLI4R4I7u8 p1 p2 p3 p4 b102 b187 b200 b281 v8 v9 v10 v11 v12 v13 v14) [] := fun t_ k_ => p424 t_ (by
  refine XS.istore X391.here hx rfl (hb hby at_602) rfl (l' := (oLI4R4I7u8 p1 p2 p3 p4 b102 b187 b200 b281 v8 v9 v10 v11 v12 v13 v14)) rfl ?_
  exact k_)
 have hsm : ¬ v10 = 0 → ¬ v14 = 0 → ¬ (v11 = v8 ∧ v12 = v9) := fun a b => own_sm hv14 hv13 a b
 have p426 : GF p e below _ T391 m 609 (oLI4R4I7u8 p1 p2 p3 p4 b102 b187 b200 b281 v8 v9 v10 v11 v12 v13 v14) [(.int (((p4.toUInt32 >>> (5 : UInt32)).toInt32) &&& (1 : Int32)))] := fun t_ k_ => p425 t_ (by
  refine XS.iloadN X391.here hx rfl (hb hby at_604) rfl ?_
  refine XS.iconst X391.here hx rfl (hb hby at_605) ?_
  refine XS.iushr X391.here hx rfl (hb hby at_606) rfl ?_
  refine XS.iconst X391.here hx rfl (hb hby at_607) ?_
  refine XS.iand X391.here hx rfl (hb hby at_608) rfl ?_
  exact k_)
 have p432 : GF p e below (s₁.setTop (entryFrame m #[(.int p1), (.int p2), (.int p3), (.int p4)] maxLocals)) T391 m 617 (oLI4R4I7u8 p1 p2 p3 p4 b102 b187 b200 b281 v8 v9 v10 v11 v12 v13 v14) [(.int (if (((p4.toUInt32 >>> (5 : UInt32)).toInt32) &&& (1 : Int32)) = (0 : Int32) then (0 : Int32) else (1 : Int32)))] := by
  by_cases c427 : (((p4.toUInt32 >>> (5 : UInt32)).toInt32) &&& (1 : Int32)) = (0 : Int32)
  ·have p428 : GF p e below _ T391 m 616 (oLI4R4I7u8 p1 p2 p3 p4 b102 b187 b200 b281 v8 v9 v10 v11 v12 v13 v14) [] := fun t_ k_ => p426 t_ (by
    refine XS.ifYes X391.here hx rfl (pc0 := 609) (pc' := 616) rfl (hb hby at_609) rfl ((if0 _ _).trans (teq c427).1) (by decide) (by decide) ?_
    exact k_)
   have p429 : GF p e below _ T391 m 617 (oLI4R4I7u8 p1 p2 p3 p4 b102 b187 b200 b281 v8 v9 v10 v11 v12 v13 v14) [(.int 0)] := fun t_ k_ => p428 t_ (by
    refine XS.iconst X391.here hx rfl (hb hby at_616) ?_
    exact k_)
   simp only [if_pos c427]; exact p429
  ·have p430 : GF p e below _ T391 m 612 (oLI4R4I7u8 p1 p2 p3 p4 b102 b187 b200 b281 v8 v9 v10 v11 v12 v13 v14) [] := fun t_ k_ => p426 t_ (by
    refine XS.ifNo X391.here hx rfl (hb hby at_609) rfl ((if0 _ _).trans (feq c427).1) ?_
    exact k_)
   have p431 : GF p e below _ T391 m 617 (oLI4R4I7u8 p1 p2 p3 p4 b102 b187 b200 b281 v8 v9 v10 v11 v12 v13 v14) [(.int 1)] := fun t_ k_ => p430 t_ (by
    refine XS.iconst X391.here hx rfl (hb hby at_612) ?_
    refine XS.goto X391.here hx rfl (pc0 := 613) (pc' := 617) rfl (hb hby at_613) (by decide) (by decide) ?_
    exact k_)
   simp only [if_neg c427]; exact p431
 obtain ⟨v15, hv15⟩ : ∃ z, z = (if (((p4.toUInt32 >>> (5 : UInt32)).toInt32) &&& (1 : Int32)) = (0 : Int32) then (0 : Int32) else (1 : Int32)) := ⟨_, rfl⟩
 have p433 : GF p e below (s₁.setTop (entryFrame m #[(.int p1), (.int p2), (.int p3), (.int p4)] maxLocals)) T391 m 617 (oLI4R4I7u8 p1 p2 p3 p4 b102 b187 b200 b281 v8 v9 v10 v11 v12 v13 v14) [(.int v15)] := by rw [hv15]; exact p432
 have p434 : GF p e below _ T391 m 627 (oLI4R4I9u6 p1 p2 p3 p4 b102 b187 b200 b281 v8 v9 v10 v11 v12 v13 v14 v15 (((p4.toUInt32 >>> (6 : UInt32)).toInt32) &&& (3 : Int32))) [] := fun t_ k_ => p433 t_ (by
  refine XS.istore X391.here hx rfl (hb hby at_617) rfl (l' := (oLI4R4I8u7 p1 p2 p3 p4 b102 b187 b200 b281 v8 v9 v10 v11 v12 v13 v14 v15)) rfl ?_
  refine XS.iloadN X391.here hx rfl (hb hby at_619) rfl ?_
  refine XS.bipush X391.here hx rfl (hb hby at_620) ?_
  refine XS.iushr X391.here hx rfl (hb hby at_622) rfl ?_
  refine XS.iconst X391.here hx rfl (hb hby at_623) ?_
  refine XS.iand X391.here hx rfl (hb hby at_624) rfl ?_
  refine XS.istore X391.here hx rfl (hb hby at_625) rfl (l' := (oLI4R4I9u6 p1 p2 p3 p4 b102 b187 b200 b281 v8 v9 v10 v11 v12 v13 v14 v15 (((p4.toUInt32 >>> (6 : UInt32)).toInt32) &&& (3 : Int32)))) rfl ?_
  exact k_)
 obtain ⟨v16, hv16⟩ : ∃ z, z = (((p4.toUInt32 >>> (6 : UInt32)).toInt32) &&& (3 : Int32)) := ⟨_, rfl⟩
 have p435 : GF p e below (s₁.setTop (entryFrame m #[(.int p1), (.int p2), (.int p3), (.int p4)] maxLocals)) T391 m 627 (oLI4R4I9u6 p1 p2 p3 p4 b102 b187 b200 b281 v8 v9 v10 v11 v12 v13 v14 v15 v16) [] := by rw [hv16]; exact p434
 obtain ⟨T436, L436, v17, v18, X436, e436, N436, hdq, p436⟩ : ∃ (T' : State) (L' : List Loc) (v17 v18 : Int32), Stand p l e room_1 (s.setVm T251.vm) m #[(.int p1), (.int p2), (.int p3), (.int p4)] below meth c T' L' 26 309 ∧ T'.heap = T357.heap ∧ Fr n0 L' ∧ own_dom v17 v18 ∧ GF p e below (s₁.setTop (entryFrame m #[(.int p1), (.int p2), (.int p3), (.int p4)] maxLocals)) T' m 677 (oLI4R4I11u4 p1 p2 p3 p4 b102 b187 b200 b281 v8 v9 v10 v11 v12 v13 v14 v15 v16 v17 v18) [] := by
  have p437 : GF p e below _ T391 m 629 (oLI4R4I9u6 p1 p2 p3 p4 b102 b187 b200 b281 v8 v9 v10 v11 v12 v13 v14 v15 v16) [(.int v16)] := fun t_ k_ => p435 t_ (by
   refine XS.iload X391.here hx rfl (hb hby at_627) rfl ?_
   exact k_)
  by_cases c438 : v16 = (0 : Int32)
  ·have p439 : GF p e below _ T391 m 632 (oLI4R4I9u6 p1 p2 p3 p4 b102 b187 b200 b281 v8 v9 v10 v11 v12 v13 v14 v15 v16) [] := fun t_ k_ => p437 t_ (by
    refine XS.ifNo X391.here hx rfl (hb hby at_629) rfl ((if0 _ _).trans (teq c438).2) ?_
    exact k_)
   have p440 : GF p e below _ T391 m 677 (oLI4R4I11u4 p1 p2 p3 p4 b102 b187 b200 b281 v8 v9 v10 v11 v12 v13 v14 v15 v16 v8 v9) [] := fun t_ k_ => p439 t_ (by
    refine XS.iload X391.here hx rfl (hb hby at_632) rfl ?_
    refine XS.istore X391.here hx rfl (hb hby at_634) rfl (l' := (oLI4R4I10u5 p1 p2 p3 p4 b102 b187 b200 b281 v8 v9 v10 v11 v12 v13 v14 v15 v16 v8)) rfl ?_
    refine XS.iload X391.here hx rfl (hb hby at_636) rfl ?_
    refine XS.istore X391.here hx rfl (hb hby at_638) rfl (l' := (oLI4R4I11u4 p1 p2 p3 p4 b102 b187 b200 b281 v8 v9 v10 v11 v12 v13 v14 v15 v16 v8 v9)) rfl ?_
    refine XS.goto X391.here hx rfl (pc0 := 640) (pc' := 677) rfl (hb hby at_640) (by decide) (by decide) ?_
    exact k_)
   exact ⟨_, _, v8, v9, X391, q391_hh, N391, hd1, p440⟩
  ·have p441 : GF p e below _ T391 m 643 (oLI4R4I9u6 p1 p2 p3 p4 b102 b187 b200 b281 v8 v9 v10 v11 v12 v13 v14 v15 v16) [] := fun t_ k_ => p437 t_ (by
    refine XS.ifYes X391.here hx rfl (pc0 := 629) (pc' := 643) rfl (hb hby at_629) rfl ((if0 _ _).trans (feq c438).2) (by decide) (by decide) ?_
    exact k_)
   have p442 : GF p e below _ T391 m 646 (oLI4R4I9u6 p1 p2 p3 p4 b102 b187 b200 b281 v8 v9 v10 v11 v12 v13 v14 v15 v16) [(.int 1), (.int v16)] := fun t_ k_ => p441 t_ (by
    refine XS.iload X391.here hx rfl (hb hby at_643) rfl ?_
    refine XS.iconst X391.here hx rfl (hb hby at_645) ?_
    exact k_)
   by_cases c443 : v16 = (1 : Int32)
   ·have p444 : GF p e below _ T391 m 649 (oLI4R4I9u6 p1 p2 p3 p4 b102 b187 b200 b281 v8 v9 v10 v11 v12 v13 v14 v15 v16) [] := fun t_ k_ => p442 t_ (by
     refine XS.icmpNo X391.here hx rfl (hb hby at_646) rfl (teq c443).2 ?_
     exact k_)
    have p445 : GF p e below _ T391 m 677 (oLI4R4I11u4 p1 p2 p3 p4 b102 b187 b200 b281 v8 v9 v10 v11 v12 v13 v14 v15 v16 v11 v12) [] := fun t_ k_ => p444 t_ (by
     refine XS.iload X391.here hx rfl (hb hby at_649) rfl ?_
     refine XS.istore X391.here hx rfl (hb hby at_651) rfl (l' := (oLI4R4I10u5 p1 p2 p3 p4 b102 b187 b200 b281 v8 v9 v10 v11 v12 v13 v14 v15 v16 v11)) rfl ?_
     refine XS.iload X391.here hx rfl (hb hby at_653) rfl ?_
     refine XS.istore X391.here hx rfl (hb hby at_655) rfl (l' := (oLI4R4I11u4 p1 p2 p3 p4 b102 b187 b200 b281 v8 v9 v10 v11 v12 v13 v14 v15 v16 v11 v12)) rfl ?_
     refine XS.goto X391.here hx rfl (pc0 := 657) (pc' := 677) rfl (hb hby at_657) (by decide) (by decide) ?_
     exact k_)
    exact ⟨_, _, v11, v12, X391, q391_hh, N391, hd2, p445⟩
   ·have p446 : GF p e below _ T391 m 660 (oLI4R4I9u6 p1 p2 p3 p4 b102 b187 b200 b281 v8 v9 v10 v11 v12 v13 v14 v15 v16) [] := fun t_ k_ => p442 t_ (by
     refine XS.icmpYes X391.here hx rfl (pc0 := 646) (pc' := 660) rfl (hb hby at_646) rfl (feq c443).2 (by decide) (by decide) ?_
     exact k_)
    have p447 : GF p e below _ T391 m 671 (oLI4R4I10u5 p1 p2 p3 p4 b102 b187 b200 b281 v8 v9 v10 v11 v12 v13 v14 v15 v16 (p4 &&& (1 : Int32))) [(.int (p4 &&& (1 : Int32))), (.int (p1 &&& (2147483647 : Int32)))] := fun t_ k_ => p446 t_ (by
     refine XS.iloadN X391.here hx rfl (hb hby at_660) rfl ?_
     refine XS.iconst X391.here hx rfl (hb hby at_661) ?_
     refine XS.iand X391.here hx rfl (hb hby at_662) rfl ?_
     refine XS.istore X391.here hx rfl (hb hby at_663) rfl (l' := (oLI4R4I10u5 p1 p2 p3 p4 b102 b187 b200 b281 v8 v9 v10 v11 v12 v13 v14 v15 v16 (p4 &&& (1 : Int32)))) rfl ?_
     refine XS.iloadN X391.here hx rfl (hb hby at_665) rfl ?_
     refine X391.ldcInt hx hown251 (mvT hZ251 (own_w hw 297 rfl)) (g := (mkF m 666 (oLI4R4I10u5 p1 p2 p3 p4 b102 b187 b200 b281 v8 v9 v10 v11 v12 v13 v14 v15 v16 (p4 &&& (1 : Int32))) [(.int p1)])) rfl (hb hby at_666) _ ?_
     refine XS.iand X391.here hx rfl (hb hby at_668) rfl ?_
     refine XS.iload X391.here hx rfl (hb hby at_669) rfl ?_
     exact k_)
    obtain ⟨_, _, ⟨T448, L448, k448, n448⟩, -, X448, ⟨Lc448, hQ448, l448, y448, z448⟩, st448⟩ := Jvm.LawKit.callS X391 hx (y := oM13) hown251 (mvT hZ251 (own_w hw 298 rfl)) (mvT hZ251 (own_w hw 299 rfl)) (mvT hZ251 (own_w hw 300 rfl)) (mvT hZ251 (own_w hw 301 rfl)) (by decide) (backOf (W := 1) (rm36 l Z a0 hw [] (p4 &&& (1 : Int32)) T357.heap n0 (Nat.le_trans Z0 K373.1) ) hZ251 (own_w hw 301 rfl) (own_w hw 300 rfl) (by decide) (by decide)) (g := (mkF m 671 (oLI4R4I10u5 p1 p2 p3 p4 b102 b187 b200 b281 v8 v9 v10 v11 v12 v13 v14 v15 v16 (p4 &&& (1 : Int32))) [(.int (p4 &&& (1 : Int32))), (.int (p1 &&& (2147483647 : Int32)))])) rfl (by rw [hml]; rfl) (argsL := [(.int (p4 &&& (1 : Int32)))]) (rest := [(.int (p1 &&& (2147483647 : Int32)))]) (lenOf pd17 rfl) rfl (by show 2 * 0 + _ ≤ _; exact Nat.le_of_eq rfl) (hb hby at_671) (fun _ _ => ⟨rfl, q391_hh, (by decide : 26 + 0 ≤ _), (by decide : 309 + 0 ≤ _)⟩)
    dsimp only [Pt.U, Pt.locs, Pt.cells, Pt.slots] at X448 l448 y448 z448 st448 hQ448
    subst l448 y448 z448
    obtain ⟨rfl, N448q, q448_hh⟩ := hQ448
    have N448 := Fr.app N391 N448q
    have p449 : GF p e below _ T448 m 677 (oLI4R4I11u4 p1 p2 p3 p4 b102 b187 b200 b281 v8 v9 v10 v11 v12 v13 v14 v15 v16 (p4 &&& (1 : Int32)) ((p1 &&& (2147483647 : Int32)) % (own_sz (p4 &&& (1 : Int32))))) [] := fun t_ k_ => (gc p447 st448) t_ (by
     refine Jvm.RoadKit.iremM X448 hx rfl (hb hby at_674) rfl (own_sznz _) ?_
     refine XS.istore X448.here hx rfl (hb hby at_675) rfl (l' := (oLI4R4I11u4 p1 p2 p3 p4 b102 b187 b200 b281 v8 v9 v10 v11 v12 v13 v14 v15 v16 (p4 &&& (1 : Int32)) ((p1 &&& (2147483647 : Int32)) % (own_sz (p4 &&& (1 : Int32)))))) rfl ?_
     exact k_)
    exact ⟨_, _, (p4 &&& (1 : Int32)), ((p1 &&& (2147483647 : Int32)) % (own_sz (p4 &&& (1 : Int32)))), X448, q448_hh, N448, (own_dm (own_an1 _) _), p449⟩
 have p450 : GF p e below _ T436 m 679 (oLI4R4I11u4 p1 p2 p3 p4 b102 b187 b200 b281 v8 v9 v10 v11 v12 v13 v14 v15 v16 v17 v18) [(.int v10)] := fun t_ k_ => p436 t_ (by
  refine XS.iload X436.here hx rfl (hb hby at_677) rfl ?_
  exact k_)
 by_cases c451 : v10 = (0 : Int32)
 ·have p452 : GF p e below _ T436 m 691 (oLI4R4I11u4 p1 p2 p3 p4 b102 b187 b200 b281 v8 v9 v10 v11 v12 v13 v14 v15 v16 v17 v18) [] := fun t_ k_ => p450 t_ (by
   refine XS.ifYes X436.here hx rfl (pc0 := 679) (pc' := 691) rfl (hb hby at_679) rfl ((if0 _ _).trans (teq c451).1) (by decide) (by decide) ?_
   exact k_)
  have p453 : GF p e below _ T436 m 693 (oLI4R4I11u4 p1 p2 p3 p4 b102 b187 b200 b281 v8 v9 v10 v11 v12 v13 v14 v15 v16 v17 v18) [(.ref b281)] := fun t_ k_ => p452 t_ (by
   refine XS.aload X436.here hx rfl (hb hby at_691) rfl rfl ?_
   exact k_)
  obtain ⟨cq454, kq454, q454a, q454b, q454c⟩ := isOf hZ251 e436 q357_F0
  obtain ⟨_, _, ⟨T454, L454, k454, n454⟩, -, X454, ⟨Lc454, hQ454, l454, y454, z454⟩, st454⟩ := X436.virtualBack hx (y := oM7) (z := oM7) hown251 (mvT hZ251 (own_w hw 302 rfl)) (mvT hZ251 (own_w hw 303 rfl)) (notFace_of_selects (args := #[]) (mvT hZ251 (own_w hw 305 rfl))) (mvT hZ251 (own_w hw 305 rfl)) (mvT hZ251 (own_w hw 304 rfl)) (by decide) (backOf (W := 0) (rm37 l Z a0 hw [] b281 (0 : Int32) T357.heap n0 (Nat.le_trans Z0 K373.1) q357_F8) hZ251 (own_w hw 306 rfl) (own_w hw 91 rfl) (by decide) (by decide)) q454a q454c (g := (mkF m 693 (oLI4R4I11u4 p1 p2 p3 p4 b102 b187 b200 b281 v8 v9 v10 v11 v12 v13 v14 v15 v16 v17 v18) [(.ref b281)])) rfl (by rw [hml]; rfl) (Steps.refl _) (argsL := []) (rest := []) (lenOf pd13 rfl) rfl (by show 2 * 0 + _ ≤ _; exact Nat.le_of_eq rfl) (hb hby at_693) (fun _ _ => ⟨rfl, e436, (by decide : 26 + 0 ≤ _), (by decide : 309 + 0 ≤ _)⟩)
  dsimp only [Pt.U, Pt.locs, Pt.cells, Pt.slots] at X454 l454 y454 z454 st454 hQ454
  subst l454 y454 z454
  obtain ⟨rfl, N454q, q454_hh⟩ := hQ454
  have N454 := Fr.app N436 N454q
  have p455 : GF p e below _ T454 m 700 (oLI4R4I12u3 p1 p2 p3 p4 b102 b187 b200 b281 v8 v9 v10 v11 v12 v13 v14 v15 v16 v17 v18 0) [(.int v14)] := fun t_ k_ => (gcT p453 st454) t_ (by
   refine XS.istore X454.here hx rfl (hb hby at_696) rfl (l' := (oLI4R4I12u3 p1 p2 p3 p4 b102 b187 b200 b281 v8 v9 v10 v11 v12 v13 v14 v15 v16 v17 v18 0)) rfl ?_
   refine XS.iload X454.here hx rfl (hb hby at_698) rfl ?_
   exact k_)
  by_cases c456 : v14 = (0 : Int32)
  ·have p457 : GF p e below _ T454 m 712 (oLI4R4I12u3 p1 p2 p3 p4 b102 b187 b200 b281 v8 v9 v10 v11 v12 v13 v14 v15 v16 v17 v18 0) [] := fun t_ k_ => p455 t_ (by
    refine XS.ifYes X454.here hx rfl (pc0 := 700) (pc' := 712) rfl (hb hby at_700) rfl ((if0 _ _).trans (teq c456).1) (by decide) (by decide) ?_
    exact k_)
   have p458 : GF p e below _ T454 m 714 (oLI4R4I12u3 p1 p2 p3 p4 b102 b187 b200 b281 v8 v9 v10 v11 v12 v13 v14 v15 v16 v17 v18 0) [(.int v15)] := fun t_ k_ => p457 t_ (by
    refine XS.iload X454.here hx rfl (hb hby at_712) rfl ?_
    exact k_)
   by_cases c459 : v15 = (0 : Int32)
   ·have p460 : GF p e below _ T454 m 724 (oLI4R4I12u3 p1 p2 p3 p4 b102 b187 b200 b281 v8 v9 v10 v11 v12 v13 v14 v15 v16 v17 v18 0) [] := fun t_ k_ => p458 t_ (by
     refine XS.ifYes X454.here hx rfl (pc0 := 714) (pc' := 724) rfl (hb hby at_714) rfl ((if0 _ _).trans (teq c459).1) (by decide) (by decide) ?_
     exact k_)
    have p461 : GF p e below _ T454 m 726 (oLI4R4I12u3 p1 p2 p3 p4 b102 b187 b200 b281 v8 v9 v10 v11 v12 v13 v14 v15 v16 v17 v18 0) [(.int v10)] := fun t_ k_ => p460 t_ (by
     refine XS.iload X454.here hx rfl (hb hby at_724) rfl ?_
     exact k_)
    have c462 : (v10 = (0 : Int32)) := c451
    have p463 : GF p e below _ T454 m 752 (oLI4R4I13u2 p1 p2 p3 p4 b102 b187 b200 b281 v8 v9 v10 v11 v12 v13 v14 v15 v16 v17 v18 0 0) [(.int v14)] := fun t_ k_ => p461 t_ (by
     refine XS.ifYes X454.here hx rfl (pc0 := 726) (pc' := 747) rfl (hb hby at_726) rfl ((if0 _ _).trans (teq c462).1) (by decide) (by decide) ?_
     refine XS.iconst X454.here hx rfl (hb hby at_747) ?_
     refine XS.istore X454.here hx rfl (hb hby at_748) rfl (l' := (oLI4R4I13u2 p1 p2 p3 p4 b102 b187 b200 b281 v8 v9 v10 v11 v12 v13 v14 v15 v16 v17 v18 0 0)) rfl ?_
     refine XS.iload X454.here hx rfl (hb hby at_750) rfl ?_
     exact k_)
    have c464 : (v14 = (0 : Int32)) := c456
    have p465 : GF p e below _ T454 m 804 (oLI4R4I15 p1 p2 p3 p4 b102 b187 b200 b281 v8 v9 v10 v11 v12 v13 v14 v15 v16 v17 v18 0 0 0 1) [(.int v18), (.int v17), (.ref b281)] := fun t_ k_ => p463 t_ (by
     refine XS.ifYes X454.here hx rfl (pc0 := 752) (pc' := 778) rfl (hb hby at_752) rfl ((if0 _ _).trans (teq c464).1) (by decide) (by decide) ?_
     refine XS.iconst X454.here hx rfl (hb hby at_778) ?_
     refine XS.istore X454.here hx rfl (hb hby at_779) rfl (l' := (oLI4R4I14u p1 p2 p3 p4 b102 b187 b200 b281 v8 v9 v10 v11 v12 v13 v14 v15 v16 v17 v18 0 0 0)) rfl ?_
     refine XS.iload X454.here hx rfl (hb hby at_781) rfl ?_
     refine XS.ifNo X454.here hx rfl (hb hby at_783) rfl ((if0 _ _).trans (teq (by decide : ((0 : Int32) = (0 : Int32)))).2) ?_
     refine XS.iload X454.here hx rfl (hb hby at_786) rfl ?_
     refine XS.ifNo X454.here hx rfl (hb hby at_788) rfl ((if0 _ _).trans (teq (by decide : ((0 : Int32) = (0 : Int32)))).2) ?_
     refine XS.iconst X454.here hx rfl (hb hby at_791) ?_
     refine XS.goto X454.here hx rfl (pc0 := 792) (pc' := 796) rfl (hb hby at_792) (by decide) (by decide) ?_
     refine XS.istore X454.here hx rfl (hb hby at_796) rfl (l' := (oLI4R4I15 p1 p2 p3 p4 b102 b187 b200 b281 v8 v9 v10 v11 v12 v13 v14 v15 v16 v17 v18 0 0 0 1)) rfl ?_
     refine XS.aload X454.here hx rfl (hb hby at_798) rfl rfl ?_
     refine XS.iload X454.here hx rfl (hb hby at_800) rfl ?_
     refine XS.iload X454.here hx rfl (hb hby at_802) rfl ?_
     exact k_)
    obtain ⟨cq466, kq466, q466a, q466b, q466c⟩ := isOf hZ251 q454_hh q357_F0
    obtain ⟨_, _, ⟨T466, L466, k466, n466⟩, -, X466, ⟨Lc466, hQ466, l466, y466, z466⟩, st466⟩ := X454.virtualBack hx (y := oM6) (z := oM6) hown251 (mvT hZ251 (own_w hw 309 rfl)) (mvT hZ251 (own_w hw 310 rfl)) (notFace_of_selects (args := #[]) (mvT hZ251 (own_w hw 312 rfl))) (mvT hZ251 (own_w hw 312 rfl)) (mvT hZ251 (own_w hw 311 rfl)) (by decide) (backOf (W := 0) (rm38 l Z a0 hw [] b281 x359 x363 x364 x367 x371 x372 (-1 : Int64) (63 : Int64) (7 : Int64) v17 v18 T357.heap n0 (Nat.le_trans Z0 K373.1) q357_F3 q357_F10 q357_F14 q357_F15 hdq) hZ251 (own_w hw 313 rfl) (own_w hw 91 rfl) (by decide) (by decide)) q466a q466c (g := (mkF m 804 (oLI4R4I15 p1 p2 p3 p4 b102 b187 b200 b281 v8 v9 v10 v11 v12 v13 v14 v15 v16 v17 v18 0 0 0 1) [(.int v18), (.int v17), (.ref b281)])) rfl (by rw [hml]; rfl) (Steps.refl _) (argsL := [(.int v17), (.int v18)]) (rest := []) (lenOf pd24 rfl) rfl (by show 2 * 0 + _ ≤ _; exact Nat.le_of_eq rfl) (hb hby at_804) (fun _ _ => ⟨rfl, q454_hh, (by decide : 26 + 0 ≤ _), (by decide : 309 + 0 ≤ _)⟩)
    dsimp only [Pt.U, Pt.locs, Pt.cells, Pt.slots] at X466 l466 y466 z466 st466 hQ466
    subst l466 y466 z466
    obtain ⟨rfl, N466q, q466_hh⟩ := hQ466
    have N466 := Fr.app N454 N466q
    have p467 : GF p e below _ T466 m 809 (oLI4R4I15 p1 p2 p3 p4 b102 b187 b200 b281 v8 v9 v10 v11 v12 v13 v14 v15 v16 v17 v18 0 0 0 1) [(.int 1), (.int (own_cn (-1 : Int64) (63 : Int64) (7 : Int64) v17 v18))] := fun t_ k_ => (gcT p465 st466) t_ (by
     refine XS.iload X466.here hx rfl (hb hby at_807) rfl ?_
     exact k_)
    have hbt : own_bit (-1 : Int64) (63 : Int64) (7 : Int64) v17 v18 = true := by rw [own_full _ _ hdq]
    have c468 : ((own_cn (-1 : Int64) (63 : Int64) (7 : Int64) v17 v18) = (1 : Int32)) := own_y000 hbt
    have p469 : GF p e below _ T466 m 817 (oLI4R4I15 p1 p2 p3 p4 b102 b187 b200 b281 v8 v9 v10 v11 v12 v13 v14 v15 v16 v17 v18 0 0 0 1) [(.int 1)] := fun t_ k_ => p467 t_ (by
     refine XS.icmpNo X466.here hx rfl (hb hby at_809) rfl (teq c468).2 ?_
     refine XS.iconst X466.here hx rfl (hb hby at_812) ?_
     refine XS.goto X466.here hx rfl (pc0 := 813) (pc' := 817) rfl (hb hby at_813) (by decide) (by decide) ?_
     exact k_)
    have f470 := (Nat.le_trans (Nat.le_trans (Nat.le_trans (Nat.le_trans (Nat.le_trans (Nat.le_trans (Nat.le_trans (Nat.le_trans kb251 q268_K.1) q278_K.1) E281.1) E290.1) E301.1) q314_K.1) q337_K.1) q357_K.1)
    obtain ⟨fs, hr, hrun, hended, hRW⟩ := X466.leaveW (s := s) S251 (by rw [q466_hh]; exact f470) (v := some (.int 1)) (fun h => by rw [Bd.returns] at h; cases h)
    refine ⟨_, _, p469 _ (retN X466 hx (t := .boolean) Bd.returns (by simp) (hb hby at_817) hr), hrun, hended, _, _, rfl, ?_, hRW.1, hRW.2.1, hRW.2.2.1, hRW.2.2.2.mono (by decide) (by decide)⟩
    show Q0 Z p1 p2 p3 p4 de kde el ea kea em mr h0 n0 _ T466.heap _
    rw [q466_hh]
    exact ⟨rfl, N466⟩
   ·have p471 : GF p e below _ T454 m 717 (oLI4R4I12u3 p1 p2 p3 p4 b102 b187 b200 b281 v8 v9 v10 v11 v12 v13 v14 v15 v16 v17 v18 0) [] := fun t_ k_ => p458 t_ (by
     refine XS.ifNo X454.here hx rfl (hb hby at_714) rfl ((if0 _ _).trans (feq c459).1) ?_
     exact k_)
    have p472 : GF p e below _ T454 m 721 (oLI4R4I12u3 p1 p2 p3 p4 b102 b187 b200 b281 v8 v9 v10 v11 v12 v13 v14 v15 v16 v17 v18 0) [(.int 0), (.ref b281)] := fun t_ k_ => p471 t_ (by
     refine XS.aload X454.here hx rfl (hb hby at_717) rfl rfl ?_
     refine XS.iload X454.here hx rfl (hb hby at_719) rfl ?_
     exact k_)
    obtain ⟨cq473, kq473, q473a, q473b, q473c⟩ := isOf hZ251 q454_hh q357_F0
    obtain ⟨_, _, ⟨T473, L473, k473, n473⟩, -, X473, ⟨Lc473, hQ473, l473, y473, z473⟩, st473⟩ := X454.virtualBack hx (y := oM11) (z := oM11) hown251 (mvT hZ251 (own_w hw 314 rfl)) (mvT hZ251 (own_w hw 315 rfl)) (notFace_of_selects (args := #[]) (mvT hZ251 (own_w hw 317 rfl))) (mvT hZ251 (own_w hw 317 rfl)) (mvT hZ251 (own_w hw 316 rfl)) (by decide) (backOf (W := 0) (rm39_0 l Z a0 hw [] b281 (0 : Int32) (0 : Int32) T357.heap n0 (Nat.le_trans Z0 K373.1) q357_F8 (own_irr _)) hZ251 (own_w hw 318 rfl) (own_w hw 91 rfl) (by decide) (by decide)) q473a q473c (g := (mkF m 721 (oLI4R4I12u3 p1 p2 p3 p4 b102 b187 b200 b281 v8 v9 v10 v11 v12 v13 v14 v15 v16 v17 v18 0) [(.int 0), (.ref b281)])) rfl (by rw [hml]; rfl) (Steps.refl _) (argsL := [(.int 0)]) (rest := []) (lenOf pd18 rfl) rfl (by show 2 * 0 + _ ≤ _; exact Nat.le_of_eq rfl) (hb hby at_721) (fun _ _ => ⟨rfl, q454_hh, (by decide : 26 + 0 ≤ _), (by decide : 309 + 0 ≤ _)⟩)
    dsimp only [Pt.U, Pt.locs, Pt.cells, Pt.slots] at X473 l473 y473 z473 st473 hQ473
    subst l473 y473 z473
    obtain ⟨rfl, N473q, q473_hh⟩ := hQ473
    have N473 := Fr.app N454 N473q
    have p474 : GF p e below _ T473 m 726 (oLI4R4I12u3 p1 p2 p3 p4 b102 b187 b200 b281 v8 v9 v10 v11 v12 v13 v14 v15 v16 v17 v18 0) [(.int v10)] := fun t_ k_ => (gcT p472 st473) t_ (by
     refine XS.iload X473.here hx rfl (hb hby at_724) rfl ?_
     exact k_)
    have c475 : (v10 = (0 : Int32)) := c451
    have p476 : GF p e below _ T473 m 752 (oLI4R4I13u2 p1 p2 p3 p4 b102 b187 b200 b281 v8 v9 v10 v11 v12 v13 v14 v15 v16 v17 v18 0 0) [(.int v14)] := fun t_ k_ => p474 t_ (by
     refine XS.ifYes X473.here hx rfl (pc0 := 726) (pc' := 747) rfl (hb hby at_726) rfl ((if0 _ _).trans (teq c475).1) (by decide) (by decide) ?_
     refine XS.iconst X473.here hx rfl (hb hby at_747) ?_
     refine XS.istore X473.here hx rfl (hb hby at_748) rfl (l' := (oLI4R4I13u2 p1 p2 p3 p4 b102 b187 b200 b281 v8 v9 v10 v11 v12 v13 v14 v15 v16 v17 v18 0 0)) rfl ?_
     refine XS.iload X473.here hx rfl (hb hby at_750) rfl ?_
     exact k_)
    have c477 : (v14 = (0 : Int32)) := c456
    have p478 : GF p e below _ T473 m 804 (oLI4R4I15 p1 p2 p3 p4 b102 b187 b200 b281 v8 v9 v10 v11 v12 v13 v14 v15 v16 v17 v18 0 0 0 1) [(.int v18), (.int v17), (.ref b281)] := fun t_ k_ => p476 t_ (by
     refine XS.ifYes X473.here hx rfl (pc0 := 752) (pc' := 778) rfl (hb hby at_752) rfl ((if0 _ _).trans (teq c477).1) (by decide) (by decide) ?_
     refine XS.iconst X473.here hx rfl (hb hby at_778) ?_
     refine XS.istore X473.here hx rfl (hb hby at_779) rfl (l' := (oLI4R4I14u p1 p2 p3 p4 b102 b187 b200 b281 v8 v9 v10 v11 v12 v13 v14 v15 v16 v17 v18 0 0 0)) rfl ?_
     refine XS.iload X473.here hx rfl (hb hby at_781) rfl ?_
     refine XS.ifNo X473.here hx rfl (hb hby at_783) rfl ((if0 _ _).trans (teq (by decide : ((0 : Int32) = (0 : Int32)))).2) ?_
     refine XS.iload X473.here hx rfl (hb hby at_786) rfl ?_
     refine XS.ifNo X473.here hx rfl (hb hby at_788) rfl ((if0 _ _).trans (teq (by decide : ((0 : Int32) = (0 : Int32)))).2) ?_
     refine XS.iconst X473.here hx rfl (hb hby at_791) ?_
     refine XS.goto X473.here hx rfl (pc0 := 792) (pc' := 796) rfl (hb hby at_792) (by decide) (by decide) ?_
     refine XS.istore X473.here hx rfl (hb hby at_796) rfl (l' := (oLI4R4I15 p1 p2 p3 p4 b102 b187 b200 b281 v8 v9 v10 v11 v12 v13 v14 v15 v16 v17 v18 0 0 0 1)) rfl ?_
     refine XS.aload X473.here hx rfl (hb hby at_798) rfl rfl ?_
     refine XS.iload X473.here hx rfl (hb hby at_800) rfl ?_
     refine XS.iload X473.here hx rfl (hb hby at_802) rfl ?_
     exact k_)
    obtain ⟨cq479, kq479, q479a, q479b, q479c⟩ := isOf hZ251 q473_hh q357_F0
    obtain ⟨_, _, ⟨T479, L479, k479, n479⟩, -, X479, ⟨Lc479, hQ479, l479, y479, z479⟩, st479⟩ := X473.virtualBack hx (y := oM6) (z := oM6) hown251 (mvT hZ251 (own_w hw 309 rfl)) (mvT hZ251 (own_w hw 310 rfl)) (notFace_of_selects (args := #[]) (mvT hZ251 (own_w hw 312 rfl))) (mvT hZ251 (own_w hw 312 rfl)) (mvT hZ251 (own_w hw 311 rfl)) (by decide) (backOf (W := 0) (rm38 l Z a0 hw [] b281 x359 x363 x364 x367 x371 x372 (-1 : Int64) (63 : Int64) (7 : Int64) v17 v18 T357.heap n0 (Nat.le_trans Z0 K373.1) q357_F3 q357_F10 q357_F14 q357_F15 hdq) hZ251 (own_w hw 313 rfl) (own_w hw 91 rfl) (by decide) (by decide)) q479a q479c (g := (mkF m 804 (oLI4R4I15 p1 p2 p3 p4 b102 b187 b200 b281 v8 v9 v10 v11 v12 v13 v14 v15 v16 v17 v18 0 0 0 1) [(.int v18), (.int v17), (.ref b281)])) rfl (by rw [hml]; rfl) (Steps.refl _) (argsL := [(.int v17), (.int v18)]) (rest := []) (lenOf pd24 rfl) rfl (by show 2 * 0 + _ ≤ _; exact Nat.le_of_eq rfl) (hb hby at_804) (fun _ _ => ⟨rfl, q473_hh, (by decide : 26 + 0 ≤ _), (by decide : 309 + 0 ≤ _)⟩)
    dsimp only [Pt.U, Pt.locs, Pt.cells, Pt.slots] at X479 l479 y479 z479 st479 hQ479
    subst l479 y479 z479
    obtain ⟨rfl, N479q, q479_hh⟩ := hQ479
    have N479 := Fr.app N473 N479q
    have p480 : GF p e below _ T479 m 809 (oLI4R4I15 p1 p2 p3 p4 b102 b187 b200 b281 v8 v9 v10 v11 v12 v13 v14 v15 v16 v17 v18 0 0 0 1) [(.int 1), (.int (own_cn (-1 : Int64) (63 : Int64) (7 : Int64) v17 v18))] := fun t_ k_ => (gcT p478 st479) t_ (by
     refine XS.iload X479.here hx rfl (hb hby at_807) rfl ?_
     exact k_)
    have hbt : own_bit (-1 : Int64) (63 : Int64) (7 : Int64) v17 v18 = true := by rw [own_full _ _ hdq]
    have c481 : ((own_cn (-1 : Int64) (63 : Int64) (7 : Int64) v17 v18) = (1 : Int32)) := own_y000 hbt
    have p482 : GF p e below _ T479 m 817 (oLI4R4I15 p1 p2 p3 p4 b102 b187 b200 b281 v8 v9 v10 v11 v12 v13 v14 v15 v16 v17 v18 0 0 0 1) [(.int 1)] := fun t_ k_ => p480 t_ (by
     refine XS.icmpNo X479.here hx rfl (hb hby at_809) rfl (teq c481).2 ?_
     refine XS.iconst X479.here hx rfl (hb hby at_812) ?_
     refine XS.goto X479.here hx rfl (pc0 := 813) (pc' := 817) rfl (hb hby at_813) (by decide) (by decide) ?_
     exact k_)
    have f483 := (Nat.le_trans (Nat.le_trans (Nat.le_trans (Nat.le_trans (Nat.le_trans (Nat.le_trans (Nat.le_trans (Nat.le_trans kb251 q268_K.1) q278_K.1) E281.1) E290.1) E301.1) q314_K.1) q337_K.1) q357_K.1)
    obtain ⟨fs, hr, hrun, hended, hRW⟩ := X479.leaveW (s := s) S251 (by rw [q479_hh]; exact f483) (v := some (.int 1)) (fun h => by rw [Bd.returns] at h; cases h)
    refine ⟨_, _, p482 _ (retN X479 hx (t := .boolean) Bd.returns (by simp) (hb hby at_817) hr), hrun, hended, _, _, rfl, ?_, hRW.1, hRW.2.1, hRW.2.2.1, hRW.2.2.2.mono (by decide) (by decide)⟩
    show Q0 Z p1 p2 p3 p4 de kde el ea kea em mr h0 n0 _ T479.heap _
    rw [q479_hh]
    exact ⟨rfl, N479⟩
  ·have p484 : GF p e below _ T454 m 703 (oLI4R4I12u3 p1 p2 p3 p4 b102 b187 b200 b281 v8 v9 v10 v11 v12 v13 v14 v15 v16 v17 v18 0) [] := fun t_ k_ => p455 t_ (by
    refine XS.ifNo X454.here hx rfl (hb hby at_700) rfl ((if0 _ _).trans (feq c456).1) ?_
    exact k_)
   have p485 : GF p e below _ T454 m 709 (oLI4R4I12u3 p1 p2 p3 p4 b102 b187 b200 b281 v8 v9 v10 v11 v12 v13 v14 v15 v16 v17 v18 0) [(.int v12), (.int v11), (.ref b281)] := fun t_ k_ => p484 t_ (by
    refine XS.aload X454.here hx rfl (hb hby at_703) rfl rfl ?_
    refine XS.iload X454.here hx rfl (hb hby at_705) rfl ?_
    refine XS.iload X454.here hx rfl (hb hby at_707) rfl ?_
    exact k_)
   obtain ⟨cq486, kq486, q486a, q486b, q486c⟩ := isOf hZ251 q454_hh q357_F0
   obtain ⟨_, _, ⟨T486, L486, k486, n486⟩, -, X486, ⟨Lc486, hQ486, l486, y486, z486⟩, st486⟩ := X454.virtualBack hx (y := oM9) (z := oM9) hown251 (mvT hZ251 (own_w hw 319 rfl)) (mvT hZ251 (own_w hw 320 rfl)) (notFace_of_selects (args := #[]) (mvT hZ251 (own_w hw 322 rfl))) (mvT hZ251 (own_w hw 322 rfl)) (mvT hZ251 (own_w hw 321 rfl)) (by decide) (backOf (W := 0) (rm40 l Z a0 hw [] b281 x358 x359 x360 x361 x362 x363 x364 x365 x366 x367 x368 x369 x370 x371 x372 (-1 : Int64) (63 : Int64) (7 : Int64) (70 : Int32) (3 : Int32) (0 : Int32) (0 : Int32) (0 : Int32) (0 : Int32) (List.replicate 96 (.int 0)) 0 (0 : Int32) v11 v12 T357.heap n0 (Nat.le_trans Z0 K373.1) q357_F0 q357_F1 q357_F2 q357_F3 q357_F4 q357_F5 q357_F6 q357_F7 q357_F8 q357_F9 q357_F10 q357_F11 q357_F12 q357_F13 q357_F14 q357_F15 q357_nd q357_ge (Or.inl ⟨rfl, rfl, rfl⟩) (by decide) (List.length_replicate ..) hd2) hZ251 (own_w hw 323 rfl) (own_w hw 91 rfl) (by decide) (by decide)) q486a q486c (g := (mkF m 709 (oLI4R4I12u3 p1 p2 p3 p4 b102 b187 b200 b281 v8 v9 v10 v11 v12 v13 v14 v15 v16 v17 v18 0) [(.int v12), (.int v11), (.ref b281)])) rfl (by rw [hml]; rfl) (Steps.refl _) (argsL := [(.int v11), (.int v12)]) (rest := []) (lenOf pd25 rfl) rfl (by show 2 * 0 + _ ≤ _; exact Nat.le_of_eq rfl) (hb hby at_709) (fun _ _ => ⟨rfl, q454_hh, (by decide : 26 + 0 ≤ _), (by decide : 309 + 0 ≤ _)⟩)
   dsimp only [Pt.U, Pt.locs, Pt.cells, Pt.slots] at X486 l486 y486 z486 st486 hQ486
   subst l486 y486 z486
   obtain ⟨x487, x488, x489, x490, x491, x492, x493, x494, x495, x496, x497, rfl, N486q, q486_K, q486_F0, q486_F1, q486_F2, q486_F3, q486_F4, q486_F5, q486_F6, q486_F7, q486_F8, q486_F9, q486_F10, q486_F11, q486_F12, q486_F13, q486_F14, q486_F15, q486_M, q486_l, q486_T, q486_off⟩ := hQ486
   have N486 := Fr.app N454 N486q
   have K498 : Keep h0 T486.heap [] := K373.trans q486_K (allS (Or.inr sz_b281) (allS (Or.inr (Nat.le_trans K339.1 q357_sz.1)) (allS (Or.inr (Nat.le_trans K339.1 q357_sz.2.2.1)) (allS (Or.inr (Nat.le_trans K339.1 q357_sz.2.2.2.1)) (allS (Or.inr (Nat.le_trans K339.1 q357_sz.2.2.2.2.1)) (allS (Or.inr (Nat.le_trans K339.1 q357_sz.2.2.2.2.2.1)) (allS (Or.inr (Nat.le_trans K339.1 q357_sz.2.2.2.2.2.2)) all0)))))))
   have p499 : GF p e below _ T486 m 714 (oLI4R4I12u3 p1 p2 p3 p4 b102 b187 b200 b281 v8 v9 v10 v11 v12 v13 v14 v15 v16 v17 v18 0) [(.int v15)] := fun t_ k_ => (gcT p485 st486) t_ (by
    refine XS.iload X486.here hx rfl (hb hby at_712) rfl ?_
    exact k_)
   by_cases c500 : v15 = (0 : Int32)
   ·have p501 : GF p e below _ T486 m 724 (oLI4R4I12u3 p1 p2 p3 p4 b102 b187 b200 b281 v8 v9 v10 v11 v12 v13 v14 v15 v16 v17 v18 0) [] := fun t_ k_ => p499 t_ (by
     refine XS.ifYes X486.here hx rfl (pc0 := 714) (pc' := 724) rfl (hb hby at_714) rfl ((if0 _ _).trans (teq c500).1) (by decide) (by decide) ?_
     exact k_)
    have p502 : GF p e below _ T486 m 726 (oLI4R4I12u3 p1 p2 p3 p4 b102 b187 b200 b281 v8 v9 v10 v11 v12 v13 v14 v15 v16 v17 v18 0) [(.int v10)] := fun t_ k_ => p501 t_ (by
     refine XS.iload X486.here hx rfl (hb hby at_724) rfl ?_
     exact k_)
    have c503 : (v10 = (0 : Int32)) := c451
    have p504 : GF p e below _ T486 m 752 (oLI4R4I13u2 p1 p2 p3 p4 b102 b187 b200 b281 v8 v9 v10 v11 v12 v13 v14 v15 v16 v17 v18 0 0) [(.int v14)] := fun t_ k_ => p502 t_ (by
     refine XS.ifYes X486.here hx rfl (pc0 := 726) (pc' := 747) rfl (hb hby at_726) rfl ((if0 _ _).trans (teq c503).1) (by decide) (by decide) ?_
     refine XS.iconst X486.here hx rfl (hb hby at_747) ?_
     refine XS.istore X486.here hx rfl (hb hby at_748) rfl (l' := (oLI4R4I13u2 p1 p2 p3 p4 b102 b187 b200 b281 v8 v9 v10 v11 v12 v13 v14 v15 v16 v17 v18 0 0)) rfl ?_
     refine XS.iload X486.here hx rfl (hb hby at_750) rfl ?_
     exact k_)
    have c505 : ¬ (v14 = (0 : Int32)) := c456
    have p506 : GF p e below _ T486 m 757 (oLI4R4I13u2 p1 p2 p3 p4 b102 b187 b200 b281 v8 v9 v10 v11 v12 v13 v14 v15 v16 v17 v18 0 0) [(.int v15)] := fun t_ k_ => p504 t_ (by
     refine XS.ifNo X486.here hx rfl (hb hby at_752) rfl ((if0 _ _).trans (feq c505).1) ?_
     refine XS.iload X486.here hx rfl (hb hby at_755) rfl ?_
     exact k_)
    have c507 : (v15 = (0 : Int32)) := c500
    have p508 : GF p e below _ T486 m 764 (oLI4R4I13u2 p1 p2 p3 p4 b102 b187 b200 b281 v8 v9 v10 v11 v12 v13 v14 v15 v16 v17 v18 0 0) [(.int v11), (.int v17)] := fun t_ k_ => p506 t_ (by
     refine XS.ifNo X486.here hx rfl (hb hby at_757) rfl ((if0 _ _).trans (teq c507).2) ?_
     refine XS.iload X486.here hx rfl (hb hby at_760) rfl ?_
     refine XS.iload X486.here hx rfl (hb hby at_762) rfl ?_
     exact k_)
    have p519 : GF p e below (s₁.setTop (entryFrame m #[(.int p1), (.int p2), (.int p3), (.int p4)] maxLocals)) T486 m 779 (oLI4R4I13u2 p1 p2 p3 p4 b102 b187 b200 b281 v8 v9 v10 v11 v12 v13 v14 v15 v16 v17 v18 0 0) [(.int (if v17 = v11 then (if v18 = v12 then (1 : Int32) else (0 : Int32)) else (0 : Int32)))] := by
     by_cases c509 : v17 = v11
     ·have p510 : GF p e below _ T486 m 767 (oLI4R4I13u2 p1 p2 p3 p4 b102 b187 b200 b281 v8 v9 v10 v11 v12 v13 v14 v15 v16 v17 v18 0 0) [] := fun t_ k_ => p508 t_ (by
       refine XS.icmpNo X486.here hx rfl (hb hby at_764) rfl (teq c509).2 ?_
       exact k_)
      have p511 : GF p e below _ T486 m 771 (oLI4R4I13u2 p1 p2 p3 p4 b102 b187 b200 b281 v8 v9 v10 v11 v12 v13 v14 v15 v16 v17 v18 0 0) [(.int v12), (.int v18)] := fun t_ k_ => p510 t_ (by
       refine XS.iload X486.here hx rfl (hb hby at_767) rfl ?_
       refine XS.iload X486.here hx rfl (hb hby at_769) rfl ?_
       exact k_)
      by_cases c512 : v18 = v12
      ·have p513 : GF p e below _ T486 m 774 (oLI4R4I13u2 p1 p2 p3 p4 b102 b187 b200 b281 v8 v9 v10 v11 v12 v13 v14 v15 v16 v17 v18 0 0) [] := fun t_ k_ => p511 t_ (by
        refine XS.icmpNo X486.here hx rfl (hb hby at_771) rfl (teq c512).2 ?_
        exact k_)
       have p514 : GF p e below _ T486 m 779 (oLI4R4I13u2 p1 p2 p3 p4 b102 b187 b200 b281 v8 v9 v10 v11 v12 v13 v14 v15 v16 v17 v18 0 0) [(.int 1)] := fun t_ k_ => p513 t_ (by
        refine XS.iconst X486.here hx rfl (hb hby at_774) ?_
        refine XS.goto X486.here hx rfl (pc0 := 775) (pc' := 779) rfl (hb hby at_775) (by decide) (by decide) ?_
        exact k_)
       simp only [if_pos c509, if_pos c512]; exact p514
      ·have p515 : GF p e below _ T486 m 778 (oLI4R4I13u2 p1 p2 p3 p4 b102 b187 b200 b281 v8 v9 v10 v11 v12 v13 v14 v15 v16 v17 v18 0 0) [] := fun t_ k_ => p511 t_ (by
        refine XS.icmpYes X486.here hx rfl (pc0 := 771) (pc' := 778) rfl (hb hby at_771) rfl (feq c512).2 (by decide) (by decide) ?_
        exact k_)
       have p516 : GF p e below _ T486 m 779 (oLI4R4I13u2 p1 p2 p3 p4 b102 b187 b200 b281 v8 v9 v10 v11 v12 v13 v14 v15 v16 v17 v18 0 0) [(.int 0)] := fun t_ k_ => p515 t_ (by
        refine XS.iconst X486.here hx rfl (hb hby at_778) ?_
        exact k_)
       simp only [if_pos c509, if_neg c512]; exact p516
     ·have p517 : GF p e below _ T486 m 778 (oLI4R4I13u2 p1 p2 p3 p4 b102 b187 b200 b281 v8 v9 v10 v11 v12 v13 v14 v15 v16 v17 v18 0 0) [] := fun t_ k_ => p508 t_ (by
       refine XS.icmpYes X486.here hx rfl (pc0 := 764) (pc' := 778) rfl (hb hby at_764) rfl (feq c509).2 (by decide) (by decide) ?_
       exact k_)
      have p518 : GF p e below _ T486 m 779 (oLI4R4I13u2 p1 p2 p3 p4 b102 b187 b200 b281 v8 v9 v10 v11 v12 v13 v14 v15 v16 v17 v18 0 0) [(.int 0)] := fun t_ k_ => p517 t_ (by
       refine XS.iconst X486.here hx rfl (hb hby at_778) ?_
       exact k_)
      simp only [if_neg c509]; exact p518
    have p520 : GF p e below _ T486 m 788 (oLI4R4I14u p1 p2 p3 p4 b102 b187 b200 b281 v8 v9 v10 v11 v12 v13 v14 v15 v16 v17 v18 0 0 (if v17 = v11 then (if v18 = v12 then (1 : Int32) else (0 : Int32)) else (0 : Int32))) [(.int (if v17 = v11 then (if v18 = v12 then (1 : Int32) else (0 : Int32)) else (0 : Int32)))] := fun t_ k_ => p519 t_ (by
     refine XS.istore X486.here hx rfl (hb hby at_779) rfl (l' := (oLI4R4I14u p1 p2 p3 p4 b102 b187 b200 b281 v8 v9 v10 v11 v12 v13 v14 v15 v16 v17 v18 0 0 (if v17 = v11 then (if v18 = v12 then (1 : Int32) else (0 : Int32)) else (0 : Int32)))) rfl ?_
     refine XS.iload X486.here hx rfl (hb hby at_781) rfl ?_
     refine XS.ifNo X486.here hx rfl (hb hby at_783) rfl ((if0 _ _).trans (teq (by decide : ((0 : Int32) = (0 : Int32)))).2) ?_
     refine XS.iload X486.here hx rfl (hb hby at_786) rfl ?_
     exact k_)
    have p526 : GF p e below (s₁.setTop (entryFrame m #[(.int p1), (.int p2), (.int p3), (.int p4)] maxLocals)) T486 m 796 (oLI4R4I14u p1 p2 p3 p4 b102 b187 b200 b281 v8 v9 v10 v11 v12 v13 v14 v15 v16 v17 v18 0 0 (if v17 = v11 then (if v18 = v12 then (1 : Int32) else (0 : Int32)) else (0 : Int32))) [(.int (if (if v17 = v11 then (if v18 = v12 then (1 : Int32) else (0 : Int32)) else (0 : Int32)) = (0 : Int32) then (1 : Int32) else (0 : Int32)))] := by
     by_cases c521 : (if v17 = v11 then (if v18 = v12 then (1 : Int32) else (0 : Int32)) else (0 : Int32)) = (0 : Int32)
     ·have p522 : GF p e below _ T486 m 791 (oLI4R4I14u p1 p2 p3 p4 b102 b187 b200 b281 v8 v9 v10 v11 v12 v13 v14 v15 v16 v17 v18 0 0 (if v17 = v11 then (if v18 = v12 then (1 : Int32) else (0 : Int32)) else (0 : Int32))) [] := fun t_ k_ => p520 t_ (by
       refine XS.ifNo X486.here hx rfl (hb hby at_788) rfl ((if0 _ _).trans (teq c521).2) ?_
       exact k_)
      have p523 : GF p e below _ T486 m 796 (oLI4R4I14u p1 p2 p3 p4 b102 b187 b200 b281 v8 v9 v10 v11 v12 v13 v14 v15 v16 v17 v18 0 0 (if v17 = v11 then (if v18 = v12 then (1 : Int32) else (0 : Int32)) else (0 : Int32))) [(.int 1)] := fun t_ k_ => p522 t_ (by
       refine XS.iconst X486.here hx rfl (hb hby at_791) ?_
       refine XS.goto X486.here hx rfl (pc0 := 792) (pc' := 796) rfl (hb hby at_792) (by decide) (by decide) ?_
       exact k_)
      simp only [if_pos c521]; exact p523
     ·have p524 : GF p e below _ T486 m 795 (oLI4R4I14u p1 p2 p3 p4 b102 b187 b200 b281 v8 v9 v10 v11 v12 v13 v14 v15 v16 v17 v18 0 0 (if v17 = v11 then (if v18 = v12 then (1 : Int32) else (0 : Int32)) else (0 : Int32))) [] := fun t_ k_ => p520 t_ (by
       refine XS.ifYes X486.here hx rfl (pc0 := 788) (pc' := 795) rfl (hb hby at_788) rfl ((if0 _ _).trans (feq c521).2) (by decide) (by decide) ?_
       exact k_)
      have p525 : GF p e below _ T486 m 796 (oLI4R4I14u p1 p2 p3 p4 b102 b187 b200 b281 v8 v9 v10 v11 v12 v13 v14 v15 v16 v17 v18 0 0 (if v17 = v11 then (if v18 = v12 then (1 : Int32) else (0 : Int32)) else (0 : Int32))) [(.int 0)] := fun t_ k_ => p524 t_ (by
       refine XS.iconst X486.here hx rfl (hb hby at_795) ?_
       exact k_)
      simp only [if_neg c521]; exact p525
    have p527 : GF p e below _ T486 m 804 (oLI4R4I15 p1 p2 p3 p4 b102 b187 b200 b281 v8 v9 v10 v11 v12 v13 v14 v15 v16 v17 v18 0 0 (if v17 = v11 then (if v18 = v12 then (1 : Int32) else (0 : Int32)) else (0 : Int32)) (if (if v17 = v11 then (if v18 = v12 then (1 : Int32) else (0 : Int32)) else (0 : Int32)) = (0 : Int32) then (1 : Int32) else (0 : Int32))) [(.int v18), (.int v17), (.ref b281)] := fun t_ k_ => p526 t_ (by
     refine XS.istore X486.here hx rfl (hb hby at_796) rfl (l' := (oLI4R4I15 p1 p2 p3 p4 b102 b187 b200 b281 v8 v9 v10 v11 v12 v13 v14 v15 v16 v17 v18 0 0 (if v17 = v11 then (if v18 = v12 then (1 : Int32) else (0 : Int32)) else (0 : Int32)) (if (if v17 = v11 then (if v18 = v12 then (1 : Int32) else (0 : Int32)) else (0 : Int32)) = (0 : Int32) then (1 : Int32) else (0 : Int32)))) rfl ?_
     refine XS.aload X486.here hx rfl (hb hby at_798) rfl rfl ?_
     refine XS.iload X486.here hx rfl (hb hby at_800) rfl ?_
     refine XS.iload X486.here hx rfl (hb hby at_802) rfl ?_
     exact k_)
    obtain ⟨cq528, kq528, q528a, q528b, q528c⟩ := isOf hZ251 rfl q486_F0
    obtain ⟨_, _, ⟨T528, L528, k528, n528⟩, -, X528, ⟨Lc528, hQ528, l528, y528, z528⟩, st528⟩ := X486.virtualBack hx (y := oM6) (z := oM6) hown251 (mvT hZ251 (own_w hw 309 rfl)) (mvT hZ251 (own_w hw 310 rfl)) (notFace_of_selects (args := #[]) (mvT hZ251 (own_w hw 312 rfl))) (mvT hZ251 (own_w hw 312 rfl)) (mvT hZ251 (own_w hw 311 rfl)) (by decide) (backOf (W := 0) (rm38 l Z a0 hw [] b281 x359 x363 x364 x367 x371 x372 x487 x488 x489 v17 v18 T486.heap n0 (Nat.le_trans Z0 K498.1) q486_F3 q486_F10 q486_F14 q486_F15 hdq) hZ251 (own_w hw 313 rfl) (own_w hw 91 rfl) (by decide) (by decide)) q528a q528c (g := (mkF m 804 (oLI4R4I15 p1 p2 p3 p4 b102 b187 b200 b281 v8 v9 v10 v11 v12 v13 v14 v15 v16 v17 v18 0 0 (if v17 = v11 then (if v18 = v12 then (1 : Int32) else (0 : Int32)) else (0 : Int32)) (if (if v17 = v11 then (if v18 = v12 then (1 : Int32) else (0 : Int32)) else (0 : Int32)) = (0 : Int32) then (1 : Int32) else (0 : Int32))) [(.int v18), (.int v17), (.ref b281)])) rfl (by rw [hml]; rfl) (Steps.refl _) (argsL := [(.int v17), (.int v18)]) (rest := []) (lenOf pd24 rfl) rfl (by show 2 * 0 + _ ≤ _; exact Nat.le_of_eq rfl) (hb hby at_804) (fun _ _ => ⟨rfl, rfl, (by decide : 26 + 0 ≤ _), (by decide : 309 + 0 ≤ _)⟩)
    dsimp only [Pt.U, Pt.locs, Pt.cells, Pt.slots] at X528 l528 y528 z528 st528 hQ528
    subst l528 y528 z528
    obtain ⟨rfl, N528q, q528_hh⟩ := hQ528
    have N528 := Fr.app N486 N528q
    have p529 : GF p e below _ T528 m 809 (oLI4R4I15 p1 p2 p3 p4 b102 b187 b200 b281 v8 v9 v10 v11 v12 v13 v14 v15 v16 v17 v18 0 0 (if v17 = v11 then (if v18 = v12 then (1 : Int32) else (0 : Int32)) else (0 : Int32)) (if (if v17 = v11 then (if v18 = v12 then (1 : Int32) else (0 : Int32)) else (0 : Int32)) = (0 : Int32) then (1 : Int32) else (0 : Int32))) [(.int (if (if v17 = v11 then (if v18 = v12 then (1 : Int32) else (0 : Int32)) else (0 : Int32)) = (0 : Int32) then (1 : Int32) else (0 : Int32))), (.int (own_cn x487 x488 x489 v17 v18))] := fun t_ k_ => (gcT p527 st528) t_ (by
     refine XS.iload X528.here hx rfl (hb hby at_807) rfl ?_
     exact k_)
    have hbt : own_bit x487 x488 x489 v17 v18 = (true && !(decide (v17 = v11) && decide (v18 = v12))) := by rw [q486_off _ _ hdq, own_full _ _ hdq]
    have c530 : ((own_cn x487 x488 x489 v17 v18) = (if (if v17 = v11 then (if v18 = v12 then (1 : Int32) else (0 : Int32)) else (0 : Int32)) = (0 : Int32) then (1 : Int32) else (0 : Int32))) := own_y1 hbt
    have p531 : GF p e below _ T528 m 817 (oLI4R4I15 p1 p2 p3 p4 b102 b187 b200 b281 v8 v9 v10 v11 v12 v13 v14 v15 v16 v17 v18 0 0 (if v17 = v11 then (if v18 = v12 then (1 : Int32) else (0 : Int32)) else (0 : Int32)) (if (if v17 = v11 then (if v18 = v12 then (1 : Int32) else (0 : Int32)) else (0 : Int32)) = (0 : Int32) then (1 : Int32) else (0 : Int32))) [(.int 1)] := fun t_ k_ => p529 t_ (by
     refine XS.icmpNo X528.here hx rfl (hb hby at_809) rfl (teq c530).2 ?_
     refine XS.iconst X528.here hx rfl (hb hby at_812) ?_
     refine XS.goto X528.here hx rfl (pc0 := 813) (pc' := 817) rfl (hb hby at_813) (by decide) (by decide) ?_
     exact k_)
    have f532 := (Nat.le_trans (Nat.le_trans (Nat.le_trans (Nat.le_trans (Nat.le_trans (Nat.le_trans (Nat.le_trans (Nat.le_trans (Nat.le_trans kb251 q268_K.1) q278_K.1) E281.1) E290.1) E301.1) q314_K.1) q337_K.1) q357_K.1) q486_K.1)
    obtain ⟨fs, hr, hrun, hended, hRW⟩ := X528.leaveW (s := s) S251 (by rw [q528_hh]; exact f532) (v := some (.int 1)) (fun h => by rw [Bd.returns] at h; cases h)
    refine ⟨_, _, p531 _ (retN X528 hx (t := .boolean) Bd.returns (by simp) (hb hby at_817) hr), hrun, hended, _, _, rfl, ?_, hRW.1, hRW.2.1, hRW.2.2.1, hRW.2.2.2.mono (by decide) (by decide)⟩
    show Q0 Z p1 p2 p3 p4 de kde el ea kea em mr h0 n0 _ T528.heap _
    rw [q528_hh]
    exact ⟨rfl, N528⟩
   ·have p533 : GF p e below _ T486 m 717 (oLI4R4I12u3 p1 p2 p3 p4 b102 b187 b200 b281 v8 v9 v10 v11 v12 v13 v14 v15 v16 v17 v18 0) [] := fun t_ k_ => p499 t_ (by
     refine XS.ifNo X486.here hx rfl (hb hby at_714) rfl ((if0 _ _).trans (feq c500).1) ?_
     exact k_)
    have p534 : GF p e below _ T486 m 721 (oLI4R4I12u3 p1 p2 p3 p4 b102 b187 b200 b281 v8 v9 v10 v11 v12 v13 v14 v15 v16 v17 v18 0) [(.int 0), (.ref b281)] := fun t_ k_ => p533 t_ (by
     refine XS.aload X486.here hx rfl (hb hby at_717) rfl rfl ?_
     refine XS.iload X486.here hx rfl (hb hby at_719) rfl ?_
     exact k_)
    obtain ⟨cq535, kq535, q535a, q535b, q535c⟩ := isOf hZ251 rfl q486_F0
    obtain ⟨_, _, ⟨T535, L535, k535, n535⟩, -, X535, ⟨Lc535, hQ535, l535, y535, z535⟩, st535⟩ := X486.virtualBack hx (y := oM11) (z := oM11) hown251 (mvT hZ251 (own_w hw 314 rfl)) (mvT hZ251 (own_w hw 315 rfl)) (notFace_of_selects (args := #[]) (mvT hZ251 (own_w hw 317 rfl))) (mvT hZ251 (own_w hw 317 rfl)) (mvT hZ251 (own_w hw 316 rfl)) (by decide) (backOf (W := 0) (rm39_1 l Z a0 hw [] b281 x358 x359 x360 x361 x362 x363 x364 x365 x366 x367 x368 x369 x370 x371 x372 x487 x488 x489 x490 x491 x492 x493 x494 x495 x497 0 x496 v11 v12 (0 : Int32) T486.heap n0 (Nat.le_trans Z0 K498.1) q486_F0 q486_F1 q486_F2 q486_F3 q486_F4 q486_F5 q486_F6 q486_F7 q486_F8 q486_F9 q486_F10 q486_F11 q486_F12 q486_F13 q486_F14 q486_F15 q357_nd q357_ge q486_M (by decide) q486_T hd2 rfl) hZ251 (own_w hw 318 rfl) (own_w hw 91 rfl) (by decide) (by decide)) q535a q535c (g := (mkF m 721 (oLI4R4I12u3 p1 p2 p3 p4 b102 b187 b200 b281 v8 v9 v10 v11 v12 v13 v14 v15 v16 v17 v18 0) [(.int 0), (.ref b281)])) rfl (by rw [hml]; rfl) (Steps.refl _) (argsL := [(.int 0)]) (rest := []) (lenOf pd18 rfl) rfl (by show 2 * 0 + _ ≤ _; exact Nat.le_of_eq rfl) (hb hby at_721) (fun _ _ => ⟨rfl, rfl, (by decide : 26 + 0 ≤ _), (by decide : 309 + 0 ≤ _)⟩)
    dsimp only [Pt.U, Pt.locs, Pt.cells, Pt.slots] at X535 l535 y535 z535 st535 hQ535
    subst l535 y535 z535
    obtain ⟨x536, x537, x538, x539, x540, x541, x542, x543, x544, x545, rfl, N535q, q535_K, q535_F0, q535_F1, q535_F2, q535_F3, q535_F4, q535_F5, q535_F6, q535_F7, q535_F8, q535_F9, q535_F10, q535_F11, q535_F12, q535_F13, q535_F14, q535_F15, q535_M, q535_on⟩ := hQ535
    have N535 := Fr.app N486 N535q
    have K546 : Keep h0 T535.heap [] := K498.trans q535_K (allS (Or.inr sz_b281) (allS (Or.inr (Nat.le_trans K339.1 q357_sz.2.2.1)) (allS (Or.inr (Nat.le_trans K339.1 q357_sz.2.2.2.1)) (allS (Or.inr (Nat.le_trans K339.1 q357_sz.2.2.2.2.1)) (allS (Or.inr (Nat.le_trans K339.1 q357_sz.2.2.2.2.2.1)) (allS (Or.inr (Nat.le_trans K339.1 q357_sz.2.2.2.2.2.2)) all0))))))
    have p547 : GF p e below _ T535 m 726 (oLI4R4I12u3 p1 p2 p3 p4 b102 b187 b200 b281 v8 v9 v10 v11 v12 v13 v14 v15 v16 v17 v18 0) [(.int v10)] := fun t_ k_ => (gcT p534 st535) t_ (by
     refine XS.iload X535.here hx rfl (hb hby at_724) rfl ?_
     exact k_)
    have c548 : (v10 = (0 : Int32)) := c451
    have p549 : GF p e below _ T535 m 752 (oLI4R4I13u2 p1 p2 p3 p4 b102 b187 b200 b281 v8 v9 v10 v11 v12 v13 v14 v15 v16 v17 v18 0 0) [(.int v14)] := fun t_ k_ => p547 t_ (by
     refine XS.ifYes X535.here hx rfl (pc0 := 726) (pc' := 747) rfl (hb hby at_726) rfl ((if0 _ _).trans (teq c548).1) (by decide) (by decide) ?_
     refine XS.iconst X535.here hx rfl (hb hby at_747) ?_
     refine XS.istore X535.here hx rfl (hb hby at_748) rfl (l' := (oLI4R4I13u2 p1 p2 p3 p4 b102 b187 b200 b281 v8 v9 v10 v11 v12 v13 v14 v15 v16 v17 v18 0 0)) rfl ?_
     refine XS.iload X535.here hx rfl (hb hby at_750) rfl ?_
     exact k_)
    have c550 : ¬ (v14 = (0 : Int32)) := c456
    have p551 : GF p e below _ T535 m 757 (oLI4R4I13u2 p1 p2 p3 p4 b102 b187 b200 b281 v8 v9 v10 v11 v12 v13 v14 v15 v16 v17 v18 0 0) [(.int v15)] := fun t_ k_ => p549 t_ (by
     refine XS.ifNo X535.here hx rfl (hb hby at_752) rfl ((if0 _ _).trans (feq c550).1) ?_
     refine XS.iload X535.here hx rfl (hb hby at_755) rfl ?_
     exact k_)
    have c552 : ¬ (v15 = (0 : Int32)) := c500
    have p553 : GF p e below _ T535 m 804 (oLI4R4I15 p1 p2 p3 p4 b102 b187 b200 b281 v8 v9 v10 v11 v12 v13 v14 v15 v16 v17 v18 0 0 0 1) [(.int v18), (.int v17), (.ref b281)] := fun t_ k_ => p551 t_ (by
     refine XS.ifYes X535.here hx rfl (pc0 := 757) (pc' := 778) rfl (hb hby at_757) rfl ((if0 _ _).trans (feq c552).2) (by decide) (by decide) ?_
     refine XS.iconst X535.here hx rfl (hb hby at_778) ?_
     refine XS.istore X535.here hx rfl (hb hby at_779) rfl (l' := (oLI4R4I14u p1 p2 p3 p4 b102 b187 b200 b281 v8 v9 v10 v11 v12 v13 v14 v15 v16 v17 v18 0 0 0)) rfl ?_
     refine XS.iload X535.here hx rfl (hb hby at_781) rfl ?_
     refine XS.ifNo X535.here hx rfl (hb hby at_783) rfl ((if0 _ _).trans (teq (by decide : ((0 : Int32) = (0 : Int32)))).2) ?_
     refine XS.iload X535.here hx rfl (hb hby at_786) rfl ?_
     refine XS.ifNo X535.here hx rfl (hb hby at_788) rfl ((if0 _ _).trans (teq (by decide : ((0 : Int32) = (0 : Int32)))).2) ?_
     refine XS.iconst X535.here hx rfl (hb hby at_791) ?_
     refine XS.goto X535.here hx rfl (pc0 := 792) (pc' := 796) rfl (hb hby at_792) (by decide) (by decide) ?_
     refine XS.istore X535.here hx rfl (hb hby at_796) rfl (l' := (oLI4R4I15 p1 p2 p3 p4 b102 b187 b200 b281 v8 v9 v10 v11 v12 v13 v14 v15 v16 v17 v18 0 0 0 1)) rfl ?_
     refine XS.aload X535.here hx rfl (hb hby at_798) rfl rfl ?_
     refine XS.iload X535.here hx rfl (hb hby at_800) rfl ?_
     refine XS.iload X535.here hx rfl (hb hby at_802) rfl ?_
     exact k_)
    obtain ⟨cq554, kq554, q554a, q554b, q554c⟩ := isOf hZ251 rfl q535_F0
    obtain ⟨_, _, ⟨T554, L554, k554, n554⟩, -, X554, ⟨Lc554, hQ554, l554, y554, z554⟩, st554⟩ := X535.virtualBack hx (y := oM6) (z := oM6) hown251 (mvT hZ251 (own_w hw 309 rfl)) (mvT hZ251 (own_w hw 310 rfl)) (notFace_of_selects (args := #[]) (mvT hZ251 (own_w hw 312 rfl))) (mvT hZ251 (own_w hw 312 rfl)) (mvT hZ251 (own_w hw 311 rfl)) (by decide) (backOf (W := 0) (rm38 l Z a0 hw [] b281 x359 x363 x364 x367 x371 x372 x536 x537 x538 v17 v18 T535.heap n0 (Nat.le_trans Z0 K546.1) q535_F3 q535_F10 q535_F14 q535_F15 hdq) hZ251 (own_w hw 313 rfl) (own_w hw 91 rfl) (by decide) (by decide)) q554a q554c (g := (mkF m 804 (oLI4R4I15 p1 p2 p3 p4 b102 b187 b200 b281 v8 v9 v10 v11 v12 v13 v14 v15 v16 v17 v18 0 0 0 1) [(.int v18), (.int v17), (.ref b281)])) rfl (by rw [hml]; rfl) (Steps.refl _) (argsL := [(.int v17), (.int v18)]) (rest := []) (lenOf pd24 rfl) rfl (by show 2 * 0 + _ ≤ _; exact Nat.le_of_eq rfl) (hb hby at_804) (fun _ _ => ⟨rfl, rfl, (by decide : 26 + 0 ≤ _), (by decide : 309 + 0 ≤ _)⟩)
    dsimp only [Pt.U, Pt.locs, Pt.cells, Pt.slots] at X554 l554 y554 z554 st554 hQ554
    subst l554 y554 z554
    obtain ⟨rfl, N554q, q554_hh⟩ := hQ554
    have N554 := Fr.app N535 N554q
    have p555 : GF p e below _ T554 m 809 (oLI4R4I15 p1 p2 p3 p4 b102 b187 b200 b281 v8 v9 v10 v11 v12 v13 v14 v15 v16 v17 v18 0 0 0 1) [(.int 1), (.int (own_cn x536 x537 x538 v17 v18))] := fun t_ k_ => (gcT p553 st554) t_ (by
     refine XS.iload X554.here hx rfl (hb hby at_807) rfl ?_
     exact k_)
    have hbt : own_bit x536 x537 x538 v17 v18 = ((true && !(decide (v17 = v11) && decide (v18 = v12))) || (decide (v17 = v11) && decide (v18 = v12))) := by rw [q535_on _ _ hdq, q486_off _ _ hdq, own_full _ _ hdq]
    have c556 : ((own_cn x536 x537 x538 v17 v18) = (1 : Int32)) := own_y3 hbt
    have p557 : GF p e below _ T554 m 817 (oLI4R4I15 p1 p2 p3 p4 b102 b187 b200 b281 v8 v9 v10 v11 v12 v13 v14 v15 v16 v17 v18 0 0 0 1) [(.int 1)] := fun t_ k_ => p555 t_ (by
     refine XS.icmpNo X554.here hx rfl (hb hby at_809) rfl (teq c556).2 ?_
     refine XS.iconst X554.here hx rfl (hb hby at_812) ?_
     refine XS.goto X554.here hx rfl (pc0 := 813) (pc' := 817) rfl (hb hby at_813) (by decide) (by decide) ?_
     exact k_)
    have f558 := (Nat.le_trans (Nat.le_trans (Nat.le_trans (Nat.le_trans (Nat.le_trans (Nat.le_trans (Nat.le_trans (Nat.le_trans (Nat.le_trans (Nat.le_trans kb251 q268_K.1) q278_K.1) E281.1) E290.1) E301.1) q314_K.1) q337_K.1) q357_K.1) q486_K.1) q535_K.1)
    obtain ⟨fs, hr, hrun, hended, hRW⟩ := X554.leaveW (s := s) S251 (by rw [q554_hh]; exact f558) (v := some (.int 1)) (fun h => by rw [Bd.returns] at h; cases h)
    refine ⟨_, _, p557 _ (retN X554 hx (t := .boolean) Bd.returns (by simp) (hb hby at_817) hr), hrun, hended, _, _, rfl, ?_, hRW.1, hRW.2.1, hRW.2.2.1, hRW.2.2.2.mono (by decide) (by decide)⟩
    show Q0 Z p1 p2 p3 p4 de kde el ea kea em mr h0 n0 _ T554.heap _
    rw [q554_hh]
    exact ⟨rfl, N554⟩
 ·have p559 : GF p e below _ T436 m 682 (oLI4R4I11u4 p1 p2 p3 p4 b102 b187 b200 b281 v8 v9 v10 v11 v12 v13 v14 v15 v16 v17 v18) [] := fun t_ k_ => p450 t_ (by
   refine XS.ifNo X436.here hx rfl (hb hby at_679) rfl ((if0 _ _).trans (feq c451).1) ?_
   exact k_)
  have p560 : GF p e below _ T436 m 688 (oLI4R4I11u4 p1 p2 p3 p4 b102 b187 b200 b281 v8 v9 v10 v11 v12 v13 v14 v15 v16 v17 v18) [(.int v9), (.int v8), (.ref b281)] := fun t_ k_ => p559 t_ (by
   refine XS.aload X436.here hx rfl (hb hby at_682) rfl rfl ?_
   refine XS.iload X436.here hx rfl (hb hby at_684) rfl ?_
   refine XS.iload X436.here hx rfl (hb hby at_686) rfl ?_
   exact k_)
  obtain ⟨cq561, kq561, q561a, q561b, q561c⟩ := isOf hZ251 e436 q357_F0
  obtain ⟨_, _, ⟨T561, L561, k561, n561⟩, -, X561, ⟨Lc561, hQ561, l561, y561, z561⟩, st561⟩ := X436.virtualBack hx (y := oM9) (z := oM9) hown251 (mvT hZ251 (own_w hw 319 rfl)) (mvT hZ251 (own_w hw 320 rfl)) (notFace_of_selects (args := #[]) (mvT hZ251 (own_w hw 322 rfl))) (mvT hZ251 (own_w hw 322 rfl)) (mvT hZ251 (own_w hw 321 rfl)) (by decide) (backOf (W := 0) (rm40 l Z a0 hw [] b281 x358 x359 x360 x361 x362 x363 x364 x365 x366 x367 x368 x369 x370 x371 x372 (-1 : Int64) (63 : Int64) (7 : Int64) (70 : Int32) (3 : Int32) (0 : Int32) (0 : Int32) (0 : Int32) (0 : Int32) (List.replicate 96 (.int 0)) 0 (0 : Int32) v8 v9 T357.heap n0 (Nat.le_trans Z0 K373.1) q357_F0 q357_F1 q357_F2 q357_F3 q357_F4 q357_F5 q357_F6 q357_F7 q357_F8 q357_F9 q357_F10 q357_F11 q357_F12 q357_F13 q357_F14 q357_F15 q357_nd q357_ge (Or.inl ⟨rfl, rfl, rfl⟩) (by decide) (List.length_replicate ..) hd1) hZ251 (own_w hw 323 rfl) (own_w hw 91 rfl) (by decide) (by decide)) q561a q561c (g := (mkF m 688 (oLI4R4I11u4 p1 p2 p3 p4 b102 b187 b200 b281 v8 v9 v10 v11 v12 v13 v14 v15 v16 v17 v18) [(.int v9), (.int v8), (.ref b281)])) rfl (by rw [hml]; rfl) (Steps.refl _) (argsL := [(.int v8), (.int v9)]) (rest := []) (lenOf pd25 rfl) rfl (by show 2 * 0 + _ ≤ _; exact Nat.le_of_eq rfl) (hb hby at_688) (fun _ _ => ⟨rfl, e436, (by decide : 26 + 0 ≤ _), (by decide : 309 + 0 ≤ _)⟩)
  dsimp only [Pt.U, Pt.locs, Pt.cells, Pt.slots] at X561 l561 y561 z561 st561 hQ561
  subst l561 y561 z561
  obtain ⟨x562, x563, x564, x565, x566, x567, x568, x569, x570, x571, x572, rfl, N561q, q561_K, q561_F0, q561_F1, q561_F2, q561_F3, q561_F4, q561_F5, q561_F6, q561_F7, q561_F8, q561_F9, q561_F10, q561_F11, q561_F12, q561_F13, q561_F14, q561_F15, q561_M, q561_l, q561_T, q561_off⟩ := hQ561
  have N561 := Fr.app N436 N561q
  have K573 : Keep h0 T561.heap [] := K373.trans q561_K (allS (Or.inr sz_b281) (allS (Or.inr (Nat.le_trans K339.1 q357_sz.1)) (allS (Or.inr (Nat.le_trans K339.1 q357_sz.2.2.1)) (allS (Or.inr (Nat.le_trans K339.1 q357_sz.2.2.2.1)) (allS (Or.inr (Nat.le_trans K339.1 q357_sz.2.2.2.2.1)) (allS (Or.inr (Nat.le_trans K339.1 q357_sz.2.2.2.2.2.1)) (allS (Or.inr (Nat.le_trans K339.1 q357_sz.2.2.2.2.2.2)) all0)))))))
  have p574 : GF p e below _ T561 m 693 (oLI4R4I11u4 p1 p2 p3 p4 b102 b187 b200 b281 v8 v9 v10 v11 v12 v13 v14 v15 v16 v17 v18) [(.ref b281)] := fun t_ k_ => (gcT p560 st561) t_ (by
   refine XS.aload X561.here hx rfl (hb hby at_691) rfl rfl ?_
   exact k_)
  obtain ⟨cq575, kq575, q575a, q575b, q575c⟩ := isOf hZ251 rfl q561_F0
  obtain ⟨_, _, ⟨T575, L575, k575, n575⟩, -, X575, ⟨Lc575, hQ575, l575, y575, z575⟩, st575⟩ := X561.virtualBack hx (y := oM7) (z := oM7) hown251 (mvT hZ251 (own_w hw 302 rfl)) (mvT hZ251 (own_w hw 303 rfl)) (notFace_of_selects (args := #[]) (mvT hZ251 (own_w hw 305 rfl))) (mvT hZ251 (own_w hw 305 rfl)) (mvT hZ251 (own_w hw 304 rfl)) (by decide) (backOf (W := 0) (rm37 l Z a0 hw [] b281 (Int32.ofNat (0 + 3)) T561.heap n0 (Nat.le_trans Z0 K573.1) q561_F8) hZ251 (own_w hw 306 rfl) (own_w hw 91 rfl) (by decide) (by decide)) q575a q575c (g := (mkF m 693 (oLI4R4I11u4 p1 p2 p3 p4 b102 b187 b200 b281 v8 v9 v10 v11 v12 v13 v14 v15 v16 v17 v18) [(.ref b281)])) rfl (by rw [hml]; rfl) (Steps.refl _) (argsL := []) (rest := []) (lenOf pd13 rfl) rfl (by show 2 * 0 + _ ≤ _; exact Nat.le_of_eq rfl) (hb hby at_693) (fun _ _ => ⟨rfl, rfl, (by decide : 26 + 0 ≤ _), (by decide : 309 + 0 ≤ _)⟩)
  dsimp only [Pt.U, Pt.locs, Pt.cells, Pt.slots] at X575 l575 y575 z575 st575 hQ575
  subst l575 y575 z575
  obtain ⟨rfl, N575q, q575_hh⟩ := hQ575
  have N575 := Fr.app N561 N575q
  have p576 : GF p e below _ T575 m 700 (oLI4R4I12u3 p1 p2 p3 p4 b102 b187 b200 b281 v8 v9 v10 v11 v12 v13 v14 v15 v16 v17 v18 (Int32.ofNat (0 + 3))) [(.int v14)] := fun t_ k_ => (gcT p574 st575) t_ (by
   refine XS.istore X575.here hx rfl (hb hby at_696) rfl (l' := (oLI4R4I12u3 p1 p2 p3 p4 b102 b187 b200 b281 v8 v9 v10 v11 v12 v13 v14 v15 v16 v17 v18 (Int32.ofNat (0 + 3)))) rfl ?_
   refine XS.iload X575.here hx rfl (hb hby at_698) rfl ?_
   exact k_)
  by_cases c577 : v14 = (0 : Int32)
  ·have p578 : GF p e below _ T575 m 712 (oLI4R4I12u3 p1 p2 p3 p4 b102 b187 b200 b281 v8 v9 v10 v11 v12 v13 v14 v15 v16 v17 v18 (Int32.ofNat (0 + 3))) [] := fun t_ k_ => p576 t_ (by
    refine XS.ifYes X575.here hx rfl (pc0 := 700) (pc' := 712) rfl (hb hby at_700) rfl ((if0 _ _).trans (teq c577).1) (by decide) (by decide) ?_
    exact k_)
   have p579 : GF p e below _ T575 m 714 (oLI4R4I12u3 p1 p2 p3 p4 b102 b187 b200 b281 v8 v9 v10 v11 v12 v13 v14 v15 v16 v17 v18 (Int32.ofNat (0 + 3))) [(.int v15)] := fun t_ k_ => p578 t_ (by
    refine XS.iload X575.here hx rfl (hb hby at_712) rfl ?_
    exact k_)
   by_cases c580 : v15 = (0 : Int32)
   ·have p581 : GF p e below _ T575 m 724 (oLI4R4I12u3 p1 p2 p3 p4 b102 b187 b200 b281 v8 v9 v10 v11 v12 v13 v14 v15 v16 v17 v18 (Int32.ofNat (0 + 3))) [] := fun t_ k_ => p579 t_ (by
     refine XS.ifYes X575.here hx rfl (pc0 := 714) (pc' := 724) rfl (hb hby at_714) rfl ((if0 _ _).trans (teq c580).1) (by decide) (by decide) ?_
     exact k_)
    have p582 : GF p e below _ T575 m 726 (oLI4R4I12u3 p1 p2 p3 p4 b102 b187 b200 b281 v8 v9 v10 v11 v12 v13 v14 v15 v16 v17 v18 (Int32.ofNat (0 + 3))) [(.int v10)] := fun t_ k_ => p581 t_ (by
     refine XS.iload X575.here hx rfl (hb hby at_724) rfl ?_
     exact k_)
    have c583 : ¬ (v10 = (0 : Int32)) := c451
    have p584 : GF p e below _ T575 m 733 (oLI4R4I12u3 p1 p2 p3 p4 b102 b187 b200 b281 v8 v9 v10 v11 v12 v13 v14 v15 v16 v17 v18 (Int32.ofNat (0 + 3))) [(.int v8), (.int v17)] := fun t_ k_ => p582 t_ (by
     refine XS.ifNo X575.here hx rfl (hb hby at_726) rfl ((if0 _ _).trans (feq c583).1) ?_
     refine XS.iload X575.here hx rfl (hb hby at_729) rfl ?_
     refine XS.iload X575.here hx rfl (hb hby at_731) rfl ?_
     exact k_)
    have p595 : GF p e below (s₁.setTop (entryFrame m #[(.int p1), (.int p2), (.int p3), (.int p4)] maxLocals)) T575 m 748 (oLI4R4I12u3 p1 p2 p3 p4 b102 b187 b200 b281 v8 v9 v10 v11 v12 v13 v14 v15 v16 v17 v18 (Int32.ofNat (0 + 3))) [(.int (if v17 = v8 then (if v18 = v9 then (1 : Int32) else (0 : Int32)) else (0 : Int32)))] := by
     by_cases c585 : v17 = v8
     ·have p586 : GF p e below _ T575 m 736 (oLI4R4I12u3 p1 p2 p3 p4 b102 b187 b200 b281 v8 v9 v10 v11 v12 v13 v14 v15 v16 v17 v18 (Int32.ofNat (0 + 3))) [] := fun t_ k_ => p584 t_ (by
       refine XS.icmpNo X575.here hx rfl (hb hby at_733) rfl (teq c585).2 ?_
       exact k_)
      have p587 : GF p e below _ T575 m 740 (oLI4R4I12u3 p1 p2 p3 p4 b102 b187 b200 b281 v8 v9 v10 v11 v12 v13 v14 v15 v16 v17 v18 (Int32.ofNat (0 + 3))) [(.int v9), (.int v18)] := fun t_ k_ => p586 t_ (by
       refine XS.iload X575.here hx rfl (hb hby at_736) rfl ?_
       refine XS.iload X575.here hx rfl (hb hby at_738) rfl ?_
       exact k_)
      by_cases c588 : v18 = v9
      ·have p589 : GF p e below _ T575 m 743 (oLI4R4I12u3 p1 p2 p3 p4 b102 b187 b200 b281 v8 v9 v10 v11 v12 v13 v14 v15 v16 v17 v18 (Int32.ofNat (0 + 3))) [] := fun t_ k_ => p587 t_ (by
        refine XS.icmpNo X575.here hx rfl (hb hby at_740) rfl (teq c588).2 ?_
        exact k_)
       have p590 : GF p e below _ T575 m 748 (oLI4R4I12u3 p1 p2 p3 p4 b102 b187 b200 b281 v8 v9 v10 v11 v12 v13 v14 v15 v16 v17 v18 (Int32.ofNat (0 + 3))) [(.int 1)] := fun t_ k_ => p589 t_ (by
        refine XS.iconst X575.here hx rfl (hb hby at_743) ?_
        refine XS.goto X575.here hx rfl (pc0 := 744) (pc' := 748) rfl (hb hby at_744) (by decide) (by decide) ?_
        exact k_)
       simp only [if_pos c585, if_pos c588]; exact p590
      ·have p591 : GF p e below _ T575 m 747 (oLI4R4I12u3 p1 p2 p3 p4 b102 b187 b200 b281 v8 v9 v10 v11 v12 v13 v14 v15 v16 v17 v18 (Int32.ofNat (0 + 3))) [] := fun t_ k_ => p587 t_ (by
        refine XS.icmpYes X575.here hx rfl (pc0 := 740) (pc' := 747) rfl (hb hby at_740) rfl (feq c588).2 (by decide) (by decide) ?_
        exact k_)
       have p592 : GF p e below _ T575 m 748 (oLI4R4I12u3 p1 p2 p3 p4 b102 b187 b200 b281 v8 v9 v10 v11 v12 v13 v14 v15 v16 v17 v18 (Int32.ofNat (0 + 3))) [(.int 0)] := fun t_ k_ => p591 t_ (by
        refine XS.iconst X575.here hx rfl (hb hby at_747) ?_
        exact k_)
       simp only [if_pos c585, if_neg c588]; exact p592
     ·have p593 : GF p e below _ T575 m 747 (oLI4R4I12u3 p1 p2 p3 p4 b102 b187 b200 b281 v8 v9 v10 v11 v12 v13 v14 v15 v16 v17 v18 (Int32.ofNat (0 + 3))) [] := fun t_ k_ => p584 t_ (by
       refine XS.icmpYes X575.here hx rfl (pc0 := 733) (pc' := 747) rfl (hb hby at_733) rfl (feq c585).2 (by decide) (by decide) ?_
       exact k_)
      have p594 : GF p e below _ T575 m 748 (oLI4R4I12u3 p1 p2 p3 p4 b102 b187 b200 b281 v8 v9 v10 v11 v12 v13 v14 v15 v16 v17 v18 (Int32.ofNat (0 + 3))) [(.int 0)] := fun t_ k_ => p593 t_ (by
       refine XS.iconst X575.here hx rfl (hb hby at_747) ?_
       exact k_)
      simp only [if_neg c585]; exact p594
    have p596 : GF p e below _ T575 m 752 (oLI4R4I13u2 p1 p2 p3 p4 b102 b187 b200 b281 v8 v9 v10 v11 v12 v13 v14 v15 v16 v17 v18 (Int32.ofNat (0 + 3)) (if v17 = v8 then (if v18 = v9 then (1 : Int32) else (0 : Int32)) else (0 : Int32))) [(.int v14)] := fun t_ k_ => p595 t_ (by
     refine XS.istore X575.here hx rfl (hb hby at_748) rfl (l' := (oLI4R4I13u2 p1 p2 p3 p4 b102 b187 b200 b281 v8 v9 v10 v11 v12 v13 v14 v15 v16 v17 v18 (Int32.ofNat (0 + 3)) (if v17 = v8 then (if v18 = v9 then (1 : Int32) else (0 : Int32)) else (0 : Int32)))) rfl ?_
     refine XS.iload X575.here hx rfl (hb hby at_750) rfl ?_
     exact k_)
    have c597 : (v14 = (0 : Int32)) := c577
    have p598 : GF p e below _ T575 m 783 (oLI4R4I14u p1 p2 p3 p4 b102 b187 b200 b281 v8 v9 v10 v11 v12 v13 v14 v15 v16 v17 v18 (Int32.ofNat (0 + 3)) (if v17 = v8 then (if v18 = v9 then (1 : Int32) else (0 : Int32)) else (0 : Int32)) 0) [(.int (if v17 = v8 then (if v18 = v9 then (1 : Int32) else (0 : Int32)) else (0 : Int32)))] := fun t_ k_ => p596 t_ (by
     refine XS.ifYes X575.here hx rfl (pc0 := 752) (pc' := 778) rfl (hb hby at_752) rfl ((if0 _ _).trans (teq c597).1) (by decide) (by decide) ?_
     refine XS.iconst X575.here hx rfl (hb hby at_778) ?_
     refine XS.istore X575.here hx rfl (hb hby at_779) rfl (l' := (oLI4R4I14u p1 p2 p3 p4 b102 b187 b200 b281 v8 v9 v10 v11 v12 v13 v14 v15 v16 v17 v18 (Int32.ofNat (0 + 3)) (if v17 = v8 then (if v18 = v9 then (1 : Int32) else (0 : Int32)) else (0 : Int32)) 0)) rfl ?_
     refine XS.iload X575.here hx rfl (hb hby at_781) rfl ?_
     exact k_)
    have p604 : GF p e below (s₁.setTop (entryFrame m #[(.int p1), (.int p2), (.int p3), (.int p4)] maxLocals)) T575 m 796 (oLI4R4I14u p1 p2 p3 p4 b102 b187 b200 b281 v8 v9 v10 v11 v12 v13 v14 v15 v16 v17 v18 (Int32.ofNat (0 + 3)) (if v17 = v8 then (if v18 = v9 then (1 : Int32) else (0 : Int32)) else (0 : Int32)) 0) [(.int (if (if v17 = v8 then (if v18 = v9 then (1 : Int32) else (0 : Int32)) else (0 : Int32)) = (0 : Int32) then (1 : Int32) else (0 : Int32)))] := by
     by_cases c599 : (if v17 = v8 then (if v18 = v9 then (1 : Int32) else (0 : Int32)) else (0 : Int32)) = (0 : Int32)
     ·have p600 : GF p e below _ T575 m 786 (oLI4R4I14u p1 p2 p3 p4 b102 b187 b200 b281 v8 v9 v10 v11 v12 v13 v14 v15 v16 v17 v18 (Int32.ofNat (0 + 3)) (if v17 = v8 then (if v18 = v9 then (1 : Int32) else (0 : Int32)) else (0 : Int32)) 0) [] := fun t_ k_ => p598 t_ (by
       refine XS.ifNo X575.here hx rfl (hb hby at_783) rfl ((if0 _ _).trans (teq c599).2) ?_
       exact k_)
      have p601 : GF p e below _ T575 m 796 (oLI4R4I14u p1 p2 p3 p4 b102 b187 b200 b281 v8 v9 v10 v11 v12 v13 v14 v15 v16 v17 v18 (Int32.ofNat (0 + 3)) (if v17 = v8 then (if v18 = v9 then (1 : Int32) else (0 : Int32)) else (0 : Int32)) 0) [(.int 1)] := fun t_ k_ => p600 t_ (by
       refine XS.iload X575.here hx rfl (hb hby at_786) rfl ?_
       refine XS.ifNo X575.here hx rfl (hb hby at_788) rfl ((if0 _ _).trans (teq (by decide : ((0 : Int32) = (0 : Int32)))).2) ?_
       refine XS.iconst X575.here hx rfl (hb hby at_791) ?_
       refine XS.goto X575.here hx rfl (pc0 := 792) (pc' := 796) rfl (hb hby at_792) (by decide) (by decide) ?_
       exact k_)
      simp only [if_pos c599]; exact p601
     ·have p602 : GF p e below _ T575 m 795 (oLI4R4I14u p1 p2 p3 p4 b102 b187 b200 b281 v8 v9 v10 v11 v12 v13 v14 v15 v16 v17 v18 (Int32.ofNat (0 + 3)) (if v17 = v8 then (if v18 = v9 then (1 : Int32) else (0 : Int32)) else (0 : Int32)) 0) [] := fun t_ k_ => p598 t_ (by
       refine XS.ifYes X575.here hx rfl (pc0 := 783) (pc' := 795) rfl (hb hby at_783) rfl ((if0 _ _).trans (feq c599).2) (by decide) (by decide) ?_
       exact k_)
      have p603 : GF p e below _ T575 m 796 (oLI4R4I14u p1 p2 p3 p4 b102 b187 b200 b281 v8 v9 v10 v11 v12 v13 v14 v15 v16 v17 v18 (Int32.ofNat (0 + 3)) (if v17 = v8 then (if v18 = v9 then (1 : Int32) else (0 : Int32)) else (0 : Int32)) 0) [(.int 0)] := fun t_ k_ => p602 t_ (by
       refine XS.iconst X575.here hx rfl (hb hby at_795) ?_
       exact k_)
      simp only [if_neg c599]; exact p603
    have p605 : GF p e below _ T575 m 804 (oLI4R4I15 p1 p2 p3 p4 b102 b187 b200 b281 v8 v9 v10 v11 v12 v13 v14 v15 v16 v17 v18 (Int32.ofNat (0 + 3)) (if v17 = v8 then (if v18 = v9 then (1 : Int32) else (0 : Int32)) else (0 : Int32)) 0 (if (if v17 = v8 then (if v18 = v9 then (1 : Int32) else (0 : Int32)) else (0 : Int32)) = (0 : Int32) then (1 : Int32) else (0 : Int32))) [(.int v18), (.int v17), (.ref b281)] := fun t_ k_ => p604 t_ (by
     refine XS.istore X575.here hx rfl (hb hby at_796) rfl (l' := (oLI4R4I15 p1 p2 p3 p4 b102 b187 b200 b281 v8 v9 v10 v11 v12 v13 v14 v15 v16 v17 v18 (Int32.ofNat (0 + 3)) (if v17 = v8 then (if v18 = v9 then (1 : Int32) else (0 : Int32)) else (0 : Int32)) 0 (if (if v17 = v8 then (if v18 = v9 then (1 : Int32) else (0 : Int32)) else (0 : Int32)) = (0 : Int32) then (1 : Int32) else (0 : Int32)))) rfl ?_
     refine XS.aload X575.here hx rfl (hb hby at_798) rfl rfl ?_
     refine XS.iload X575.here hx rfl (hb hby at_800) rfl ?_
     refine XS.iload X575.here hx rfl (hb hby at_802) rfl ?_
     exact k_)
    obtain ⟨cq606, kq606, q606a, q606b, q606c⟩ := isOf hZ251 q575_hh q561_F0
    obtain ⟨_, _, ⟨T606, L606, k606, n606⟩, -, X606, ⟨Lc606, hQ606, l606, y606, z606⟩, st606⟩ := X575.virtualBack hx (y := oM6) (z := oM6) hown251 (mvT hZ251 (own_w hw 309 rfl)) (mvT hZ251 (own_w hw 310 rfl)) (notFace_of_selects (args := #[]) (mvT hZ251 (own_w hw 312 rfl))) (mvT hZ251 (own_w hw 312 rfl)) (mvT hZ251 (own_w hw 311 rfl)) (by decide) (backOf (W := 0) (rm38 l Z a0 hw [] b281 x359 x363 x364 x367 x371 x372 x562 x563 x564 v17 v18 T561.heap n0 (Nat.le_trans Z0 K573.1) q561_F3 q561_F10 q561_F14 q561_F15 hdq) hZ251 (own_w hw 313 rfl) (own_w hw 91 rfl) (by decide) (by decide)) q606a q606c (g := (mkF m 804 (oLI4R4I15 p1 p2 p3 p4 b102 b187 b200 b281 v8 v9 v10 v11 v12 v13 v14 v15 v16 v17 v18 (Int32.ofNat (0 + 3)) (if v17 = v8 then (if v18 = v9 then (1 : Int32) else (0 : Int32)) else (0 : Int32)) 0 (if (if v17 = v8 then (if v18 = v9 then (1 : Int32) else (0 : Int32)) else (0 : Int32)) = (0 : Int32) then (1 : Int32) else (0 : Int32))) [(.int v18), (.int v17), (.ref b281)])) rfl (by rw [hml]; rfl) (Steps.refl _) (argsL := [(.int v17), (.int v18)]) (rest := []) (lenOf pd24 rfl) rfl (by show 2 * 0 + _ ≤ _; exact Nat.le_of_eq rfl) (hb hby at_804) (fun _ _ => ⟨rfl, q575_hh, (by decide : 26 + 0 ≤ _), (by decide : 309 + 0 ≤ _)⟩)
    dsimp only [Pt.U, Pt.locs, Pt.cells, Pt.slots] at X606 l606 y606 z606 st606 hQ606
    subst l606 y606 z606
    obtain ⟨rfl, N606q, q606_hh⟩ := hQ606
    have N606 := Fr.app N575 N606q
    have p607 : GF p e below _ T606 m 809 (oLI4R4I15 p1 p2 p3 p4 b102 b187 b200 b281 v8 v9 v10 v11 v12 v13 v14 v15 v16 v17 v18 (Int32.ofNat (0 + 3)) (if v17 = v8 then (if v18 = v9 then (1 : Int32) else (0 : Int32)) else (0 : Int32)) 0 (if (if v17 = v8 then (if v18 = v9 then (1 : Int32) else (0 : Int32)) else (0 : Int32)) = (0 : Int32) then (1 : Int32) else (0 : Int32))) [(.int (if (if v17 = v8 then (if v18 = v9 then (1 : Int32) else (0 : Int32)) else (0 : Int32)) = (0 : Int32) then (1 : Int32) else (0 : Int32))), (.int (own_cn x562 x563 x564 v17 v18))] := fun t_ k_ => (gcT p605 st606) t_ (by
     refine XS.iload X606.here hx rfl (hb hby at_807) rfl ?_
     exact k_)
    have hbt : own_bit x562 x563 x564 v17 v18 = (true && !(decide (v17 = v8) && decide (v18 = v9))) := by rw [q561_off _ _ hdq, own_full _ _ hdq]
    have c608 : ((own_cn x562 x563 x564 v17 v18) = (if (if v17 = v8 then (if v18 = v9 then (1 : Int32) else (0 : Int32)) else (0 : Int32)) = (0 : Int32) then (1 : Int32) else (0 : Int32))) := own_y1 hbt
    have p609 : GF p e below _ T606 m 817 (oLI4R4I15 p1 p2 p3 p4 b102 b187 b200 b281 v8 v9 v10 v11 v12 v13 v14 v15 v16 v17 v18 (Int32.ofNat (0 + 3)) (if v17 = v8 then (if v18 = v9 then (1 : Int32) else (0 : Int32)) else (0 : Int32)) 0 (if (if v17 = v8 then (if v18 = v9 then (1 : Int32) else (0 : Int32)) else (0 : Int32)) = (0 : Int32) then (1 : Int32) else (0 : Int32))) [(.int 1)] := fun t_ k_ => p607 t_ (by
     refine XS.icmpNo X606.here hx rfl (hb hby at_809) rfl (teq c608).2 ?_
     refine XS.iconst X606.here hx rfl (hb hby at_812) ?_
     refine XS.goto X606.here hx rfl (pc0 := 813) (pc' := 817) rfl (hb hby at_813) (by decide) (by decide) ?_
     exact k_)
    have f610 := (Nat.le_trans (Nat.le_trans (Nat.le_trans (Nat.le_trans (Nat.le_trans (Nat.le_trans (Nat.le_trans (Nat.le_trans (Nat.le_trans kb251 q268_K.1) q278_K.1) E281.1) E290.1) E301.1) q314_K.1) q337_K.1) q357_K.1) q561_K.1)
    obtain ⟨fs, hr, hrun, hended, hRW⟩ := X606.leaveW (s := s) S251 (by rw [q606_hh]; exact f610) (v := some (.int 1)) (fun h => by rw [Bd.returns] at h; cases h)
    refine ⟨_, _, p609 _ (retN X606 hx (t := .boolean) Bd.returns (by simp) (hb hby at_817) hr), hrun, hended, _, _, rfl, ?_, hRW.1, hRW.2.1, hRW.2.2.1, hRW.2.2.2.mono (by decide) (by decide)⟩
    show Q0 Z p1 p2 p3 p4 de kde el ea kea em mr h0 n0 _ T606.heap _
    rw [q606_hh]
    exact ⟨rfl, N606⟩
   ·have p611 : GF p e below _ T575 m 717 (oLI4R4I12u3 p1 p2 p3 p4 b102 b187 b200 b281 v8 v9 v10 v11 v12 v13 v14 v15 v16 v17 v18 (Int32.ofNat (0 + 3))) [] := fun t_ k_ => p579 t_ (by
     refine XS.ifNo X575.here hx rfl (hb hby at_714) rfl ((if0 _ _).trans (feq c580).1) ?_
     exact k_)
    have p612 : GF p e below _ T575 m 721 (oLI4R4I12u3 p1 p2 p3 p4 b102 b187 b200 b281 v8 v9 v10 v11 v12 v13 v14 v15 v16 v17 v18 (Int32.ofNat (0 + 3))) [(.int (Int32.ofNat (0 + 3))), (.ref b281)] := fun t_ k_ => p611 t_ (by
     refine XS.aload X575.here hx rfl (hb hby at_717) rfl rfl ?_
     refine XS.iload X575.here hx rfl (hb hby at_719) rfl ?_
     exact k_)
    obtain ⟨cq613, kq613, q613a, q613b, q613c⟩ := isOf hZ251 q575_hh q561_F0
    obtain ⟨_, _, ⟨T613, L613, k613, n613⟩, -, X613, ⟨Lc613, hQ613, l613, y613, z613⟩, st613⟩ := X575.virtualBack hx (y := oM11) (z := oM11) hown251 (mvT hZ251 (own_w hw 314 rfl)) (mvT hZ251 (own_w hw 315 rfl)) (notFace_of_selects (args := #[]) (mvT hZ251 (own_w hw 317 rfl))) (mvT hZ251 (own_w hw 317 rfl)) (mvT hZ251 (own_w hw 316 rfl)) (by decide) (backOf (W := 0) (rm39_0 l Z a0 hw [] b281 (Int32.ofNat (0 + 3)) (Int32.ofNat (0 + 3)) T561.heap n0 (Nat.le_trans Z0 K573.1) q561_F8 (own_irr _)) hZ251 (own_w hw 318 rfl) (own_w hw 91 rfl) (by decide) (by decide)) q613a q613c (g := (mkF m 721 (oLI4R4I12u3 p1 p2 p3 p4 b102 b187 b200 b281 v8 v9 v10 v11 v12 v13 v14 v15 v16 v17 v18 (Int32.ofNat (0 + 3))) [(.int (Int32.ofNat (0 + 3))), (.ref b281)])) rfl (by rw [hml]; rfl) (Steps.refl _) (argsL := [(.int (Int32.ofNat (0 + 3)))]) (rest := []) (lenOf pd18 rfl) rfl (by show 2 * 0 + _ ≤ _; exact Nat.le_of_eq rfl) (hb hby at_721) (fun _ _ => ⟨rfl, q575_hh, (by decide : 26 + 0 ≤ _), (by decide : 309 + 0 ≤ _)⟩)
    dsimp only [Pt.U, Pt.locs, Pt.cells, Pt.slots] at X613 l613 y613 z613 st613 hQ613
    subst l613 y613 z613
    obtain ⟨rfl, N613q, q613_hh⟩ := hQ613
    have N613 := Fr.app N575 N613q
    have p614 : GF p e below _ T613 m 726 (oLI4R4I12u3 p1 p2 p3 p4 b102 b187 b200 b281 v8 v9 v10 v11 v12 v13 v14 v15 v16 v17 v18 (Int32.ofNat (0 + 3))) [(.int v10)] := fun t_ k_ => (gcT p612 st613) t_ (by
     refine XS.iload X613.here hx rfl (hb hby at_724) rfl ?_
     exact k_)
    have c615 : ¬ (v10 = (0 : Int32)) := c451
    have p616 : GF p e below _ T613 m 733 (oLI4R4I12u3 p1 p2 p3 p4 b102 b187 b200 b281 v8 v9 v10 v11 v12 v13 v14 v15 v16 v17 v18 (Int32.ofNat (0 + 3))) [(.int v8), (.int v17)] := fun t_ k_ => p614 t_ (by
     refine XS.ifNo X613.here hx rfl (hb hby at_726) rfl ((if0 _ _).trans (feq c615).1) ?_
     refine XS.iload X613.here hx rfl (hb hby at_729) rfl ?_
     refine XS.iload X613.here hx rfl (hb hby at_731) rfl ?_
     exact k_)
    have p627 : GF p e below (s₁.setTop (entryFrame m #[(.int p1), (.int p2), (.int p3), (.int p4)] maxLocals)) T613 m 748 (oLI4R4I12u3 p1 p2 p3 p4 b102 b187 b200 b281 v8 v9 v10 v11 v12 v13 v14 v15 v16 v17 v18 (Int32.ofNat (0 + 3))) [(.int (if v17 = v8 then (if v18 = v9 then (1 : Int32) else (0 : Int32)) else (0 : Int32)))] := by
     by_cases c617 : v17 = v8
     ·have p618 : GF p e below _ T613 m 736 (oLI4R4I12u3 p1 p2 p3 p4 b102 b187 b200 b281 v8 v9 v10 v11 v12 v13 v14 v15 v16 v17 v18 (Int32.ofNat (0 + 3))) [] := fun t_ k_ => p616 t_ (by
       refine XS.icmpNo X613.here hx rfl (hb hby at_733) rfl (teq c617).2 ?_
       exact k_)
      have p619 : GF p e below _ T613 m 740 (oLI4R4I12u3 p1 p2 p3 p4 b102 b187 b200 b281 v8 v9 v10 v11 v12 v13 v14 v15 v16 v17 v18 (Int32.ofNat (0 + 3))) [(.int v9), (.int v18)] := fun t_ k_ => p618 t_ (by
       refine XS.iload X613.here hx rfl (hb hby at_736) rfl ?_
       refine XS.iload X613.here hx rfl (hb hby at_738) rfl ?_
       exact k_)
      by_cases c620 : v18 = v9
      ·have p621 : GF p e below _ T613 m 743 (oLI4R4I12u3 p1 p2 p3 p4 b102 b187 b200 b281 v8 v9 v10 v11 v12 v13 v14 v15 v16 v17 v18 (Int32.ofNat (0 + 3))) [] := fun t_ k_ => p619 t_ (by
        refine XS.icmpNo X613.here hx rfl (hb hby at_740) rfl (teq c620).2 ?_
        exact k_)
       have p622 : GF p e below _ T613 m 748 (oLI4R4I12u3 p1 p2 p3 p4 b102 b187 b200 b281 v8 v9 v10 v11 v12 v13 v14 v15 v16 v17 v18 (Int32.ofNat (0 + 3))) [(.int 1)] := fun t_ k_ => p621 t_ (by
        refine XS.iconst X613.here hx rfl (hb hby at_743) ?_
        refine XS.goto X613.here hx rfl (pc0 := 744) (pc' := 748) rfl (hb hby at_744) (by decide) (by decide) ?_
        exact k_)
       simp only [if_pos c617, if_pos c620]; exact p622
      ·have p623 : GF p e below _ T613 m 747 (oLI4R4I12u3 p1 p2 p3 p4 b102 b187 b200 b281 v8 v9 v10 v11 v12 v13 v14 v15 v16 v17 v18 (Int32.ofNat (0 + 3))) [] := fun t_ k_ => p619 t_ (by
        refine XS.icmpYes X613.here hx rfl (pc0 := 740) (pc' := 747) rfl (hb hby at_740) rfl (feq c620).2 (by decide) (by decide) ?_
        exact k_)
       have p624 : GF p e below _ T613 m 748 (oLI4R4I12u3 p1 p2 p3 p4 b102 b187 b200 b281 v8 v9 v10 v11 v12 v13 v14 v15 v16 v17 v18 (Int32.ofNat (0 + 3))) [(.int 0)] := fun t_ k_ => p623 t_ (by
        refine XS.iconst X613.here hx rfl (hb hby at_747) ?_
        exact k_)
       simp only [if_pos c617, if_neg c620]; exact p624
     ·have p625 : GF p e below _ T613 m 747 (oLI4R4I12u3 p1 p2 p3 p4 b102 b187 b200 b281 v8 v9 v10 v11 v12 v13 v14 v15 v16 v17 v18 (Int32.ofNat (0 + 3))) [] := fun t_ k_ => p616 t_ (by
       refine XS.icmpYes X613.here hx rfl (pc0 := 733) (pc' := 747) rfl (hb hby at_733) rfl (feq c617).2 (by decide) (by decide) ?_
       exact k_)
      have p626 : GF p e below _ T613 m 748 (oLI4R4I12u3 p1 p2 p3 p4 b102 b187 b200 b281 v8 v9 v10 v11 v12 v13 v14 v15 v16 v17 v18 (Int32.ofNat (0 + 3))) [(.int 0)] := fun t_ k_ => p625 t_ (by
       refine XS.iconst X613.here hx rfl (hb hby at_747) ?_
       exact k_)
      simp only [if_neg c617]; exact p626
    have p628 : GF p e below _ T613 m 752 (oLI4R4I13u2 p1 p2 p3 p4 b102 b187 b200 b281 v8 v9 v10 v11 v12 v13 v14 v15 v16 v17 v18 (Int32.ofNat (0 + 3)) (if v17 = v8 then (if v18 = v9 then (1 : Int32) else (0 : Int32)) else (0 : Int32))) [(.int v14)] := fun t_ k_ => p627 t_ (by
     refine XS.istore X613.here hx rfl (hb hby at_748) rfl (l' := (oLI4R4I13u2 p1 p2 p3 p4 b102 b187 b200 b281 v8 v9 v10 v11 v12 v13 v14 v15 v16 v17 v18 (Int32.ofNat (0 + 3)) (if v17 = v8 then (if v18 = v9 then (1 : Int32) else (0 : Int32)) else (0 : Int32)))) rfl ?_
     refine XS.iload X613.here hx rfl (hb hby at_750) rfl ?_
     exact k_)
    have c629 : (v14 = (0 : Int32)) := c577
    have p630 : GF p e below _ T613 m 783 (oLI4R4I14u p1 p2 p3 p4 b102 b187 b200 b281 v8 v9 v10 v11 v12 v13 v14 v15 v16 v17 v18 (Int32.ofNat (0 + 3)) (if v17 = v8 then (if v18 = v9 then (1 : Int32) else (0 : Int32)) else (0 : Int32)) 0) [(.int (if v17 = v8 then (if v18 = v9 then (1 : Int32) else (0 : Int32)) else (0 : Int32)))] := fun t_ k_ => p628 t_ (by
     refine XS.ifYes X613.here hx rfl (pc0 := 752) (pc' := 778) rfl (hb hby at_752) rfl ((if0 _ _).trans (teq c629).1) (by decide) (by decide) ?_
     refine XS.iconst X613.here hx rfl (hb hby at_778) ?_
     refine XS.istore X613.here hx rfl (hb hby at_779) rfl (l' := (oLI4R4I14u p1 p2 p3 p4 b102 b187 b200 b281 v8 v9 v10 v11 v12 v13 v14 v15 v16 v17 v18 (Int32.ofNat (0 + 3)) (if v17 = v8 then (if v18 = v9 then (1 : Int32) else (0 : Int32)) else (0 : Int32)) 0)) rfl ?_
     refine XS.iload X613.here hx rfl (hb hby at_781) rfl ?_
     exact k_)
    have p636 : GF p e below (s₁.setTop (entryFrame m #[(.int p1), (.int p2), (.int p3), (.int p4)] maxLocals)) T613 m 796 (oLI4R4I14u p1 p2 p3 p4 b102 b187 b200 b281 v8 v9 v10 v11 v12 v13 v14 v15 v16 v17 v18 (Int32.ofNat (0 + 3)) (if v17 = v8 then (if v18 = v9 then (1 : Int32) else (0 : Int32)) else (0 : Int32)) 0) [(.int (if (if v17 = v8 then (if v18 = v9 then (1 : Int32) else (0 : Int32)) else (0 : Int32)) = (0 : Int32) then (1 : Int32) else (0 : Int32)))] := by
     by_cases c631 : (if v17 = v8 then (if v18 = v9 then (1 : Int32) else (0 : Int32)) else (0 : Int32)) = (0 : Int32)
     ·have p632 : GF p e below _ T613 m 786 (oLI4R4I14u p1 p2 p3 p4 b102 b187 b200 b281 v8 v9 v10 v11 v12 v13 v14 v15 v16 v17 v18 (Int32.ofNat (0 + 3)) (if v17 = v8 then (if v18 = v9 then (1 : Int32) else (0 : Int32)) else (0 : Int32)) 0) [] := fun t_ k_ => p630 t_ (by
       refine XS.ifNo X613.here hx rfl (hb hby at_783) rfl ((if0 _ _).trans (teq c631).2) ?_
       exact k_)
      have p633 : GF p e below _ T613 m 796 (oLI4R4I14u p1 p2 p3 p4 b102 b187 b200 b281 v8 v9 v10 v11 v12 v13 v14 v15 v16 v17 v18 (Int32.ofNat (0 + 3)) (if v17 = v8 then (if v18 = v9 then (1 : Int32) else (0 : Int32)) else (0 : Int32)) 0) [(.int 1)] := fun t_ k_ => p632 t_ (by
       refine XS.iload X613.here hx rfl (hb hby at_786) rfl ?_
       refine XS.ifNo X613.here hx rfl (hb hby at_788) rfl ((if0 _ _).trans (teq (by decide : ((0 : Int32) = (0 : Int32)))).2) ?_
       refine XS.iconst X613.here hx rfl (hb hby at_791) ?_
       refine XS.goto X613.here hx rfl (pc0 := 792) (pc' := 796) rfl (hb hby at_792) (by decide) (by decide) ?_
       exact k_)
      simp only [if_pos c631]; exact p633
     ·have p634 : GF p e below _ T613 m 795 (oLI4R4I14u p1 p2 p3 p4 b102 b187 b200 b281 v8 v9 v10 v11 v12 v13 v14 v15 v16 v17 v18 (Int32.ofNat (0 + 3)) (if v17 = v8 then (if v18 = v9 then (1 : Int32) else (0 : Int32)) else (0 : Int32)) 0) [] := fun t_ k_ => p630 t_ (by
       refine XS.ifYes X613.here hx rfl (pc0 := 783) (pc' := 795) rfl (hb hby at_783) rfl ((if0 _ _).trans (feq c631).2) (by decide) (by decide) ?_
       exact k_)
      have p635 : GF p e below _ T613 m 796 (oLI4R4I14u p1 p2 p3 p4 b102 b187 b200 b281 v8 v9 v10 v11 v12 v13 v14 v15 v16 v17 v18 (Int32.ofNat (0 + 3)) (if v17 = v8 then (if v18 = v9 then (1 : Int32) else (0 : Int32)) else (0 : Int32)) 0) [(.int 0)] := fun t_ k_ => p634 t_ (by
       refine XS.iconst X613.here hx rfl (hb hby at_795) ?_
       exact k_)
      simp only [if_neg c631]; exact p635
    have p637 : GF p e below _ T613 m 804 (oLI4R4I15 p1 p2 p3 p4 b102 b187 b200 b281 v8 v9 v10 v11 v12 v13 v14 v15 v16 v17 v18 (Int32.ofNat (0 + 3)) (if v17 = v8 then (if v18 = v9 then (1 : Int32) else (0 : Int32)) else (0 : Int32)) 0 (if (if v17 = v8 then (if v18 = v9 then (1 : Int32) else (0 : Int32)) else (0 : Int32)) = (0 : Int32) then (1 : Int32) else (0 : Int32))) [(.int v18), (.int v17), (.ref b281)] := fun t_ k_ => p636 t_ (by
     refine XS.istore X613.here hx rfl (hb hby at_796) rfl (l' := (oLI4R4I15 p1 p2 p3 p4 b102 b187 b200 b281 v8 v9 v10 v11 v12 v13 v14 v15 v16 v17 v18 (Int32.ofNat (0 + 3)) (if v17 = v8 then (if v18 = v9 then (1 : Int32) else (0 : Int32)) else (0 : Int32)) 0 (if (if v17 = v8 then (if v18 = v9 then (1 : Int32) else (0 : Int32)) else (0 : Int32)) = (0 : Int32) then (1 : Int32) else (0 : Int32)))) rfl ?_
     refine XS.aload X613.here hx rfl (hb hby at_798) rfl rfl ?_
     refine XS.iload X613.here hx rfl (hb hby at_800) rfl ?_
     refine XS.iload X613.here hx rfl (hb hby at_802) rfl ?_
     exact k_)
    obtain ⟨cq638, kq638, q638a, q638b, q638c⟩ := isOf hZ251 q613_hh q561_F0
    obtain ⟨_, _, ⟨T638, L638, k638, n638⟩, -, X638, ⟨Lc638, hQ638, l638, y638, z638⟩, st638⟩ := X613.virtualBack hx (y := oM6) (z := oM6) hown251 (mvT hZ251 (own_w hw 309 rfl)) (mvT hZ251 (own_w hw 310 rfl)) (notFace_of_selects (args := #[]) (mvT hZ251 (own_w hw 312 rfl))) (mvT hZ251 (own_w hw 312 rfl)) (mvT hZ251 (own_w hw 311 rfl)) (by decide) (backOf (W := 0) (rm38 l Z a0 hw [] b281 x359 x363 x364 x367 x371 x372 x562 x563 x564 v17 v18 T561.heap n0 (Nat.le_trans Z0 K573.1) q561_F3 q561_F10 q561_F14 q561_F15 hdq) hZ251 (own_w hw 313 rfl) (own_w hw 91 rfl) (by decide) (by decide)) q638a q638c (g := (mkF m 804 (oLI4R4I15 p1 p2 p3 p4 b102 b187 b200 b281 v8 v9 v10 v11 v12 v13 v14 v15 v16 v17 v18 (Int32.ofNat (0 + 3)) (if v17 = v8 then (if v18 = v9 then (1 : Int32) else (0 : Int32)) else (0 : Int32)) 0 (if (if v17 = v8 then (if v18 = v9 then (1 : Int32) else (0 : Int32)) else (0 : Int32)) = (0 : Int32) then (1 : Int32) else (0 : Int32))) [(.int v18), (.int v17), (.ref b281)])) rfl (by rw [hml]; rfl) (Steps.refl _) (argsL := [(.int v17), (.int v18)]) (rest := []) (lenOf pd24 rfl) rfl (by show 2 * 0 + _ ≤ _; exact Nat.le_of_eq rfl) (hb hby at_804) (fun _ _ => ⟨rfl, q613_hh, (by decide : 26 + 0 ≤ _), (by decide : 309 + 0 ≤ _)⟩)
    dsimp only [Pt.U, Pt.locs, Pt.cells, Pt.slots] at X638 l638 y638 z638 st638 hQ638
    subst l638 y638 z638
    obtain ⟨rfl, N638q, q638_hh⟩ := hQ638
    have N638 := Fr.app N613 N638q
    have p639 : GF p e below _ T638 m 809 (oLI4R4I15 p1 p2 p3 p4 b102 b187 b200 b281 v8 v9 v10 v11 v12 v13 v14 v15 v16 v17 v18 (Int32.ofNat (0 + 3)) (if v17 = v8 then (if v18 = v9 then (1 : Int32) else (0 : Int32)) else (0 : Int32)) 0 (if (if v17 = v8 then (if v18 = v9 then (1 : Int32) else (0 : Int32)) else (0 : Int32)) = (0 : Int32) then (1 : Int32) else (0 : Int32))) [(.int (if (if v17 = v8 then (if v18 = v9 then (1 : Int32) else (0 : Int32)) else (0 : Int32)) = (0 : Int32) then (1 : Int32) else (0 : Int32))), (.int (own_cn x562 x563 x564 v17 v18))] := fun t_ k_ => (gcT p637 st638) t_ (by
     refine XS.iload X638.here hx rfl (hb hby at_807) rfl ?_
     exact k_)
    have hbt : own_bit x562 x563 x564 v17 v18 = (true && !(decide (v17 = v8) && decide (v18 = v9))) := by rw [q561_off _ _ hdq, own_full _ _ hdq]
    have c640 : ((own_cn x562 x563 x564 v17 v18) = (if (if v17 = v8 then (if v18 = v9 then (1 : Int32) else (0 : Int32)) else (0 : Int32)) = (0 : Int32) then (1 : Int32) else (0 : Int32))) := own_y1 hbt
    have p641 : GF p e below _ T638 m 817 (oLI4R4I15 p1 p2 p3 p4 b102 b187 b200 b281 v8 v9 v10 v11 v12 v13 v14 v15 v16 v17 v18 (Int32.ofNat (0 + 3)) (if v17 = v8 then (if v18 = v9 then (1 : Int32) else (0 : Int32)) else (0 : Int32)) 0 (if (if v17 = v8 then (if v18 = v9 then (1 : Int32) else (0 : Int32)) else (0 : Int32)) = (0 : Int32) then (1 : Int32) else (0 : Int32))) [(.int 1)] := fun t_ k_ => p639 t_ (by
     refine XS.icmpNo X638.here hx rfl (hb hby at_809) rfl (teq c640).2 ?_
     refine XS.iconst X638.here hx rfl (hb hby at_812) ?_
     refine XS.goto X638.here hx rfl (pc0 := 813) (pc' := 817) rfl (hb hby at_813) (by decide) (by decide) ?_
     exact k_)
    have f642 := (Nat.le_trans (Nat.le_trans (Nat.le_trans (Nat.le_trans (Nat.le_trans (Nat.le_trans (Nat.le_trans (Nat.le_trans (Nat.le_trans kb251 q268_K.1) q278_K.1) E281.1) E290.1) E301.1) q314_K.1) q337_K.1) q357_K.1) q561_K.1)
    obtain ⟨fs, hr, hrun, hended, hRW⟩ := X638.leaveW (s := s) S251 (by rw [q638_hh]; exact f642) (v := some (.int 1)) (fun h => by rw [Bd.returns] at h; cases h)
    refine ⟨_, _, p641 _ (retN X638 hx (t := .boolean) Bd.returns (by simp) (hb hby at_817) hr), hrun, hended, _, _, rfl, ?_, hRW.1, hRW.2.1, hRW.2.2.1, hRW.2.2.2.mono (by decide) (by decide)⟩
    show Q0 Z p1 p2 p3 p4 de kde el ea kea em mr h0 n0 _ T638.heap _
    rw [q638_hh]
    exact ⟨rfl, N638⟩
  ·have p643 : GF p e below _ T575 m 703 (oLI4R4I12u3 p1 p2 p3 p4 b102 b187 b200 b281 v8 v9 v10 v11 v12 v13 v14 v15 v16 v17 v18 (Int32.ofNat (0 + 3))) [] := fun t_ k_ => p576 t_ (by
    refine XS.ifNo X575.here hx rfl (hb hby at_700) rfl ((if0 _ _).trans (feq c577).1) ?_
    exact k_)
   have p644 : GF p e below _ T575 m 709 (oLI4R4I12u3 p1 p2 p3 p4 b102 b187 b200 b281 v8 v9 v10 v11 v12 v13 v14 v15 v16 v17 v18 (Int32.ofNat (0 + 3))) [(.int v12), (.int v11), (.ref b281)] := fun t_ k_ => p643 t_ (by
    refine XS.aload X575.here hx rfl (hb hby at_703) rfl rfl ?_
    refine XS.iload X575.here hx rfl (hb hby at_705) rfl ?_
    refine XS.iload X575.here hx rfl (hb hby at_707) rfl ?_
    exact k_)
   obtain ⟨cq645, kq645, q645a, q645b, q645c⟩ := isOf hZ251 q575_hh q561_F0
   obtain ⟨_, _, ⟨T645, L645, k645, n645⟩, -, X645, ⟨Lc645, hQ645, l645, y645, z645⟩, st645⟩ := X575.virtualBack hx (y := oM9) (z := oM9) hown251 (mvT hZ251 (own_w hw 319 rfl)) (mvT hZ251 (own_w hw 320 rfl)) (notFace_of_selects (args := #[]) (mvT hZ251 (own_w hw 322 rfl))) (mvT hZ251 (own_w hw 322 rfl)) (mvT hZ251 (own_w hw 321 rfl)) (by decide) (backOf (W := 0) (rm40 l Z a0 hw [] b281 x358 x359 x360 x361 x362 x363 x364 x365 x366 x367 x368 x369 x370 x371 x372 x562 x563 x564 x565 x566 x567 x568 x569 x570 x572 (0 + 3) x571 v11 v12 T561.heap n0 (Nat.le_trans Z0 K573.1) q561_F0 q561_F1 q561_F2 q561_F3 q561_F4 q561_F5 q561_F6 q561_F7 q561_F8 q561_F9 q561_F10 q561_F11 q561_F12 q561_F13 q561_F14 q561_F15 q357_nd q357_ge q561_M (by decide) q561_l hd2) hZ251 (own_w hw 323 rfl) (own_w hw 91 rfl) (by decide) (by decide)) q645a q645c (g := (mkF m 709 (oLI4R4I12u3 p1 p2 p3 p4 b102 b187 b200 b281 v8 v9 v10 v11 v12 v13 v14 v15 v16 v17 v18 (Int32.ofNat (0 + 3))) [(.int v12), (.int v11), (.ref b281)])) rfl (by rw [hml]; rfl) (Steps.refl _) (argsL := [(.int v11), (.int v12)]) (rest := []) (lenOf pd25 rfl) rfl (by show 2 * 0 + _ ≤ _; exact Nat.le_of_eq rfl) (hb hby at_709) (fun _ _ => ⟨rfl, q575_hh, (by decide : 26 + 0 ≤ _), (by decide : 309 + 0 ≤ _)⟩)
   dsimp only [Pt.U, Pt.locs, Pt.cells, Pt.slots] at X645 l645 y645 z645 st645 hQ645
   subst l645 y645 z645
   obtain ⟨x646, x647, x648, x649, x650, x651, x652, x653, x654, x655, x656, rfl, N645q, q645_K, q645_F0, q645_F1, q645_F2, q645_F3, q645_F4, q645_F5, q645_F6, q645_F7, q645_F8, q645_F9, q645_F10, q645_F11, q645_F12, q645_F13, q645_F14, q645_F15, q645_M, q645_l, q645_T, q645_off⟩ := hQ645
   have N645 := Fr.app N575 N645q
   have K657 : Keep h0 T645.heap [] := K573.trans q645_K (allS (Or.inr sz_b281) (allS (Or.inr (Nat.le_trans K339.1 q357_sz.1)) (allS (Or.inr (Nat.le_trans K339.1 q357_sz.2.2.1)) (allS (Or.inr (Nat.le_trans K339.1 q357_sz.2.2.2.1)) (allS (Or.inr (Nat.le_trans K339.1 q357_sz.2.2.2.2.1)) (allS (Or.inr (Nat.le_trans K339.1 q357_sz.2.2.2.2.2.1)) (allS (Or.inr (Nat.le_trans K339.1 q357_sz.2.2.2.2.2.2)) all0)))))))
   have p658 : GF p e below _ T645 m 714 (oLI4R4I12u3 p1 p2 p3 p4 b102 b187 b200 b281 v8 v9 v10 v11 v12 v13 v14 v15 v16 v17 v18 (Int32.ofNat (0 + 3))) [(.int v15)] := fun t_ k_ => (gcT p644 st645) t_ (by
    refine XS.iload X645.here hx rfl (hb hby at_712) rfl ?_
    exact k_)
   by_cases c659 : v15 = (0 : Int32)
   ·have p660 : GF p e below _ T645 m 724 (oLI4R4I12u3 p1 p2 p3 p4 b102 b187 b200 b281 v8 v9 v10 v11 v12 v13 v14 v15 v16 v17 v18 (Int32.ofNat (0 + 3))) [] := fun t_ k_ => p658 t_ (by
     refine XS.ifYes X645.here hx rfl (pc0 := 714) (pc' := 724) rfl (hb hby at_714) rfl ((if0 _ _).trans (teq c659).1) (by decide) (by decide) ?_
     exact k_)
    have p661 : GF p e below _ T645 m 726 (oLI4R4I12u3 p1 p2 p3 p4 b102 b187 b200 b281 v8 v9 v10 v11 v12 v13 v14 v15 v16 v17 v18 (Int32.ofNat (0 + 3))) [(.int v10)] := fun t_ k_ => p660 t_ (by
     refine XS.iload X645.here hx rfl (hb hby at_724) rfl ?_
     exact k_)
    have c662 : ¬ (v10 = (0 : Int32)) := c451
    have p663 : GF p e below _ T645 m 733 (oLI4R4I12u3 p1 p2 p3 p4 b102 b187 b200 b281 v8 v9 v10 v11 v12 v13 v14 v15 v16 v17 v18 (Int32.ofNat (0 + 3))) [(.int v8), (.int v17)] := fun t_ k_ => p661 t_ (by
     refine XS.ifNo X645.here hx rfl (hb hby at_726) rfl ((if0 _ _).trans (feq c662).1) ?_
     refine XS.iload X645.here hx rfl (hb hby at_729) rfl ?_
     refine XS.iload X645.here hx rfl (hb hby at_731) rfl ?_
     exact k_)
    have p674 : GF p e below (s₁.setTop (entryFrame m #[(.int p1), (.int p2), (.int p3), (.int p4)] maxLocals)) T645 m 748 (oLI4R4I12u3 p1 p2 p3 p4 b102 b187 b200 b281 v8 v9 v10 v11 v12 v13 v14 v15 v16 v17 v18 (Int32.ofNat (0 + 3))) [(.int (if v17 = v8 then (if v18 = v9 then (1 : Int32) else (0 : Int32)) else (0 : Int32)))] := by
     by_cases c664 : v17 = v8
     ·have p665 : GF p e below _ T645 m 736 (oLI4R4I12u3 p1 p2 p3 p4 b102 b187 b200 b281 v8 v9 v10 v11 v12 v13 v14 v15 v16 v17 v18 (Int32.ofNat (0 + 3))) [] := fun t_ k_ => p663 t_ (by
       refine XS.icmpNo X645.here hx rfl (hb hby at_733) rfl (teq c664).2 ?_
       exact k_)
      have p666 : GF p e below _ T645 m 740 (oLI4R4I12u3 p1 p2 p3 p4 b102 b187 b200 b281 v8 v9 v10 v11 v12 v13 v14 v15 v16 v17 v18 (Int32.ofNat (0 + 3))) [(.int v9), (.int v18)] := fun t_ k_ => p665 t_ (by
       refine XS.iload X645.here hx rfl (hb hby at_736) rfl ?_
       refine XS.iload X645.here hx rfl (hb hby at_738) rfl ?_
       exact k_)
      by_cases c667 : v18 = v9
      ·have p668 : GF p e below _ T645 m 743 (oLI4R4I12u3 p1 p2 p3 p4 b102 b187 b200 b281 v8 v9 v10 v11 v12 v13 v14 v15 v16 v17 v18 (Int32.ofNat (0 + 3))) [] := fun t_ k_ => p666 t_ (by
        refine XS.icmpNo X645.here hx rfl (hb hby at_740) rfl (teq c667).2 ?_
        exact k_)
       have p669 : GF p e below _ T645 m 748 (oLI4R4I12u3 p1 p2 p3 p4 b102 b187 b200 b281 v8 v9 v10 v11 v12 v13 v14 v15 v16 v17 v18 (Int32.ofNat (0 + 3))) [(.int 1)] := fun t_ k_ => p668 t_ (by
        refine XS.iconst X645.here hx rfl (hb hby at_743) ?_
        refine XS.goto X645.here hx rfl (pc0 := 744) (pc' := 748) rfl (hb hby at_744) (by decide) (by decide) ?_
        exact k_)
       simp only [if_pos c664, if_pos c667]; exact p669
      ·have p670 : GF p e below _ T645 m 747 (oLI4R4I12u3 p1 p2 p3 p4 b102 b187 b200 b281 v8 v9 v10 v11 v12 v13 v14 v15 v16 v17 v18 (Int32.ofNat (0 + 3))) [] := fun t_ k_ => p666 t_ (by
        refine XS.icmpYes X645.here hx rfl (pc0 := 740) (pc' := 747) rfl (hb hby at_740) rfl (feq c667).2 (by decide) (by decide) ?_
        exact k_)
       have p671 : GF p e below _ T645 m 748 (oLI4R4I12u3 p1 p2 p3 p4 b102 b187 b200 b281 v8 v9 v10 v11 v12 v13 v14 v15 v16 v17 v18 (Int32.ofNat (0 + 3))) [(.int 0)] := fun t_ k_ => p670 t_ (by
        refine XS.iconst X645.here hx rfl (hb hby at_747) ?_
        exact k_)
       simp only [if_pos c664, if_neg c667]; exact p671
     ·have p672 : GF p e below _ T645 m 747 (oLI4R4I12u3 p1 p2 p3 p4 b102 b187 b200 b281 v8 v9 v10 v11 v12 v13 v14 v15 v16 v17 v18 (Int32.ofNat (0 + 3))) [] := fun t_ k_ => p663 t_ (by
       refine XS.icmpYes X645.here hx rfl (pc0 := 733) (pc' := 747) rfl (hb hby at_733) rfl (feq c664).2 (by decide) (by decide) ?_
       exact k_)
      have p673 : GF p e below _ T645 m 748 (oLI4R4I12u3 p1 p2 p3 p4 b102 b187 b200 b281 v8 v9 v10 v11 v12 v13 v14 v15 v16 v17 v18 (Int32.ofNat (0 + 3))) [(.int 0)] := fun t_ k_ => p672 t_ (by
       refine XS.iconst X645.here hx rfl (hb hby at_747) ?_
       exact k_)
      simp only [if_neg c664]; exact p673
    have p675 : GF p e below _ T645 m 752 (oLI4R4I13u2 p1 p2 p3 p4 b102 b187 b200 b281 v8 v9 v10 v11 v12 v13 v14 v15 v16 v17 v18 (Int32.ofNat (0 + 3)) (if v17 = v8 then (if v18 = v9 then (1 : Int32) else (0 : Int32)) else (0 : Int32))) [(.int v14)] := fun t_ k_ => p674 t_ (by
     refine XS.istore X645.here hx rfl (hb hby at_748) rfl (l' := (oLI4R4I13u2 p1 p2 p3 p4 b102 b187 b200 b281 v8 v9 v10 v11 v12 v13 v14 v15 v16 v17 v18 (Int32.ofNat (0 + 3)) (if v17 = v8 then (if v18 = v9 then (1 : Int32) else (0 : Int32)) else (0 : Int32)))) rfl ?_
     refine XS.iload X645.here hx rfl (hb hby at_750) rfl ?_
     exact k_)
    have c676 : ¬ (v14 = (0 : Int32)) := c577
    have p677 : GF p e below _ T645 m 757 (oLI4R4I13u2 p1 p2 p3 p4 b102 b187 b200 b281 v8 v9 v10 v11 v12 v13 v14 v15 v16 v17 v18 (Int32.ofNat (0 + 3)) (if v17 = v8 then (if v18 = v9 then (1 : Int32) else (0 : Int32)) else (0 : Int32))) [(.int v15)] := fun t_ k_ => p675 t_ (by
     refine XS.ifNo X645.here hx rfl (hb hby at_752) rfl ((if0 _ _).trans (feq c676).1) ?_
     refine XS.iload X645.here hx rfl (hb hby at_755) rfl ?_
     exact k_)
    have c678 : (v15 = (0 : Int32)) := c659
    have p679 : GF p e below _ T645 m 764 (oLI4R4I13u2 p1 p2 p3 p4 b102 b187 b200 b281 v8 v9 v10 v11 v12 v13 v14 v15 v16 v17 v18 (Int32.ofNat (0 + 3)) (if v17 = v8 then (if v18 = v9 then (1 : Int32) else (0 : Int32)) else (0 : Int32))) [(.int v11), (.int v17)] := fun t_ k_ => p677 t_ (by
     refine XS.ifNo X645.here hx rfl (hb hby at_757) rfl ((if0 _ _).trans (teq c678).2) ?_
     refine XS.iload X645.here hx rfl (hb hby at_760) rfl ?_
     refine XS.iload X645.here hx rfl (hb hby at_762) rfl ?_
     exact k_)
    have p690 : GF p e below (s₁.setTop (entryFrame m #[(.int p1), (.int p2), (.int p3), (.int p4)] maxLocals)) T645 m 779 (oLI4R4I13u2 p1 p2 p3 p4 b102 b187 b200 b281 v8 v9 v10 v11 v12 v13 v14 v15 v16 v17 v18 (Int32.ofNat (0 + 3)) (if v17 = v8 then (if v18 = v9 then (1 : Int32) else (0 : Int32)) else (0 : Int32))) [(.int (if v17 = v11 then (if v18 = v12 then (1 : Int32) else (0 : Int32)) else (0 : Int32)))] := by
     by_cases c680 : v17 = v11
     ·have p681 : GF p e below _ T645 m 767 (oLI4R4I13u2 p1 p2 p3 p4 b102 b187 b200 b281 v8 v9 v10 v11 v12 v13 v14 v15 v16 v17 v18 (Int32.ofNat (0 + 3)) (if v17 = v8 then (if v18 = v9 then (1 : Int32) else (0 : Int32)) else (0 : Int32))) [] := fun t_ k_ => p679 t_ (by
       refine XS.icmpNo X645.here hx rfl (hb hby at_764) rfl (teq c680).2 ?_
       exact k_)
      have p682 : GF p e below _ T645 m 771 (oLI4R4I13u2 p1 p2 p3 p4 b102 b187 b200 b281 v8 v9 v10 v11 v12 v13 v14 v15 v16 v17 v18 (Int32.ofNat (0 + 3)) (if v17 = v8 then (if v18 = v9 then (1 : Int32) else (0 : Int32)) else (0 : Int32))) [(.int v12), (.int v18)] := fun t_ k_ => p681 t_ (by
       refine XS.iload X645.here hx rfl (hb hby at_767) rfl ?_
       refine XS.iload X645.here hx rfl (hb hby at_769) rfl ?_
       exact k_)
      by_cases c683 : v18 = v12
      ·have p684 : GF p e below _ T645 m 774 (oLI4R4I13u2 p1 p2 p3 p4 b102 b187 b200 b281 v8 v9 v10 v11 v12 v13 v14 v15 v16 v17 v18 (Int32.ofNat (0 + 3)) (if v17 = v8 then (if v18 = v9 then (1 : Int32) else (0 : Int32)) else (0 : Int32))) [] := fun t_ k_ => p682 t_ (by
        refine XS.icmpNo X645.here hx rfl (hb hby at_771) rfl (teq c683).2 ?_
        exact k_)
       have p685 : GF p e below _ T645 m 779 (oLI4R4I13u2 p1 p2 p3 p4 b102 b187 b200 b281 v8 v9 v10 v11 v12 v13 v14 v15 v16 v17 v18 (Int32.ofNat (0 + 3)) (if v17 = v8 then (if v18 = v9 then (1 : Int32) else (0 : Int32)) else (0 : Int32))) [(.int 1)] := fun t_ k_ => p684 t_ (by
        refine XS.iconst X645.here hx rfl (hb hby at_774) ?_
        refine XS.goto X645.here hx rfl (pc0 := 775) (pc' := 779) rfl (hb hby at_775) (by decide) (by decide) ?_
        exact k_)
       simp only [if_pos c680, if_pos c683]; exact p685
      ·have p686 : GF p e below _ T645 m 778 (oLI4R4I13u2 p1 p2 p3 p4 b102 b187 b200 b281 v8 v9 v10 v11 v12 v13 v14 v15 v16 v17 v18 (Int32.ofNat (0 + 3)) (if v17 = v8 then (if v18 = v9 then (1 : Int32) else (0 : Int32)) else (0 : Int32))) [] := fun t_ k_ => p682 t_ (by
        refine XS.icmpYes X645.here hx rfl (pc0 := 771) (pc' := 778) rfl (hb hby at_771) rfl (feq c683).2 (by decide) (by decide) ?_
        exact k_)
       have p687 : GF p e below _ T645 m 779 (oLI4R4I13u2 p1 p2 p3 p4 b102 b187 b200 b281 v8 v9 v10 v11 v12 v13 v14 v15 v16 v17 v18 (Int32.ofNat (0 + 3)) (if v17 = v8 then (if v18 = v9 then (1 : Int32) else (0 : Int32)) else (0 : Int32))) [(.int 0)] := fun t_ k_ => p686 t_ (by
        refine XS.iconst X645.here hx rfl (hb hby at_778) ?_
        exact k_)
       simp only [if_pos c680, if_neg c683]; exact p687
     ·have p688 : GF p e below _ T645 m 778 (oLI4R4I13u2 p1 p2 p3 p4 b102 b187 b200 b281 v8 v9 v10 v11 v12 v13 v14 v15 v16 v17 v18 (Int32.ofNat (0 + 3)) (if v17 = v8 then (if v18 = v9 then (1 : Int32) else (0 : Int32)) else (0 : Int32))) [] := fun t_ k_ => p679 t_ (by
       refine XS.icmpYes X645.here hx rfl (pc0 := 764) (pc' := 778) rfl (hb hby at_764) rfl (feq c680).2 (by decide) (by decide) ?_
       exact k_)
      have p689 : GF p e below _ T645 m 779 (oLI4R4I13u2 p1 p2 p3 p4 b102 b187 b200 b281 v8 v9 v10 v11 v12 v13 v14 v15 v16 v17 v18 (Int32.ofNat (0 + 3)) (if v17 = v8 then (if v18 = v9 then (1 : Int32) else (0 : Int32)) else (0 : Int32))) [(.int 0)] := fun t_ k_ => p688 t_ (by
       refine XS.iconst X645.here hx rfl (hb hby at_778) ?_
       exact k_)
      simp only [if_neg c680]; exact p689
    have p691 : GF p e below _ T645 m 783 (oLI4R4I14u p1 p2 p3 p4 b102 b187 b200 b281 v8 v9 v10 v11 v12 v13 v14 v15 v16 v17 v18 (Int32.ofNat (0 + 3)) (if v17 = v8 then (if v18 = v9 then (1 : Int32) else (0 : Int32)) else (0 : Int32)) (if v17 = v11 then (if v18 = v12 then (1 : Int32) else (0 : Int32)) else (0 : Int32))) [(.int (if v17 = v8 then (if v18 = v9 then (1 : Int32) else (0 : Int32)) else (0 : Int32)))] := fun t_ k_ => p690 t_ (by
     refine XS.istore X645.here hx rfl (hb hby at_779) rfl (l' := (oLI4R4I14u p1 p2 p3 p4 b102 b187 b200 b281 v8 v9 v10 v11 v12 v13 v14 v15 v16 v17 v18 (Int32.ofNat (0 + 3)) (if v17 = v8 then (if v18 = v9 then (1 : Int32) else (0 : Int32)) else (0 : Int32)) (if v17 = v11 then (if v18 = v12 then (1 : Int32) else (0 : Int32)) else (0 : Int32)))) rfl ?_
     refine XS.iload X645.here hx rfl (hb hby at_781) rfl ?_
     exact k_)
    have p702 : GF p e below (s₁.setTop (entryFrame m #[(.int p1), (.int p2), (.int p3), (.int p4)] maxLocals)) T645 m 796 (oLI4R4I14u p1 p2 p3 p4 b102 b187 b200 b281 v8 v9 v10 v11 v12 v13 v14 v15 v16 v17 v18 (Int32.ofNat (0 + 3)) (if v17 = v8 then (if v18 = v9 then (1 : Int32) else (0 : Int32)) else (0 : Int32)) (if v17 = v11 then (if v18 = v12 then (1 : Int32) else (0 : Int32)) else (0 : Int32))) [(.int (if (if v17 = v8 then (if v18 = v9 then (1 : Int32) else (0 : Int32)) else (0 : Int32)) = (0 : Int32) then (if (if v17 = v11 then (if v18 = v12 then (1 : Int32) else (0 : Int32)) else (0 : Int32)) = (0 : Int32) then (1 : Int32) else (0 : Int32)) else (0 : Int32)))] := by
     by_cases c692 : (if v17 = v8 then (if v18 = v9 then (1 : Int32) else (0 : Int32)) else (0 : Int32)) = (0 : Int32)
     ·have p693 : GF p e below _ T645 m 786 (oLI4R4I14u p1 p2 p3 p4 b102 b187 b200 b281 v8 v9 v10 v11 v12 v13 v14 v15 v16 v17 v18 (Int32.ofNat (0 + 3)) (if v17 = v8 then (if v18 = v9 then (1 : Int32) else (0 : Int32)) else (0 : Int32)) (if v17 = v11 then (if v18 = v12 then (1 : Int32) else (0 : Int32)) else (0 : Int32))) [] := fun t_ k_ => p691 t_ (by
       refine XS.ifNo X645.here hx rfl (hb hby at_783) rfl ((if0 _ _).trans (teq c692).2) ?_
       exact k_)
      have p694 : GF p e below _ T645 m 788 (oLI4R4I14u p1 p2 p3 p4 b102 b187 b200 b281 v8 v9 v10 v11 v12 v13 v14 v15 v16 v17 v18 (Int32.ofNat (0 + 3)) (if v17 = v8 then (if v18 = v9 then (1 : Int32) else (0 : Int32)) else (0 : Int32)) (if v17 = v11 then (if v18 = v12 then (1 : Int32) else (0 : Int32)) else (0 : Int32))) [(.int (if v17 = v11 then (if v18 = v12 then (1 : Int32) else (0 : Int32)) else (0 : Int32)))] := fun t_ k_ => p693 t_ (by
       refine XS.iload X645.here hx rfl (hb hby at_786) rfl ?_
       exact k_)
      by_cases c695 : (if v17 = v11 then (if v18 = v12 then (1 : Int32) else (0 : Int32)) else (0 : Int32)) = (0 : Int32)
      ·have p696 : GF p e below _ T645 m 791 (oLI4R4I14u p1 p2 p3 p4 b102 b187 b200 b281 v8 v9 v10 v11 v12 v13 v14 v15 v16 v17 v18 (Int32.ofNat (0 + 3)) (if v17 = v8 then (if v18 = v9 then (1 : Int32) else (0 : Int32)) else (0 : Int32)) (if v17 = v11 then (if v18 = v12 then (1 : Int32) else (0 : Int32)) else (0 : Int32))) [] := fun t_ k_ => p694 t_ (by
        refine XS.ifNo X645.here hx rfl (hb hby at_788) rfl ((if0 _ _).trans (teq c695).2) ?_
        exact k_)
       have p697 : GF p e below _ T645 m 796 (oLI4R4I14u p1 p2 p3 p4 b102 b187 b200 b281 v8 v9 v10 v11 v12 v13 v14 v15 v16 v17 v18 (Int32.ofNat (0 + 3)) (if v17 = v8 then (if v18 = v9 then (1 : Int32) else (0 : Int32)) else (0 : Int32)) (if v17 = v11 then (if v18 = v12 then (1 : Int32) else (0 : Int32)) else (0 : Int32))) [(.int 1)] := fun t_ k_ => p696 t_ (by
        refine XS.iconst X645.here hx rfl (hb hby at_791) ?_
        refine XS.goto X645.here hx rfl (pc0 := 792) (pc' := 796) rfl (hb hby at_792) (by decide) (by decide) ?_
        exact k_)
       simp only [if_pos c692, if_pos c695]; exact p697
      ·have p698 : GF p e below _ T645 m 795 (oLI4R4I14u p1 p2 p3 p4 b102 b187 b200 b281 v8 v9 v10 v11 v12 v13 v14 v15 v16 v17 v18 (Int32.ofNat (0 + 3)) (if v17 = v8 then (if v18 = v9 then (1 : Int32) else (0 : Int32)) else (0 : Int32)) (if v17 = v11 then (if v18 = v12 then (1 : Int32) else (0 : Int32)) else (0 : Int32))) [] := fun t_ k_ => p694 t_ (by
        refine XS.ifYes X645.here hx rfl (pc0 := 788) (pc' := 795) rfl (hb hby at_788) rfl ((if0 _ _).trans (feq c695).2) (by decide) (by decide) ?_
        exact k_)
       have p699 : GF p e below _ T645 m 796 (oLI4R4I14u p1 p2 p3 p4 b102 b187 b200 b281 v8 v9 v10 v11 v12 v13 v14 v15 v16 v17 v18 (Int32.ofNat (0 + 3)) (if v17 = v8 then (if v18 = v9 then (1 : Int32) else (0 : Int32)) else (0 : Int32)) (if v17 = v11 then (if v18 = v12 then (1 : Int32) else (0 : Int32)) else (0 : Int32))) [(.int 0)] := fun t_ k_ => p698 t_ (by
        refine XS.iconst X645.here hx rfl (hb hby at_795) ?_
        exact k_)
       simp only [if_pos c692, if_neg c695]; exact p699
     ·have p700 : GF p e below _ T645 m 795 (oLI4R4I14u p1 p2 p3 p4 b102 b187 b200 b281 v8 v9 v10 v11 v12 v13 v14 v15 v16 v17 v18 (Int32.ofNat (0 + 3)) (if v17 = v8 then (if v18 = v9 then (1 : Int32) else (0 : Int32)) else (0 : Int32)) (if v17 = v11 then (if v18 = v12 then (1 : Int32) else (0 : Int32)) else (0 : Int32))) [] := fun t_ k_ => p691 t_ (by
       refine XS.ifYes X645.here hx rfl (pc0 := 783) (pc' := 795) rfl (hb hby at_783) rfl ((if0 _ _).trans (feq c692).2) (by decide) (by decide) ?_
       exact k_)
      have p701 : GF p e below _ T645 m 796 (oLI4R4I14u p1 p2 p3 p4 b102 b187 b200 b281 v8 v9 v10 v11 v12 v13 v14 v15 v16 v17 v18 (Int32.ofNat (0 + 3)) (if v17 = v8 then (if v18 = v9 then (1 : Int32) else (0 : Int32)) else (0 : Int32)) (if v17 = v11 then (if v18 = v12 then (1 : Int32) else (0 : Int32)) else (0 : Int32))) [(.int 0)] := fun t_ k_ => p700 t_ (by
       refine XS.iconst X645.here hx rfl (hb hby at_795) ?_
       exact k_)
      simp only [if_neg c692]; exact p701
    have p703 : GF p e below _ T645 m 804 (oLI4R4I15 p1 p2 p3 p4 b102 b187 b200 b281 v8 v9 v10 v11 v12 v13 v14 v15 v16 v17 v18 (Int32.ofNat (0 + 3)) (if v17 = v8 then (if v18 = v9 then (1 : Int32) else (0 : Int32)) else (0 : Int32)) (if v17 = v11 then (if v18 = v12 then (1 : Int32) else (0 : Int32)) else (0 : Int32)) (if (if v17 = v8 then (if v18 = v9 then (1 : Int32) else (0 : Int32)) else (0 : Int32)) = (0 : Int32) then (if (if v17 = v11 then (if v18 = v12 then (1 : Int32) else (0 : Int32)) else (0 : Int32)) = (0 : Int32) then (1 : Int32) else (0 : Int32)) else (0 : Int32))) [(.int v18), (.int v17), (.ref b281)] := fun t_ k_ => p702 t_ (by
     refine XS.istore X645.here hx rfl (hb hby at_796) rfl (l' := (oLI4R4I15 p1 p2 p3 p4 b102 b187 b200 b281 v8 v9 v10 v11 v12 v13 v14 v15 v16 v17 v18 (Int32.ofNat (0 + 3)) (if v17 = v8 then (if v18 = v9 then (1 : Int32) else (0 : Int32)) else (0 : Int32)) (if v17 = v11 then (if v18 = v12 then (1 : Int32) else (0 : Int32)) else (0 : Int32)) (if (if v17 = v8 then (if v18 = v9 then (1 : Int32) else (0 : Int32)) else (0 : Int32)) = (0 : Int32) then (if (if v17 = v11 then (if v18 = v12 then (1 : Int32) else (0 : Int32)) else (0 : Int32)) = (0 : Int32) then (1 : Int32) else (0 : Int32)) else (0 : Int32)))) rfl ?_
     refine XS.aload X645.here hx rfl (hb hby at_798) rfl rfl ?_
     refine XS.iload X645.here hx rfl (hb hby at_800) rfl ?_
     refine XS.iload X645.here hx rfl (hb hby at_802) rfl ?_
     exact k_)
    obtain ⟨cq704, kq704, q704a, q704b, q704c⟩ := isOf hZ251 rfl q645_F0
    obtain ⟨_, _, ⟨T704, L704, k704, n704⟩, -, X704, ⟨Lc704, hQ704, l704, y704, z704⟩, st704⟩ := X645.virtualBack hx (y := oM6) (z := oM6) hown251 (mvT hZ251 (own_w hw 309 rfl)) (mvT hZ251 (own_w hw 310 rfl)) (notFace_of_selects (args := #[]) (mvT hZ251 (own_w hw 312 rfl))) (mvT hZ251 (own_w hw 312 rfl)) (mvT hZ251 (own_w hw 311 rfl)) (by decide) (backOf (W := 0) (rm38 l Z a0 hw [] b281 x359 x363 x364 x367 x371 x372 x646 x647 x648 v17 v18 T645.heap n0 (Nat.le_trans Z0 K657.1) q645_F3 q645_F10 q645_F14 q645_F15 hdq) hZ251 (own_w hw 313 rfl) (own_w hw 91 rfl) (by decide) (by decide)) q704a q704c (g := (mkF m 804 (oLI4R4I15 p1 p2 p3 p4 b102 b187 b200 b281 v8 v9 v10 v11 v12 v13 v14 v15 v16 v17 v18 (Int32.ofNat (0 + 3)) (if v17 = v8 then (if v18 = v9 then (1 : Int32) else (0 : Int32)) else (0 : Int32)) (if v17 = v11 then (if v18 = v12 then (1 : Int32) else (0 : Int32)) else (0 : Int32)) (if (if v17 = v8 then (if v18 = v9 then (1 : Int32) else (0 : Int32)) else (0 : Int32)) = (0 : Int32) then (if (if v17 = v11 then (if v18 = v12 then (1 : Int32) else (0 : Int32)) else (0 : Int32)) = (0 : Int32) then (1 : Int32) else (0 : Int32)) else (0 : Int32))) [(.int v18), (.int v17), (.ref b281)])) rfl (by rw [hml]; rfl) (Steps.refl _) (argsL := [(.int v17), (.int v18)]) (rest := []) (lenOf pd24 rfl) rfl (by show 2 * 0 + _ ≤ _; exact Nat.le_of_eq rfl) (hb hby at_804) (fun _ _ => ⟨rfl, rfl, (by decide : 26 + 0 ≤ _), (by decide : 309 + 0 ≤ _)⟩)
    dsimp only [Pt.U, Pt.locs, Pt.cells, Pt.slots] at X704 l704 y704 z704 st704 hQ704
    subst l704 y704 z704
    obtain ⟨rfl, N704q, q704_hh⟩ := hQ704
    have N704 := Fr.app N645 N704q
    have p705 : GF p e below _ T704 m 809 (oLI4R4I15 p1 p2 p3 p4 b102 b187 b200 b281 v8 v9 v10 v11 v12 v13 v14 v15 v16 v17 v18 (Int32.ofNat (0 + 3)) (if v17 = v8 then (if v18 = v9 then (1 : Int32) else (0 : Int32)) else (0 : Int32)) (if v17 = v11 then (if v18 = v12 then (1 : Int32) else (0 : Int32)) else (0 : Int32)) (if (if v17 = v8 then (if v18 = v9 then (1 : Int32) else (0 : Int32)) else (0 : Int32)) = (0 : Int32) then (if (if v17 = v11 then (if v18 = v12 then (1 : Int32) else (0 : Int32)) else (0 : Int32)) = (0 : Int32) then (1 : Int32) else (0 : Int32)) else (0 : Int32))) [(.int (if (if v17 = v8 then (if v18 = v9 then (1 : Int32) else (0 : Int32)) else (0 : Int32)) = (0 : Int32) then (if (if v17 = v11 then (if v18 = v12 then (1 : Int32) else (0 : Int32)) else (0 : Int32)) = (0 : Int32) then (1 : Int32) else (0 : Int32)) else (0 : Int32))), (.int (own_cn x646 x647 x648 v17 v18))] := fun t_ k_ => (gcT p703 st704) t_ (by
     refine XS.iload X704.here hx rfl (hb hby at_807) rfl ?_
     exact k_)
    have hbt : own_bit x646 x647 x648 v17 v18 = ((true && !(decide (v17 = v8) && decide (v18 = v9))) && !(decide (v17 = v11) && decide (v18 = v12))) := by rw [q645_off _ _ hdq, q561_off _ _ hdq, own_full _ _ hdq]
    have c706 : ((own_cn x646 x647 x648 v17 v18) = (if (if v17 = v8 then (if v18 = v9 then (1 : Int32) else (0 : Int32)) else (0 : Int32)) = (0 : Int32) then (if (if v17 = v11 then (if v18 = v12 then (1 : Int32) else (0 : Int32)) else (0 : Int32)) = (0 : Int32) then (1 : Int32) else (0 : Int32)) else (0 : Int32))) := own_y2 hbt
    have p707 : GF p e below _ T704 m 817 (oLI4R4I15 p1 p2 p3 p4 b102 b187 b200 b281 v8 v9 v10 v11 v12 v13 v14 v15 v16 v17 v18 (Int32.ofNat (0 + 3)) (if v17 = v8 then (if v18 = v9 then (1 : Int32) else (0 : Int32)) else (0 : Int32)) (if v17 = v11 then (if v18 = v12 then (1 : Int32) else (0 : Int32)) else (0 : Int32)) (if (if v17 = v8 then (if v18 = v9 then (1 : Int32) else (0 : Int32)) else (0 : Int32)) = (0 : Int32) then (if (if v17 = v11 then (if v18 = v12 then (1 : Int32) else (0 : Int32)) else (0 : Int32)) = (0 : Int32) then (1 : Int32) else (0 : Int32)) else (0 : Int32))) [(.int 1)] := fun t_ k_ => p705 t_ (by
     refine XS.icmpNo X704.here hx rfl (hb hby at_809) rfl (teq c706).2 ?_
     refine XS.iconst X704.here hx rfl (hb hby at_812) ?_
     refine XS.goto X704.here hx rfl (pc0 := 813) (pc' := 817) rfl (hb hby at_813) (by decide) (by decide) ?_
     exact k_)
    have f708 := (Nat.le_trans (Nat.le_trans (Nat.le_trans (Nat.le_trans (Nat.le_trans (Nat.le_trans (Nat.le_trans (Nat.le_trans (Nat.le_trans (Nat.le_trans kb251 q268_K.1) q278_K.1) E281.1) E290.1) E301.1) q314_K.1) q337_K.1) q357_K.1) q561_K.1) q645_K.1)
    obtain ⟨fs, hr, hrun, hended, hRW⟩ := X704.leaveW (s := s) S251 (by rw [q704_hh]; exact f708) (v := some (.int 1)) (fun h => by rw [Bd.returns] at h; cases h)
    refine ⟨_, _, p707 _ (retN X704 hx (t := .boolean) Bd.returns (by simp) (hb hby at_817) hr), hrun, hended, _, _, rfl, ?_, hRW.1, hRW.2.1, hRW.2.2.1, hRW.2.2.2.mono (by decide) (by decide)⟩
    show Q0 Z p1 p2 p3 p4 de kde el ea kea em mr h0 n0 _ T704.heap _
    rw [q704_hh]
    exact ⟨rfl, N704⟩
   ·have p709 : GF p e below _ T645 m 717 (oLI4R4I12u3 p1 p2 p3 p4 b102 b187 b200 b281 v8 v9 v10 v11 v12 v13 v14 v15 v16 v17 v18 (Int32.ofNat (0 + 3))) [] := fun t_ k_ => p658 t_ (by
     refine XS.ifNo X645.here hx rfl (hb hby at_714) rfl ((if0 _ _).trans (feq c659).1) ?_
     exact k_)
    have p710 : GF p e below _ T645 m 721 (oLI4R4I12u3 p1 p2 p3 p4 b102 b187 b200 b281 v8 v9 v10 v11 v12 v13 v14 v15 v16 v17 v18 (Int32.ofNat (0 + 3))) [(.int (Int32.ofNat (0 + 3))), (.ref b281)] := fun t_ k_ => p709 t_ (by
     refine XS.aload X645.here hx rfl (hb hby at_717) rfl rfl ?_
     refine XS.iload X645.here hx rfl (hb hby at_719) rfl ?_
     exact k_)
    obtain ⟨cq711, kq711, q711a, q711b, q711c⟩ := isOf hZ251 rfl q645_F0
    obtain ⟨_, _, ⟨T711, L711, k711, n711⟩, -, X711, ⟨Lc711, hQ711, l711, y711, z711⟩, st711⟩ := X645.virtualBack hx (y := oM11) (z := oM11) hown251 (mvT hZ251 (own_w hw 314 rfl)) (mvT hZ251 (own_w hw 315 rfl)) (notFace_of_selects (args := #[]) (mvT hZ251 (own_w hw 317 rfl))) (mvT hZ251 (own_w hw 317 rfl)) (mvT hZ251 (own_w hw 316 rfl)) (by decide) (backOf (W := 0) (rm39_1 l Z a0 hw [] b281 x358 x359 x360 x361 x362 x363 x364 x365 x366 x367 x368 x369 x370 x371 x372 x646 x647 x648 x649 x650 x651 x652 x653 x654 x656 (0 + 3) x655 v11 v12 (Int32.ofNat (0 + 3)) T645.heap n0 (Nat.le_trans Z0 K657.1) q645_F0 q645_F1 q645_F2 q645_F3 q645_F4 q645_F5 q645_F6 q645_F7 q645_F8 q645_F9 q645_F10 q645_F11 q645_F12 q645_F13 q645_F14 q645_F15 q357_nd q357_ge q645_M (by decide) q645_T hd2 rfl) hZ251 (own_w hw 318 rfl) (own_w hw 91 rfl) (by decide) (by decide)) q711a q711c (g := (mkF m 721 (oLI4R4I12u3 p1 p2 p3 p4 b102 b187 b200 b281 v8 v9 v10 v11 v12 v13 v14 v15 v16 v17 v18 (Int32.ofNat (0 + 3))) [(.int (Int32.ofNat (0 + 3))), (.ref b281)])) rfl (by rw [hml]; rfl) (Steps.refl _) (argsL := [(.int (Int32.ofNat (0 + 3)))]) (rest := []) (lenOf pd18 rfl) rfl (by show 2 * 0 + _ ≤ _; exact Nat.le_of_eq rfl) (hb hby at_721) (fun _ _ => ⟨rfl, rfl, (by decide : 26 + 0 ≤ _), (by decide : 309 + 0 ≤ _)⟩)
    dsimp only [Pt.U, Pt.locs, Pt.cells, Pt.slots] at X711 l711 y711 z711 st711 hQ711
    subst l711 y711 z711
    obtain ⟨x712, x713, x714, x715, x716, x717, x718, x719, x720, x721, rfl, N711q, q711_K, q711_F0, q711_F1, q711_F2, q711_F3, q711_F4, q711_F5, q711_F6, q711_F7, q711_F8, q711_F9, q711_F10, q711_F11, q711_F12, q711_F13, q711_F14, q711_F15, q711_M, q711_on⟩ := hQ711
    have N711 := Fr.app N645 N711q
    have K722 : Keep h0 T711.heap [] := K657.trans q711_K (allS (Or.inr sz_b281) (allS (Or.inr (Nat.le_trans K339.1 q357_sz.2.2.1)) (allS (Or.inr (Nat.le_trans K339.1 q357_sz.2.2.2.1)) (allS (Or.inr (Nat.le_trans K339.1 q357_sz.2.2.2.2.1)) (allS (Or.inr (Nat.le_trans K339.1 q357_sz.2.2.2.2.2.1)) (allS (Or.inr (Nat.le_trans K339.1 q357_sz.2.2.2.2.2.2)) all0))))))
    have p723 : GF p e below _ T711 m 726 (oLI4R4I12u3 p1 p2 p3 p4 b102 b187 b200 b281 v8 v9 v10 v11 v12 v13 v14 v15 v16 v17 v18 (Int32.ofNat (0 + 3))) [(.int v10)] := fun t_ k_ => (gcT p710 st711) t_ (by
     refine XS.iload X711.here hx rfl (hb hby at_724) rfl ?_
     exact k_)
    have c724 : ¬ (v10 = (0 : Int32)) := c451
    have p725 : GF p e below _ T711 m 733 (oLI4R4I12u3 p1 p2 p3 p4 b102 b187 b200 b281 v8 v9 v10 v11 v12 v13 v14 v15 v16 v17 v18 (Int32.ofNat (0 + 3))) [(.int v8), (.int v17)] := fun t_ k_ => p723 t_ (by
     refine XS.ifNo X711.here hx rfl (hb hby at_726) rfl ((if0 _ _).trans (feq c724).1) ?_
     refine XS.iload X711.here hx rfl (hb hby at_729) rfl ?_
     refine XS.iload X711.here hx rfl (hb hby at_731) rfl ?_
     exact k_)
    have p736 : GF p e below (s₁.setTop (entryFrame m #[(.int p1), (.int p2), (.int p3), (.int p4)] maxLocals)) T711 m 748 (oLI4R4I12u3 p1 p2 p3 p4 b102 b187 b200 b281 v8 v9 v10 v11 v12 v13 v14 v15 v16 v17 v18 (Int32.ofNat (0 + 3))) [(.int (if v17 = v8 then (if v18 = v9 then (1 : Int32) else (0 : Int32)) else (0 : Int32)))] := by
     by_cases c726 : v17 = v8
     ·have p727 : GF p e below _ T711 m 736 (oLI4R4I12u3 p1 p2 p3 p4 b102 b187 b200 b281 v8 v9 v10 v11 v12 v13 v14 v15 v16 v17 v18 (Int32.ofNat (0 + 3))) [] := fun t_ k_ => p725 t_ (by
       refine XS.icmpNo X711.here hx rfl (hb hby at_733) rfl (teq c726).2 ?_
       exact k_)
      have p728 : GF p e below _ T711 m 740 (oLI4R4I12u3 p1 p2 p3 p4 b102 b187 b200 b281 v8 v9 v10 v11 v12 v13 v14 v15 v16 v17 v18 (Int32.ofNat (0 + 3))) [(.int v9), (.int v18)] := fun t_ k_ => p727 t_ (by
       refine XS.iload X711.here hx rfl (hb hby at_736) rfl ?_
       refine XS.iload X711.here hx rfl (hb hby at_738) rfl ?_
       exact k_)
      by_cases c729 : v18 = v9
      ·have p730 : GF p e below _ T711 m 743 (oLI4R4I12u3 p1 p2 p3 p4 b102 b187 b200 b281 v8 v9 v10 v11 v12 v13 v14 v15 v16 v17 v18 (Int32.ofNat (0 + 3))) [] := fun t_ k_ => p728 t_ (by
        refine XS.icmpNo X711.here hx rfl (hb hby at_740) rfl (teq c729).2 ?_
        exact k_)
       have p731 : GF p e below _ T711 m 748 (oLI4R4I12u3 p1 p2 p3 p4 b102 b187 b200 b281 v8 v9 v10 v11 v12 v13 v14 v15 v16 v17 v18 (Int32.ofNat (0 + 3))) [(.int 1)] := fun t_ k_ => p730 t_ (by
        refine XS.iconst X711.here hx rfl (hb hby at_743) ?_
        refine XS.goto X711.here hx rfl (pc0 := 744) (pc' := 748) rfl (hb hby at_744) (by decide) (by decide) ?_
        exact k_)
       simp only [if_pos c726, if_pos c729]; exact p731
      ·have p732 : GF p e below _ T711 m 747 (oLI4R4I12u3 p1 p2 p3 p4 b102 b187 b200 b281 v8 v9 v10 v11 v12 v13 v14 v15 v16 v17 v18 (Int32.ofNat (0 + 3))) [] := fun t_ k_ => p728 t_ (by
        refine XS.icmpYes X711.here hx rfl (pc0 := 740) (pc' := 747) rfl (hb hby at_740) rfl (feq c729).2 (by decide) (by decide) ?_
        exact k_)
       have p733 : GF p e below _ T711 m 748 (oLI4R4I12u3 p1 p2 p3 p4 b102 b187 b200 b281 v8 v9 v10 v11 v12 v13 v14 v15 v16 v17 v18 (Int32.ofNat (0 + 3))) [(.int 0)] := fun t_ k_ => p732 t_ (by
        refine XS.iconst X711.here hx rfl (hb hby at_747) ?_
        exact k_)
       simp only [if_pos c726, if_neg c729]; exact p733
     ·have p734 : GF p e below _ T711 m 747 (oLI4R4I12u3 p1 p2 p3 p4 b102 b187 b200 b281 v8 v9 v10 v11 v12 v13 v14 v15 v16 v17 v18 (Int32.ofNat (0 + 3))) [] := fun t_ k_ => p725 t_ (by
       refine XS.icmpYes X711.here hx rfl (pc0 := 733) (pc' := 747) rfl (hb hby at_733) rfl (feq c726).2 (by decide) (by decide) ?_
       exact k_)
      have p735 : GF p e below _ T711 m 748 (oLI4R4I12u3 p1 p2 p3 p4 b102 b187 b200 b281 v8 v9 v10 v11 v12 v13 v14 v15 v16 v17 v18 (Int32.ofNat (0 + 3))) [(.int 0)] := fun t_ k_ => p734 t_ (by
       refine XS.iconst X711.here hx rfl (hb hby at_747) ?_
       exact k_)
      simp only [if_neg c726]; exact p735
    have p737 : GF p e below _ T711 m 752 (oLI4R4I13u2 p1 p2 p3 p4 b102 b187 b200 b281 v8 v9 v10 v11 v12 v13 v14 v15 v16 v17 v18 (Int32.ofNat (0 + 3)) (if v17 = v8 then (if v18 = v9 then (1 : Int32) else (0 : Int32)) else (0 : Int32))) [(.int v14)] := fun t_ k_ => p736 t_ (by
     refine XS.istore X711.here hx rfl (hb hby at_748) rfl (l' := (oLI4R4I13u2 p1 p2 p3 p4 b102 b187 b200 b281 v8 v9 v10 v11 v12 v13 v14 v15 v16 v17 v18 (Int32.ofNat (0 + 3)) (if v17 = v8 then (if v18 = v9 then (1 : Int32) else (0 : Int32)) else (0 : Int32)))) rfl ?_
     refine XS.iload X711.here hx rfl (hb hby at_750) rfl ?_
     exact k_)
    have c738 : ¬ (v14 = (0 : Int32)) := c577
    have p739 : GF p e below _ T711 m 757 (oLI4R4I13u2 p1 p2 p3 p4 b102 b187 b200 b281 v8 v9 v10 v11 v12 v13 v14 v15 v16 v17 v18 (Int32.ofNat (0 + 3)) (if v17 = v8 then (if v18 = v9 then (1 : Int32) else (0 : Int32)) else (0 : Int32))) [(.int v15)] := fun t_ k_ => p737 t_ (by
     refine XS.ifNo X711.here hx rfl (hb hby at_752) rfl ((if0 _ _).trans (feq c738).1) ?_
     refine XS.iload X711.here hx rfl (hb hby at_755) rfl ?_
     exact k_)
    have c740 : ¬ (v15 = (0 : Int32)) := c659
    have p741 : GF p e below _ T711 m 783 (oLI4R4I14u p1 p2 p3 p4 b102 b187 b200 b281 v8 v9 v10 v11 v12 v13 v14 v15 v16 v17 v18 (Int32.ofNat (0 + 3)) (if v17 = v8 then (if v18 = v9 then (1 : Int32) else (0 : Int32)) else (0 : Int32)) 0) [(.int (if v17 = v8 then (if v18 = v9 then (1 : Int32) else (0 : Int32)) else (0 : Int32)))] := fun t_ k_ => p739 t_ (by
     refine XS.ifYes X711.here hx rfl (pc0 := 757) (pc' := 778) rfl (hb hby at_757) rfl ((if0 _ _).trans (feq c740).2) (by decide) (by decide) ?_
     refine XS.iconst X711.here hx rfl (hb hby at_778) ?_
     refine XS.istore X711.here hx rfl (hb hby at_779) rfl (l' := (oLI4R4I14u p1 p2 p3 p4 b102 b187 b200 b281 v8 v9 v10 v11 v12 v13 v14 v15 v16 v17 v18 (Int32.ofNat (0 + 3)) (if v17 = v8 then (if v18 = v9 then (1 : Int32) else (0 : Int32)) else (0 : Int32)) 0)) rfl ?_
     refine XS.iload X711.here hx rfl (hb hby at_781) rfl ?_
     exact k_)
    have p747 : GF p e below (s₁.setTop (entryFrame m #[(.int p1), (.int p2), (.int p3), (.int p4)] maxLocals)) T711 m 796 (oLI4R4I14u p1 p2 p3 p4 b102 b187 b200 b281 v8 v9 v10 v11 v12 v13 v14 v15 v16 v17 v18 (Int32.ofNat (0 + 3)) (if v17 = v8 then (if v18 = v9 then (1 : Int32) else (0 : Int32)) else (0 : Int32)) 0) [(.int (if (if v17 = v8 then (if v18 = v9 then (1 : Int32) else (0 : Int32)) else (0 : Int32)) = (0 : Int32) then (1 : Int32) else (0 : Int32)))] := by
     by_cases c742 : (if v17 = v8 then (if v18 = v9 then (1 : Int32) else (0 : Int32)) else (0 : Int32)) = (0 : Int32)
     ·have p743 : GF p e below _ T711 m 786 (oLI4R4I14u p1 p2 p3 p4 b102 b187 b200 b281 v8 v9 v10 v11 v12 v13 v14 v15 v16 v17 v18 (Int32.ofNat (0 + 3)) (if v17 = v8 then (if v18 = v9 then (1 : Int32) else (0 : Int32)) else (0 : Int32)) 0) [] := fun t_ k_ => p741 t_ (by
       refine XS.ifNo X711.here hx rfl (hb hby at_783) rfl ((if0 _ _).trans (teq c742).2) ?_
       exact k_)
      have p744 : GF p e below _ T711 m 796 (oLI4R4I14u p1 p2 p3 p4 b102 b187 b200 b281 v8 v9 v10 v11 v12 v13 v14 v15 v16 v17 v18 (Int32.ofNat (0 + 3)) (if v17 = v8 then (if v18 = v9 then (1 : Int32) else (0 : Int32)) else (0 : Int32)) 0) [(.int 1)] := fun t_ k_ => p743 t_ (by
       refine XS.iload X711.here hx rfl (hb hby at_786) rfl ?_
       refine XS.ifNo X711.here hx rfl (hb hby at_788) rfl ((if0 _ _).trans (teq (by decide : ((0 : Int32) = (0 : Int32)))).2) ?_
       refine XS.iconst X711.here hx rfl (hb hby at_791) ?_
       refine XS.goto X711.here hx rfl (pc0 := 792) (pc' := 796) rfl (hb hby at_792) (by decide) (by decide) ?_
       exact k_)
      simp only [if_pos c742]; exact p744
     ·have p745 : GF p e below _ T711 m 795 (oLI4R4I14u p1 p2 p3 p4 b102 b187 b200 b281 v8 v9 v10 v11 v12 v13 v14 v15 v16 v17 v18 (Int32.ofNat (0 + 3)) (if v17 = v8 then (if v18 = v9 then (1 : Int32) else (0 : Int32)) else (0 : Int32)) 0) [] := fun t_ k_ => p741 t_ (by
       refine XS.ifYes X711.here hx rfl (pc0 := 783) (pc' := 795) rfl (hb hby at_783) rfl ((if0 _ _).trans (feq c742).2) (by decide) (by decide) ?_
       exact k_)
      have p746 : GF p e below _ T711 m 796 (oLI4R4I14u p1 p2 p3 p4 b102 b187 b200 b281 v8 v9 v10 v11 v12 v13 v14 v15 v16 v17 v18 (Int32.ofNat (0 + 3)) (if v17 = v8 then (if v18 = v9 then (1 : Int32) else (0 : Int32)) else (0 : Int32)) 0) [(.int 0)] := fun t_ k_ => p745 t_ (by
       refine XS.iconst X711.here hx rfl (hb hby at_795) ?_
       exact k_)
      simp only [if_neg c742]; exact p746
    have p748 : GF p e below _ T711 m 804 (oLI4R4I15 p1 p2 p3 p4 b102 b187 b200 b281 v8 v9 v10 v11 v12 v13 v14 v15 v16 v17 v18 (Int32.ofNat (0 + 3)) (if v17 = v8 then (if v18 = v9 then (1 : Int32) else (0 : Int32)) else (0 : Int32)) 0 (if (if v17 = v8 then (if v18 = v9 then (1 : Int32) else (0 : Int32)) else (0 : Int32)) = (0 : Int32) then (1 : Int32) else (0 : Int32))) [(.int v18), (.int v17), (.ref b281)] := fun t_ k_ => p747 t_ (by
     refine XS.istore X711.here hx rfl (hb hby at_796) rfl (l' := (oLI4R4I15 p1 p2 p3 p4 b102 b187 b200 b281 v8 v9 v10 v11 v12 v13 v14 v15 v16 v17 v18 (Int32.ofNat (0 + 3)) (if v17 = v8 then (if v18 = v9 then (1 : Int32) else (0 : Int32)) else (0 : Int32)) 0 (if (if v17 = v8 then (if v18 = v9 then (1 : Int32) else (0 : Int32)) else (0 : Int32)) = (0 : Int32) then (1 : Int32) else (0 : Int32)))) rfl ?_
     refine XS.aload X711.here hx rfl (hb hby at_798) rfl rfl ?_
     refine XS.iload X711.here hx rfl (hb hby at_800) rfl ?_
     refine XS.iload X711.here hx rfl (hb hby at_802) rfl ?_
     exact k_)
    obtain ⟨cq749, kq749, q749a, q749b, q749c⟩ := isOf hZ251 rfl q711_F0
    obtain ⟨_, _, ⟨T749, L749, k749, n749⟩, -, X749, ⟨Lc749, hQ749, l749, y749, z749⟩, st749⟩ := X711.virtualBack hx (y := oM6) (z := oM6) hown251 (mvT hZ251 (own_w hw 309 rfl)) (mvT hZ251 (own_w hw 310 rfl)) (notFace_of_selects (args := #[]) (mvT hZ251 (own_w hw 312 rfl))) (mvT hZ251 (own_w hw 312 rfl)) (mvT hZ251 (own_w hw 311 rfl)) (by decide) (backOf (W := 0) (rm38 l Z a0 hw [] b281 x359 x363 x364 x367 x371 x372 x712 x713 x714 v17 v18 T711.heap n0 (Nat.le_trans Z0 K722.1) q711_F3 q711_F10 q711_F14 q711_F15 hdq) hZ251 (own_w hw 313 rfl) (own_w hw 91 rfl) (by decide) (by decide)) q749a q749c (g := (mkF m 804 (oLI4R4I15 p1 p2 p3 p4 b102 b187 b200 b281 v8 v9 v10 v11 v12 v13 v14 v15 v16 v17 v18 (Int32.ofNat (0 + 3)) (if v17 = v8 then (if v18 = v9 then (1 : Int32) else (0 : Int32)) else (0 : Int32)) 0 (if (if v17 = v8 then (if v18 = v9 then (1 : Int32) else (0 : Int32)) else (0 : Int32)) = (0 : Int32) then (1 : Int32) else (0 : Int32))) [(.int v18), (.int v17), (.ref b281)])) rfl (by rw [hml]; rfl) (Steps.refl _) (argsL := [(.int v17), (.int v18)]) (rest := []) (lenOf pd24 rfl) rfl (by show 2 * 0 + _ ≤ _; exact Nat.le_of_eq rfl) (hb hby at_804) (fun _ _ => ⟨rfl, rfl, (by decide : 26 + 0 ≤ _), (by decide : 309 + 0 ≤ _)⟩)
    dsimp only [Pt.U, Pt.locs, Pt.cells, Pt.slots] at X749 l749 y749 z749 st749 hQ749
    subst l749 y749 z749
    obtain ⟨rfl, N749q, q749_hh⟩ := hQ749
    have N749 := Fr.app N711 N749q
    have p750 : GF p e below _ T749 m 809 (oLI4R4I15 p1 p2 p3 p4 b102 b187 b200 b281 v8 v9 v10 v11 v12 v13 v14 v15 v16 v17 v18 (Int32.ofNat (0 + 3)) (if v17 = v8 then (if v18 = v9 then (1 : Int32) else (0 : Int32)) else (0 : Int32)) 0 (if (if v17 = v8 then (if v18 = v9 then (1 : Int32) else (0 : Int32)) else (0 : Int32)) = (0 : Int32) then (1 : Int32) else (0 : Int32))) [(.int (if (if v17 = v8 then (if v18 = v9 then (1 : Int32) else (0 : Int32)) else (0 : Int32)) = (0 : Int32) then (1 : Int32) else (0 : Int32))), (.int (own_cn x712 x713 x714 v17 v18))] := fun t_ k_ => (gcT p748 st749) t_ (by
     refine XS.iload X749.here hx rfl (hb hby at_807) rfl ?_
     exact k_)
    have hbt : own_bit x712 x713 x714 v17 v18 = (((true && !(decide (v17 = v8) && decide (v18 = v9))) && !(decide (v17 = v11) && decide (v18 = v12))) || (decide (v17 = v11) && decide (v18 = v12))) := by rw [q711_on _ _ hdq, q645_off _ _ hdq, q561_off _ _ hdq, own_full _ _ hdq]
    have c751 : ((own_cn x712 x713 x714 v17 v18) = (if (if v17 = v8 then (if v18 = v9 then (1 : Int32) else (0 : Int32)) else (0 : Int32)) = (0 : Int32) then (1 : Int32) else (0 : Int32))) := own_y4 hbt (fun d e ac => hsm c451 c577 ⟨d.symm.trans ac.1, e.symm.trans ac.2⟩)
    have p752 : GF p e below _ T749 m 817 (oLI4R4I15 p1 p2 p3 p4 b102 b187 b200 b281 v8 v9 v10 v11 v12 v13 v14 v15 v16 v17 v18 (Int32.ofNat (0 + 3)) (if v17 = v8 then (if v18 = v9 then (1 : Int32) else (0 : Int32)) else (0 : Int32)) 0 (if (if v17 = v8 then (if v18 = v9 then (1 : Int32) else (0 : Int32)) else (0 : Int32)) = (0 : Int32) then (1 : Int32) else (0 : Int32))) [(.int 1)] := fun t_ k_ => p750 t_ (by
     refine XS.icmpNo X749.here hx rfl (hb hby at_809) rfl (teq c751).2 ?_
     refine XS.iconst X749.here hx rfl (hb hby at_812) ?_
     refine XS.goto X749.here hx rfl (pc0 := 813) (pc' := 817) rfl (hb hby at_813) (by decide) (by decide) ?_
     exact k_)
    have f753 := (Nat.le_trans (Nat.le_trans (Nat.le_trans (Nat.le_trans (Nat.le_trans (Nat.le_trans (Nat.le_trans (Nat.le_trans (Nat.le_trans (Nat.le_trans (Nat.le_trans kb251 q268_K.1) q278_K.1) E281.1) E290.1) E301.1) q314_K.1) q337_K.1) q357_K.1) q561_K.1) q645_K.1) q711_K.1)
    obtain ⟨fs, hr, hrun, hended, hRW⟩ := X749.leaveW (s := s) S251 (by rw [q749_hh]; exact f753) (v := some (.int 1)) (fun h => by rw [Bd.returns] at h; cases h)
    refine ⟨_, _, p752 _ (retN X749 hx (t := .boolean) Bd.returns (by simp) (hb hby at_817) hr), hrun, hended, _, _, rfl, ?_, hRW.1, hRW.2.1, hRW.2.2.1, hRW.2.2.2.mono (by decide) (by decide)⟩
    show Q0 Z p1 p2 p3 p4 de kde el ea kea em mr h0 n0 _ T749.heap _
    rw [q749_hh]
    exact ⟨rfl, N749⟩
set_option maxRecDepth 65536 in
set_option maxHeartbeats 40000000 in
theorem comes_1 {Post : Tables → Env → Array Value → State → Outcome → State → Prop} (hpost : ∀ tb e args s v u, (limb_1_1.after args s (.returned v) u = true ∧ limb_1_2.after args s (.returned v) u = true ∧ True) → ReturnedEndW s (.returned v) u (Jvm.fieldLocs frame_1_writes args s ++ Jvm.arrayLocs frame_1_arrays args s ++ Jvm.staticLocs frame_1_statics s) 56 2752 → Post tb e args s (.returned v) u) :
    ArmFor flags0 classFile x code maxLocals ret World_1 tables_1 room_1 Calls_1 rest_1 Pre_1 Post := by
  intro l hfl _ _ p e ha hc hk s m args below hf hA hF happ hP
  obtain ⟨hcalls, hrest, hpre⟩ := hP
  obtain ⟨-, -, -, hnamed, -, -, -, hat⟩ := (Spec.applies_iff hf).mp happ
  obtain ⟨hg, hn⟩ := and_e (Cond.before_iff.mp (show (Jvm.Cond.and given_1 narrow_1).before args s = true from hpre))
  obtain ⟨ga, gb0⟩ := and_e hg
  obtain ⟨gi0, gb1⟩ := and_e gb0
  obtain ⟨gi1, gb2⟩ := and_e gb1
  obtain ⟨gi2, gb3⟩ := and_e gb2
  have gi3 := gb3
  obtain ⟨w0, w1, w2, w3, rfl⟩ : ∃ w0 w1 w2 w3 : Value, args = #[w0, w1, w2, w3] := by
    have hs : args.size = 4 := by simpa [Cond.value, given_1] using ga
    obtain ⟨L⟩ := args
    match L, hs with
    | [w0, w1, w2, w3], _ => exact ⟨w0, w1, w2, w3, rfl⟩
  have hw := fun d (hd : d ∈ tables_1) => atoms_spec (ws := Jvm.Cond.code x code maxLocals ret :: tables_1) hat d (List.mem_cons_of_mem _ hd)
  have hfit : Fit s := fun {y c} hc i hi => by
    obtain ⟨ha, rfl⟩ := Array.getElem?_eq_some_iff.mp hc
    have q := List.all_eq_true.mp ((Array.all_eq_true_iff_forall_mem.mp hF) _ (Array.getElem_mem ha)) i (List.mem_range.mpr hi)
    simpa [Array.getElem?_eq_getElem hi] using q
  obtain ⟨hsets, hown0⟩ := atoms_of _ (rest_1_c_eq ▸ (show rest_1_c.before _ s = true from hrest))
  have hr0 := Cond.before_iff.mp hown0
  obtain ⟨i0, ei0⟩ := is_v gi0
  obtain rfl : w0 = (.int i0) := Option.some.inj ei0
  obtain ⟨i1, ei1⟩ := is_v gi1
  obtain rfl : w1 = (.int i1) := Option.some.inj ei1
  obtain ⟨i2, ei2⟩ := is_v gi2
  obtain rfl : w2 = (.int i2) := Option.some.inj ei2
  obtain ⟨i3, ei3⟩ := is_v gi3
  obtain rfl : w3 = (.int i3) := Option.some.inj ei3
  obtain ⟨de, evd⟩ := exa_v (Cond.before_iff.mp (hsets _ (List.mem_of_getElem? (i := 7) rfl)))
  have Hd0 := Sta.start evd (Or.inr ⟨(own_w hw 3 rfl), (hsets _ (List.mem_of_getElem? (i := 2) rfl))⟩)
  have Hd1 := Exa.start evd (Cond.before_iff.mp (hsets _ (List.mem_of_getElem? (i := 7) rfl)))
  obtain ⟨cld, Ad⟩ := Arr.start evd (Cond.before_iff.mp (hsets _ (List.mem_of_getElem? (i := 6) rfl)))
  have Hd2 := arvOf hfit evd Ad (z := (0 : Int32)) (vs := []) (dv := .null) (eqInt (Cond.before_iff.mp (hsets _ (List.mem_of_getElem? (i := 8) rfl)))) (by decide) rfl trivial
  obtain ⟨el, evl⟩ := exa_v (Cond.before_iff.mp (hsets _ (List.mem_of_getElem? (i := 11) rfl)))
  have Hd3 := Sta.start evl (Or.inl (hsets _ (List.mem_of_getElem? (i := 10) rfl)))
  have Hd4 := Exa.start evl (Cond.before_iff.mp (hsets _ (List.mem_of_getElem? (i := 11) rfl)))
  obtain ⟨ea, eva⟩ := exa_v (Cond.before_iff.mp (hsets _ (List.mem_of_getElem? (i := 13) rfl)))
  have Hd5 := Fld.start ((fld_at evl).symm.trans eva)
  obtain ⟨cla, Aa⟩ := Arr.start eva (Cond.before_iff.mp (hsets _ (List.mem_of_getElem? (i := 12) rfl)))
  have Hd6 := arvOf hfit eva Aa (z := (0 : Int32)) (vs := []) (dv := .null) (eqInt (Cond.before_iff.mp (hsets _ (List.mem_of_getElem? (i := 14) rfl)))) (by decide) rfl trivial
  obtain ⟨em, evm⟩ := exa_v (Cond.before_iff.mp (hsets _ (List.mem_of_getElem? (i := 18) rfl)))
  have Hd7 := Sta.start evm (Or.inl (hsets _ (List.mem_of_getElem? (i := 17) rfl)))
  have Hd8 := (Exa.start evm (Cond.before_iff.mp (hsets _ (List.mem_of_getElem? (i := 18) rfl)))).lt
  obtain ⟨cm, km, mr, fm1, fm2, fm3, fm4⟩ := hcalls.1
  have Hd9 : Mir s "[Ljava/lang/Object;" mr := ⟨cm, km, fm1, fm2, fm3, fm4⟩
  obtain ⟨n, o, h1, h2, h3, _, L, rfl, ⟨rfl, N⟩, hq⟩ := rm0 l s _ hw tables_1 i0 i1 i2 i3 de cld.cls el ea cla.cls em mr s.heap s.heap.size (Nat.le_refl _) (Old.start s) ⟨Hd0, Hd1, Hd2, Hd3, Hd4, Hd5, Hd6, Hd7, Hd8, Hd9⟩ p e ha hc hk s m _ below hf ((Spec.applies_iff_loose hf).mp happ).1 ⟨rfl, State.Warmed39.refl s, rfl, IB.start⟩ trivial
  refine ⟨n, _, h1, h2, h3, hpost _ _ _ _ _ _ ⟨Cond.after_iff.mpr rfl, Cond.after_iff.mpr (eq_i res_at (Term.int_eval (1)) rfl), trivial⟩ ⟨hq.1, hq.2.1, hq.2.2.1, (hq.2.2.2.sift fun y hy => Or.inr (N y hy)).mono (by decide) (by decide)⟩⟩
theorem main_1_1 : Claimed_1_1 := comes_1 fun _ _ _ _ _ _ h hF => ⟨h.1, hF⟩
theorem main_1_2 : Claimed_1_2 := comes_1 fun _ _ _ _ _ _ h hF => ⟨h.2.1, hF⟩
end Jvm.Pilot.@@N@@
namespace Jvm.Pilot.@@N@@
open Jvm Jvm.ClassFile Sem Op Lib Jvm.Free Jvm.Stand Jvm.Pilot.@@N@@.Jvm.D
/-! MADE BY PROGRAM (witnessworld.py) out of the Statement's table words and the real class files: 42 classes; the members and pool entries that the words name. The judged class is class 1, her method 2. -/
namespace start1
open Jvm.ClassFile
def u (s : String) : CpInfo := .utf8 (stringToUtf16 s)
/-- a pool by its gaps: so many unusable entries, then the entry; so many at the end -/
def gap : Nat → List CpInfo → List CpInfo
  | 0, r => r
  | n + 1, r => .unusable :: gap n r
def poolList (es : List (Nat × CpInfo)) (last : Nat) : List CpInfo := es.foldr (fun e r => gap e.1 (e.2 :: r)) (gap last [])
def pool (es : List (Nat × CpInfo)) (last : Nat) : Array CpInfo := ⟨poolList es last⟩
def fileOf (pool : Array CpInfo) (this : Nat) (attrs : Array Attribute := #[]) (ms : Array MethodInfo := #[]) (fl : Nat := 33) (sup : Nat := 0) (ifs : Array Nat := #[]) (fds : Array FieldInfo := #[]) : ClassFile where
  minorVersion := 0
  majorVersion := 65
  constantPool := pool
  accessFlags := fl
  thisClass := this
  superClass := sup
  interfaces := ifs
  fields := fds
  methods := ms
  attributes := attrs
def plain (name : String) (sup : Option ClassId) : Class where
  name := name
  kind := .ordinary
  loader := none
  accessFlags := 33
  super := sup
  interfaces := #[]
  cf := none
  fields := #[]
  methods := #[]
  instanceTypes := #[]
  staticTypes := #[]
  resolved := #[]
  callSites := []
  init := .initialized
  statics := none
  mirror := none

def pool0 : Array CpInfo := pool [(5, u "<init>"), (0, u "()V"), (1, .class_ 10), (1, u "java/lang/Object"), (0, u "getClass"), (0, u "()Ljava/lang/Class;"), (83, u "clone"), (0, u "()Ljava/lang/Object;")] 26

def k0c0 : Code := { maxStack := 0, maxLocals := 1, code := object_method_1_code, exceptionTable := #[], attributes := #[] }
def k0m0 : Method := { name := "<init>", desc := "()V", sig := { parameters := [], returnType := none }, accessFlags := 1, code := some k0c0 }
def k0m1 : Method := { name := "getClass", desc := "()Ljava/lang/Class;", sig := { parameters := [], returnType := some (.object "java/lang/Class") }, accessFlags := 273, code := none }
def k0m2 : Method := { name := "clone", desc := "()Ljava/lang/Object;", sig := { parameters := [], returnType := some (.object "java/lang/Object") }, accessFlags := 260, code := none }
/-- java/lang/Object -/
def k0 : Class := { plain "java/lang/Object" none with
  accessFlags := 33
  interfaces := #[]
  cf := some (fileOf pool0 8 #[] #[{ accessFlags := 1, nameIndex := 5, descriptorIndex := 6, attributes := #[] }, { accessFlags := 273, nameIndex := 11, descriptorIndex := 12, attributes := #[] }, { accessFlags := 260, nameIndex := 96, descriptorIndex := 97, attributes := #[] }] 33 0 #[] #[])
  fields := #[]
  methods := #[k0m0, k0m1, k0m2]
  instanceTypes := #[]
  staticTypes := #[]
  resolved := Array.replicate 124 none
  statics := none }

def pool1 : Array CpInfo := pool [(2, .class_ 4), (0, .nameAndType 5 6), (0, u "java/lang/Object"), (0, u "<init>"), (0, u "()V"), (0, .class_ 8), (0, u "java/util/ArrayList"), (0, .methodref 7 3), (0, .class_ 11), (0, u "com/example/arcward/arcward/model/Variable"), (0, .string 13), (0, u "u"), (0, .methodref 10 15), (0, .nameAndType 5 16), (0, u "(Ljava/lang/String;I[I)V"), (0, .methodref 7 18), (0, .nameAndType 19 20), (0, u "add"), (0, u "(Ljava/lang/Object;)Z"), (0, .string 22), (0, u "v"), (0, .class_ 24), (0, u "com/example/arcward/arcward/solver/Domains"), (0, .class_ 26), (0, u "com/example/arcward/arcward/model/Instance"), (0, .methodref 25 28), (0, .nameAndType 5 29), (0, u "(Ljava/util/List;Ljava/util/List;)V"), (0, .methodref 23 31), (0, .nameAndType 5 32), (0, u "(Lcom/example/arcward/arcward/model/Instance;I)V"), (0, .integer 2147483647), (0, .methodref 35 36), (0, .class_ 37), (0, .nameAndType 38 39), (0, u "com/example/arcward/arcward/solver/DomainsContainsPinLaw"), (0, u "sizeOf"), (0, u "(I)I"), (0, .methodref 23 41), (0, .nameAndType 42 43), (0, u "remove"), (0, u "(II)V"), (0, .methodref 23 45), (0, .nameAndType 46 47), (0, u "mark"), (0, u "()I"), (0, .methodref 23 49), (0, .nameAndType 50 51), (0, u "restore"), (0, u "(I)V"), (0, .methodref 23 53), (0, .nameAndType 54 55), (0, u "contains"), (0, u "(II)Z"), (3, u "law"), (0, u "(IIII)Z")] 4

def k1m0 : Method := { name := "<init>", desc := "()V", sig := { parameters := [], returnType := none }, accessFlags := 1, code := none }
def k1c1 : Code := { maxStack := 1, maxLocals := 1, code := method_2_code, exceptionTable := #[], attributes := #[] }
def k1m1 : Method := { name := "sizeOf", desc := "(I)I", sig := { parameters := [.int], returnType := some .int }, accessFlags := 10, code := some k1c1 }
def k1c2 : Code := { maxStack := 7, maxLocals := 23, code := code, exceptionTable := #[], attributes := #[] }
def k1m2 : Method := { name := "law", desc := "(IIII)Z", sig := { parameters := [.int, .int, .int, .int], returnType := some .boolean }, accessFlags := 9, code := some k1c2 }
/-- com/example/arcward/arcward/solver/DomainsContainsPinLaw -/
def k1 : Class := { plain "com/example/arcward/arcward/solver/DomainsContainsPinLaw" (some 0) with
  accessFlags := 49
  interfaces := #[]
  cf := some (fileOf pool1 35 #[] #[{ accessFlags := 1, nameIndex := 5, descriptorIndex := 6, attributes := #[] }, { accessFlags := 10, nameIndex := 38, descriptorIndex := 39, attributes := #[] }, { accessFlags := 9, nameIndex := 59, descriptorIndex := 60, attributes := #[] }] 49 2 #[] #[])
  fields := #[]
  methods := #[k1m0, k1m1, k1m2]
  instanceTypes := #[]
  staticTypes := #[]
  resolved := Array.replicate 65 none
  statics := none }

def pool2 : Array CpInfo := pool [(8, .class_ 10), (1, u "java/lang/Iterable"), (24, .class_ 36), (0, u "java/lang/Object")] 25

/-- java/lang/Iterable -/
def k2 : Class := { plain "java/lang/Iterable" (some 0) with
  accessFlags := 1537
  interfaces := #[]
  cf := some (fileOf pool2 8 #[] #[] 1537 35 #[] #[])
  fields := #[]
  methods := #[]
  instanceTypes := #[]
  staticTypes := #[]
  resolved := Array.replicate 62 none
  statics := none }

def pool3 : Array CpInfo := pool [(10, .class_ 12), (1, u "java/util/Collection"), (0, u "toArray"), (16, u "()Z"), (29, .class_ 61), (0, u "java/lang/Object"), (0, .class_ 63), (0, u "java/lang/Iterable"), (2, u "isEmpty"), (3, u "()[Ljava/lang/Object;")] 44

def k3m0 : Method := { name := "isEmpty", desc := "()Z", sig := { parameters := [], returnType := some .boolean }, accessFlags := 1025, code := none }
def k3m1 : Method := { name := "toArray", desc := "()[Ljava/lang/Object;", sig := { parameters := [], returnType := some (.array (.object "java/lang/Object")) }, accessFlags := 1025, code := none }
/-- java/util/Collection -/
def k3 : Class := { plain "java/util/Collection" (some 0) with
  accessFlags := 1537
  interfaces := #[2]
  cf := some (fileOf pool3 10 #[] #[{ accessFlags := 1025, nameIndex := 66, descriptorIndex := 30, attributes := #[] }, { accessFlags := 1025, nameIndex := 13, descriptorIndex := 70, attributes := #[] }] 1537 60 #[62] #[])
  fields := #[]
  methods := #[k3m0, k3m1]
  instanceTypes := #[]
  staticTypes := #[]
  resolved := Array.replicate 115 none
  statics := none }

def pool4 : Array CpInfo := pool [(1, .methodref 2 3), (0, .class_ 4), (0, .nameAndType 5 6), (0, u "java/lang/Object"), (0, u "<init>"), (0, u "()V"), (1, .class_ 10), (1, u "java/util/AbstractCollection"), (0, u "size"), (0, u "()I"), (64, .class_ 78), (0, u "java/util/Collection")] 81

def k4c0 : Code := { maxStack := 1, maxLocals := 1, code := jdk_22_method_1_code, exceptionTable := #[], attributes := #[] }
def k4m0 : Method := { name := "<init>", desc := "()V", sig := { parameters := [], returnType := none }, accessFlags := 4, code := some k4c0 }
def k4m1 : Method := { name := "size", desc := "()I", sig := { parameters := [], returnType := some .int }, accessFlags := 1025, code := none }
/-- java/util/AbstractCollection -/
def k4 : Class := { plain "java/util/AbstractCollection" (some 0) with
  accessFlags := 1057
  interfaces := #[3]
  cf := some (fileOf pool4 8 #[] #[{ accessFlags := 4, nameIndex := 5, descriptorIndex := 6, attributes := #[] }, { accessFlags := 1025, nameIndex := 11, descriptorIndex := 12, attributes := #[] }] 1057 2 #[77] #[])
  fields := #[]
  methods := #[k4m0, k4m1]
  instanceTypes := #[]
  staticTypes := #[]
  resolved := Array.replicate 160 none
  statics := none }

def pool5 : Array CpInfo := pool [(8, .class_ 10), (1, u "java/util/SequencedCollection"), (15, .class_ 27), (0, u "java/lang/Object"), (0, .class_ 29), (0, u "java/util/Collection")] 27

/-- java/util/SequencedCollection -/
def k5 : Class := { plain "java/util/SequencedCollection" (some 0) with
  accessFlags := 1537
  interfaces := #[3]
  cf := some (fileOf pool5 8 #[] #[] 1537 26 #[28] #[])
  fields := #[]
  methods := #[]
  instanceTypes := #[]
  staticTypes := #[]
  resolved := Array.replicate 57 none
  statics := none }

def pool6 : Array CpInfo := pool [(8, .class_ 10), (1, u "java/util/List"), (37, u "<init>"), (26, u "get"), (0, u "(I)Ljava/lang/Object;"), (2, u "size"), (0, u "()I"), (7, u "of"), (1, .fieldref 91 92), (0, .class_ 93), (0, .nameAndType 94 95), (0, u "java/util/ImmutableCollections"), (0, u "EMPTY_LIST"), (0, u "Ljava/util/ImmutableCollections$ListN;"), (0, .class_ 97), (0, u "java/util/ImmutableCollections$List12"), (2, .methodref 96 101), (0, .nameAndType 48 102), (0, u "(Ljava/lang/Object;Ljava/lang/Object;)V"), (0, .class_ 104), (0, u "java/lang/Object"), (3, u "([Ljava/lang/Object;)Ljava/util/List;"), (3, .methodref 91 113), (0, .nameAndType 114 115), (0, u "listCopy"), (0, u "(Ljava/util/Collection;)Ljava/util/List;"), (3, u "()Ljava/util/List;"), (0, .class_ 121), (0, u "java/util/SequencedCollection"), (1, u "iterator"), (0, u "()Ljava/util/Iterator;"), (109, u "copyOf")] 16

def k6m0 : Method := { name := "size", desc := "()I", sig := { parameters := [], returnType := some .int }, accessFlags := 1025, code := none }
def k6m1 : Method := { name := "iterator", desc := "()Ljava/util/Iterator;", sig := { parameters := [], returnType := some (.object "java/util/Iterator") }, accessFlags := 1025, code := none }
def k6m2 : Method := { name := "get", desc := "(I)Ljava/lang/Object;", sig := { parameters := [.int], returnType := some (.object "java/lang/Object") }, accessFlags := 1025, code := none }
def k6c3 : Code := { maxStack := 1, maxLocals := 0, code := jdk_40_method_36_code, exceptionTable := #[], attributes := #[] }
def k6m3 : Method := { name := "of", desc := "()Ljava/util/List;", sig := { parameters := [], returnType := some (.object "java/util/List") }, accessFlags := 9, code := some k6c3 }
def k6c4 : Code := { maxStack := 5, maxLocals := 2, code := jdk_40_method_47_code, exceptionTable := #[], attributes := #[] }
def k6m4 : Method := { name := "of", desc := "([Ljava/lang/Object;)Ljava/util/List;", sig := { parameters := [(.array (.object "java/lang/Object"))], returnType := some (.object "java/util/List") }, accessFlags := 137, code := some k6c4 }
def k6c5 : Code := { maxStack := 1, maxLocals := 1, code := jdk_40_method_48_code, exceptionTable := #[], attributes := #[] }
def k6m5 : Method := { name := "copyOf", desc := "(Ljava/util/Collection;)Ljava/util/List;", sig := { parameters := [(.object "java/util/Collection")], returnType := some (.object "java/util/List") }, accessFlags := 9, code := some k6c5 }
/-- java/util/List -/
def k6 : Class := { plain "java/util/List" (some 0) with
  accessFlags := 1537
  interfaces := #[5]
  cf := some (fileOf pool6 8 #[] #[{ accessFlags := 1025, nameIndex := 79, descriptorIndex := 80, attributes := #[] }, { accessFlags := 1025, nameIndex := 123, descriptorIndex := 124, attributes := #[] }, { accessFlags := 1025, nameIndex := 75, descriptorIndex := 76, attributes := #[] }, { accessFlags := 9, nameIndex := 88, descriptorIndex := 119, attributes := #[] }, { accessFlags := 137, nameIndex := 88, descriptorIndex := 108, attributes := #[] }, { accessFlags := 9, nameIndex := 234, descriptorIndex := 115, attributes := #[] }] 1537 103 #[120] #[])
  fields := #[]
  methods := #[k6m0, k6m1, k6m2, k6m3, k6m4, k6m5]
  instanceTypes := #[]
  staticTypes := #[]
  resolved := Array.replicate 251 none
  statics := none }

def pool7 : Array CpInfo := pool [(1, .methodref 2 3), (0, .class_ 4), (0, .nameAndType 5 6), (0, u "java/util/AbstractCollection"), (0, u "<init>"), (0, u "()V"), (0, .fieldref 8 9), (0, .class_ 10), (0, .nameAndType 11 12), (0, u "java/util/AbstractList"), (0, u "modCount"), (0, u "I"), (64, .class_ 78), (0, u "java/util/AbstractList$Itr"), (3, .class_ 83), (0, u "java/util/AbstractList$ListItr"), (9, .class_ 94), (0, u "java/util/AbstractList$RandomAccessSubList"), (3, .class_ 99), (0, u "java/util/AbstractList$SubList"), (33, .class_ 134), (0, u "java/util/List"), (73, .class_ 209), (0, u "java/util/AbstractList$SubList$1"), (0, .class_ 211), (0, u "java/util/AbstractList$RandomAccessSpliterator")] 6

def k7c0 : Code := { maxStack := 2, maxLocals := 1, code := jdk_39_method_1_code, exceptionTable := #[], attributes := #[] }
def k7m0 : Method := { name := "<init>", desc := "()V", sig := { parameters := [], returnType := none }, accessFlags := 4, code := some k7c0 }
/-- java/util/AbstractList -/
def k7 : Class := { plain "java/util/AbstractList" (some 4) with
  accessFlags := 1057
  interfaces := #[6]
  cf := some (fileOf pool7 8 #[.nestMembers #[93, 98, 208, 210, 82, 77]] #[{ accessFlags := 4, nameIndex := 5, descriptorIndex := 6, attributes := #[] }] 1057 2 #[133] #[{ accessFlags := 132, nameIndex := 11, descriptorIndex := 12, attributes := #[] }])
  fields := #[{ name := "modCount", type := .int, accessFlags := 132, slot := 0, constantValue := 0 }]
  methods := #[k7m0]
  instanceTypes := #[.int]
  staticTypes := #[]
  resolved := Array.replicate 218 none
  statics := none }

def pool8 : Array CpInfo := pool [(1, .class_ 2), (0, u "java/util/RandomAccess"), (0, .class_ 4), (0, u "java/lang/Object")] 2

/-- java/util/RandomAccess -/
def k8 : Class := { plain "java/util/RandomAccess" (some 0) with
  accessFlags := 1537
  interfaces := #[]
  cf := some (fileOf pool8 1 #[] #[] 1537 3 #[] #[])
  fields := #[]
  methods := #[]
  instanceTypes := #[]
  staticTypes := #[]
  resolved := Array.replicate 7 none
  statics := none }

def pool9 : Array CpInfo := pool [(1, .class_ 2), (0, u "java/lang/Cloneable"), (0, .class_ 4), (0, u "java/lang/Object")] 2

/-- java/lang/Cloneable -/
def k9 : Class := { plain "java/lang/Cloneable" (some 0) with
  accessFlags := 1537
  interfaces := #[]
  cf := some (fileOf pool9 1 #[] #[] 1537 3 #[] #[])
  fields := #[]
  methods := #[]
  instanceTypes := #[]
  staticTypes := #[]
  resolved := Array.replicate 7 none
  statics := none }

def pool10 : Array CpInfo := pool [(1, .class_ 2), (0, u "java/io/Serializable"), (0, .class_ 4), (0, u "java/lang/Object")] 2

/-- java/io/Serializable -/
def k10 : Class := { plain "java/io/Serializable" (some 0) with
  accessFlags := 1537
  interfaces := #[]
  cf := some (fileOf pool10 1 #[] #[] 1537 3 #[] #[])
  fields := #[]
  methods := #[]
  instanceTypes := #[]
  staticTypes := #[]
  resolved := Array.replicate 7 none
  statics := none }

def pool11 : Array CpInfo := pool [(1, .methodref 2 3), (0, .class_ 4), (0, .nameAndType 5 6), (0, u "java/util/AbstractList"), (0, u "<init>"), (0, u "()V"), (0, .class_ 8), (0, u "java/lang/Object"), (0, .fieldref 10 11), (0, .class_ 12), (0, .nameAndType 13 14), (0, u "java/util/ArrayList"), (0, u "elementData"), (0, u "[Ljava/lang/Object;"), (2, u "EMPTY_ELEMENTDATA"), (21, .fieldref 10 40), (0, .nameAndType 41 14), (0, u "DEFAULTCAPACITY_EMPTY_ELEMENTDATA"), (4, u "toArray"), (0, u "()[Ljava/lang/Object;"), (0, .fieldref 10 49), (0, .nameAndType 50 51), (0, u "size"), (0, u "I"), (6, .class_ 60), (1, u "java/util/Arrays"), (0, u "copyOf"), (1, .fieldref 10 64), (0, .nameAndType 65 51), (0, u "modCount"), (0, .methodref 58 67), (0, .nameAndType 61 68), (0, u "([Ljava/lang/Object;I)[Ljava/lang/Object;"), (0, .methodref 10 70), (0, .nameAndType 71 72), (0, u "grow"), (0, u "(I)[Ljava/lang/Object;"), (6, .methodref 80 81), (0, .class_ 82), (0, .nameAndType 83 84), (0, u "java/lang/Math"), (0, u "max"), (0, u "(II)I"), (11, u "(Ljava/lang/Object;)Z"), (32, .methodref 10 130), (0, .nameAndType 71 47), (0, .methodref 10 132), (0, .nameAndType 133 134), (0, u "add"), (0, u "(Ljava/lang/Object;[Ljava/lang/Object;I)V"), (13, .class_ 149), (0, u "java/util/List"), (23, u "()Z"), (88, .class_ 263), (0, u "java/util/ArrayList$ListItr"), (3, .class_ 268), (0, u "java/util/ArrayList$Itr"), (7, .class_ 277), (0, u "java/util/ArrayList$SubList"), (12, .class_ 291), (0, u "java/util/ArrayList$ArrayListSpliterator"), (37, .class_ 330), (0, u "java/util/RandomAccess"), (0, .class_ 332), (0, u "java/lang/Cloneable"), (0, .class_ 334), (0, u "java/io/Serializable"), (0, u "serialVersionUID"), (0, u "J"), (3, u "DEFAULT_CAPACITY"), (22, u "isEmpty"), (136, .class_ 501), (0, u "java/util/ArrayList$SubList$2"), (0, .class_ 503), (0, u "java/util/ArrayList$SubList$1")] 5

def k11c0 : Code := { maxStack := 2, maxLocals := 1, code := jdk_38_method_2_code, exceptionTable := #[], attributes := #[] }
def k11m0 : Method := { name := "<init>", desc := "()V", sig := { parameters := [], returnType := none }, accessFlags := 1, code := some k11c0 }
def k11c1 : Code := { maxStack := 4, maxLocals := 4, code := jdk_38_method_6_code, exceptionTable := #[], attributes := #[] }
def k11m1 : Method := { name := "grow", desc := "(I)[Ljava/lang/Object;", sig := { parameters := [.int], returnType := some (.array (.object "java/lang/Object")) }, accessFlags := 2, code := some k11c1 }
def k11c2 : Code := { maxStack := 3, maxLocals := 1, code := jdk_38_method_7_code, exceptionTable := #[], attributes := #[] }
def k11m2 : Method := { name := "grow", desc := "()[Ljava/lang/Object;", sig := { parameters := [], returnType := some (.array (.object "java/lang/Object")) }, accessFlags := 2, code := some k11c2 }
def k11c3 : Code := { maxStack := 1, maxLocals := 1, code := jdk_38_method_9_code, exceptionTable := #[], attributes := #[] }
def k11m3 : Method := { name := "isEmpty", desc := "()Z", sig := { parameters := [], returnType := some .boolean }, accessFlags := 1, code := some k11c3 }
def k11c4 : Code := { maxStack := 2, maxLocals := 1, code := jdk_38_method_16_code, exceptionTable := #[], attributes := #[] }
def k11m4 : Method := { name := "toArray", desc := "()[Ljava/lang/Object;", sig := { parameters := [], returnType := some (.array (.object "java/lang/Object")) }, accessFlags := 1, code := some k11c4 }
def k11c5 : Code := { maxStack := 3, maxLocals := 4, code := jdk_38_method_24_code, exceptionTable := #[], attributes := #[] }
def k11m5 : Method := { name := "add", desc := "(Ljava/lang/Object;[Ljava/lang/Object;I)V", sig := { parameters := [(.object "java/lang/Object"), (.array (.object "java/lang/Object")), .int], returnType := none }, accessFlags := 2, code := some k11c5 }
def k11c6 : Code := { maxStack := 4, maxLocals := 2, code := jdk_38_method_25_code, exceptionTable := #[], attributes := #[] }
def k11m6 : Method := { name := "add", desc := "(Ljava/lang/Object;)Z", sig := { parameters := [(.object "java/lang/Object")], returnType := some .boolean }, accessFlags := 1, code := some k11c6 }
/-- java/util/ArrayList -/
def k11 : Class := { plain "java/util/ArrayList" (some 7) with
  accessFlags := 33
  interfaces := #[6, 8, 9, 10]
  cf := some (fileOf pool11 10 #[.nestMembers #[290, 276, 500, 502, 262, 267]] #[{ accessFlags := 1, nameIndex := 5, descriptorIndex := 6, attributes := #[] }, { accessFlags := 2, nameIndex := 71, descriptorIndex := 72, attributes := #[] }, { accessFlags := 2, nameIndex := 71, descriptorIndex := 47, attributes := #[] }, { accessFlags := 1, nameIndex := 363, descriptorIndex := 173, attributes := #[] }, { accessFlags := 1, nameIndex := 46, descriptorIndex := 47, attributes := #[] }, { accessFlags := 2, nameIndex := 133, descriptorIndex := 134, attributes := #[] }, { accessFlags := 1, nameIndex := 133, descriptorIndex := 96, attributes := #[] }] 33 2 #[148, 329, 331, 333] #[{ accessFlags := 26, nameIndex := 335, descriptorIndex := 336, attributes := #[] }, { accessFlags := 26, nameIndex := 340, descriptorIndex := 51, attributes := #[] }, { accessFlags := 26, nameIndex := 17, descriptorIndex := 14, attributes := #[] }, { accessFlags := 26, nameIndex := 41, descriptorIndex := 14, attributes := #[] }, { accessFlags := 128, nameIndex := 13, descriptorIndex := 14, attributes := #[] }, { accessFlags := 2, nameIndex := 50, descriptorIndex := 51, attributes := #[] }])
  fields := #[{ name := "serialVersionUID", type := .long, accessFlags := 26, slot := 0, constantValue := 0 }, { name := "DEFAULT_CAPACITY", type := .int, accessFlags := 26, slot := 1, constantValue := 0 }, { name := "EMPTY_ELEMENTDATA", type := (.array (.object "java/lang/Object")), accessFlags := 26, slot := 2, constantValue := 0 }, { name := "DEFAULTCAPACITY_EMPTY_ELEMENTDATA", type := (.array (.object "java/lang/Object")), accessFlags := 26, slot := 3, constantValue := 0 }, { name := "elementData", type := (.array (.object "java/lang/Object")), accessFlags := 128, slot := 1, constantValue := 0 }, { name := "size", type := .int, accessFlags := 2, slot := 2, constantValue := 0 }]
  methods := #[k11m0, k11m1, k11m2, k11m3, k11m4, k11m5, k11m6]
  instanceTypes := #[.int, (.array (.object "java/lang/Object")), .int]
  staticTypes := #[.long, .int, (.array (.object "java/lang/Object")), (.array (.object "java/lang/Object"))]
  resolved := Array.replicate 509 none
  statics := some 0 }

def pool12 : Array CpInfo := pool [(1, .methodref 2 3), (0, .class_ 4), (0, .nameAndType 5 6), (0, u "java/lang/Object"), (0, u "<init>"), (0, u "()V"), (9, .fieldref 17 18), (0, .class_ 19), (0, .nameAndType 20 21), (0, u "com/example/arcward/arcward/model/Variable"), (0, u "name"), (0, u "Ljava/lang/String;"), (0, .fieldref 17 23), (0, .nameAndType 24 25), (0, u "index"), (0, u "I"), (0, .methodref 27 28), (0, .class_ 29), (0, .nameAndType 30 31), (0, u "[I"), (0, u "clone"), (0, u "()Ljava/lang/Object;"), (0, .fieldref 17 33), (0, .nameAndType 34 29), (0, u "values"), (6, u "(Ljava/lang/String;I[I)V"), (6, u "()I"), (0, u "size")] 21

def k12c0 : Code := { maxStack := 3, maxLocals := 5, code := prog_43_method_1_code, exceptionTable := #[], attributes := #[] }
def k12m0 : Method := { name := "<init>", desc := "(Ljava/lang/String;I[I)V", sig := { parameters := [(.object "java/lang/String"), .int, (.array .int)], returnType := none }, accessFlags := 1, code := some k12c0 }
def k12c1 : Code := { maxStack := 1, maxLocals := 1, code := prog_43_method_3_code, exceptionTable := #[], attributes := #[] }
def k12m1 : Method := { name := "index", desc := "()I", sig := { parameters := [], returnType := some .int }, accessFlags := 1, code := some k12c1 }
def k12c2 : Code := { maxStack := 1, maxLocals := 1, code := prog_43_method_4_code, exceptionTable := #[], attributes := #[] }
def k12m2 : Method := { name := "size", desc := "()I", sig := { parameters := [], returnType := some .int }, accessFlags := 1, code := some k12c2 }
/-- com/example/arcward/arcward/model/Variable -/
def k12 : Class := { plain "com/example/arcward/arcward/model/Variable" (some 0) with
  accessFlags := 49
  interfaces := #[]
  cf := some (fileOf pool12 17 #[] #[{ accessFlags := 1, nameIndex := 5, descriptorIndex := 41, attributes := #[] }, { accessFlags := 1, nameIndex := 24, descriptorIndex := 48, attributes := #[] }, { accessFlags := 1, nameIndex := 49, descriptorIndex := 48, attributes := #[] }] 49 2 #[] #[{ accessFlags := 18, nameIndex := 20, descriptorIndex := 21, attributes := #[] }, { accessFlags := 18, nameIndex := 24, descriptorIndex := 25, attributes := #[] }, { accessFlags := 18, nameIndex := 34, descriptorIndex := 29, attributes := #[] }])
  fields := #[{ name := "name", type := (.object "java/lang/String"), accessFlags := 18, slot := 0, constantValue := 0 }, { name := "index", type := .int, accessFlags := 18, slot := 1, constantValue := 0 }, { name := "values", type := (.array .int), accessFlags := 18, slot := 2, constantValue := 0 }]
  methods := #[k12m0, k12m1, k12m2]
  instanceTypes := #[(.object "java/lang/String"), .int, (.array .int)]
  staticTypes := #[]
  resolved := Array.replicate 71 none
  statics := none }

def pool13 : Array CpInfo := pool [(1, .class_ 2), (0, u "java/lang/Comparable"), (0, .class_ 4), (0, u "java/lang/Object")] 7

/-- java/lang/Comparable -/
def k13 : Class := { plain "java/lang/Comparable" (some 0) with
  accessFlags := 1537
  interfaces := #[]
  cf := some (fileOf pool13 1 #[] #[] 1537 3 #[] #[])
  fields := #[]
  methods := #[]
  instanceTypes := #[]
  staticTypes := #[]
  resolved := Array.replicate 12 none
  statics := none }

def pool14 : Array CpInfo := pool [(2, .class_ 4), (1, u "java/lang/CharSequence"), (42, .class_ 48), (0, u "java/lang/CharSequence$1CodePointIterator"), (10, .class_ 60), (0, u "java/lang/CharSequence$1CharIterator"), (5, .class_ 67), (0, u "java/lang/Object")] 63

/-- java/lang/CharSequence -/
def k14 : Class := { plain "java/lang/CharSequence" (some 0) with
  accessFlags := 1537
  interfaces := #[]
  cf := some (fileOf pool14 2 #[.nestMembers #[47, 59]] #[] 1537 66 #[] #[])
  fields := #[]
  methods := #[]
  instanceTypes := #[]
  staticTypes := #[]
  resolved := Array.replicate 131 none
  statics := none }

def pool15 : Array CpInfo := pool [(1, .class_ 2), (0, u "java/lang/constant/Constable"), (0, .class_ 4), (0, u "java/lang/Object")] 6

/-- java/lang/constant/Constable -/
def k15 : Class := { plain "java/lang/constant/Constable" (some 0) with
  accessFlags := 1537
  interfaces := #[]
  cf := some (fileOf pool15 1 #[] #[] 1537 3 #[] #[])
  fields := #[]
  methods := #[]
  instanceTypes := #[]
  staticTypes := #[]
  resolved := Array.replicate 11 none
  statics := none }

def pool16 : Array CpInfo := pool [(1, .class_ 2), (0, u "java/lang/constant/ConstantDesc"), (0, .class_ 4), (0, u "java/lang/Object")] 32

/-- java/lang/constant/ConstantDesc -/
def k16 : Class := { plain "java/lang/constant/ConstantDesc" (some 0) with
  accessFlags := 1537
  interfaces := #[]
  cf := some (fileOf pool16 1 #[] #[] 1537 3 #[] #[])
  fields := #[]
  methods := #[]
  instanceTypes := #[]
  staticTypes := #[]
  resolved := Array.replicate 37 none
  statics := none }

def pool17 : Array CpInfo := pool [(2, .class_ 4), (1, u "java/lang/Object"), (0, u "<init>"), (0, u "()V"), (3, .class_ 12), (1, u "java/lang/String"), (0, u "value"), (0, u "[B"), (2, u "coder"), (0, u "B"), (2, u "hash"), (0, u "I"), (2, u "hashIsZero"), (0, u "Z"), (13, u "COMPACT_STRINGS"), (534, .class_ 576), (0, u "java/lang/CharSequence"), (22, u "CASE_INSENSITIVE_ORDER"), (0, u "Ljava/util/Comparator;"), (500, u "serialPersistentFields"), (0, u "[Ljava/io/ObjectStreamField;"), (0, .class_ 1104), (0, u "java/lang/String$CaseInsensitiveComparator"), (1, .class_ 1107), (0, u "java/io/Serializable"), (0, .class_ 1109), (0, u "java/lang/Comparable"), (0, .class_ 1111), (0, u "java/lang/constant/Constable"), (0, .class_ 1113), (0, u "java/lang/constant/ConstantDesc"), (2, u "serialVersionUID"), (0, u "J"), (3, u "REPL"), (0, u "C"), (2, u "LATIN1"), (1, u "UTF16")] 323

def k17m0 : Method := { name := "<init>", desc := "()V", sig := { parameters := [], returnType := none }, accessFlags := 1, code := none }
/-- java/lang/String -/
def k17 : Class := { plain "java/lang/String" (some 0) with
  accessFlags := 49
  interfaces := #[10, 13, 14, 15, 16]
  cf := some (fileOf pool17 10 #[.nestMembers #[1103]] #[{ accessFlags := 1, nameIndex := 5, descriptorIndex := 6, attributes := #[] }] 49 2 #[1106, 1108, 575, 1110, 1112] #[{ accessFlags := 18, nameIndex := 13, descriptorIndex := 14, attributes := #[] }, { accessFlags := 18, nameIndex := 17, descriptorIndex := 18, attributes := #[] }, { accessFlags := 2, nameIndex := 21, descriptorIndex := 22, attributes := #[] }, { accessFlags := 2, nameIndex := 25, descriptorIndex := 26, attributes := #[] }, { accessFlags := 26, nameIndex := 1116, descriptorIndex := 1117, attributes := #[] }, { accessFlags := 24, nameIndex := 40, descriptorIndex := 26, attributes := #[] }, { accessFlags := 26, nameIndex := 1101, descriptorIndex := 1102, attributes := #[] }, { accessFlags := 26, nameIndex := 1121, descriptorIndex := 1122, attributes := #[] }, { accessFlags := 25, nameIndex := 599, descriptorIndex := 600, attributes := #[] }, { accessFlags := 24, nameIndex := 1125, descriptorIndex := 18, attributes := #[] }, { accessFlags := 24, nameIndex := 1127, descriptorIndex := 18, attributes := #[] }])
  fields := #[{ name := "value", type := (.array .byte), accessFlags := 18, slot := 0, constantValue := 0 }, { name := "coder", type := .byte, accessFlags := 18, slot := 1, constantValue := 0 }, { name := "hash", type := .int, accessFlags := 2, slot := 2, constantValue := 0 }, { name := "hashIsZero", type := .boolean, accessFlags := 2, slot := 3, constantValue := 0 }, { name := "serialVersionUID", type := .long, accessFlags := 26, slot := 0, constantValue := 0 }, { name := "COMPACT_STRINGS", type := .boolean, accessFlags := 24, slot := 1, constantValue := 0 }, { name := "serialPersistentFields", type := (.array (.object "java/io/ObjectStreamField")), accessFlags := 26, slot := 2, constantValue := 0 }, { name := "REPL", type := .char, accessFlags := 26, slot := 3, constantValue := 0 }, { name := "CASE_INSENSITIVE_ORDER", type := (.object "java/util/Comparator"), accessFlags := 25, slot := 4, constantValue := 0 }, { name := "LATIN1", type := .byte, accessFlags := 24, slot := 5, constantValue := 0 }, { name := "UTF16", type := .byte, accessFlags := 24, slot := 6, constantValue := 0 }]
  methods := #[k17m0]
  instanceTypes := #[(.array .byte), .byte, .int, .boolean]
  staticTypes := #[.long, .boolean, (.array (.object "java/io/ObjectStreamField")), .char, (.object "java/util/Comparator"), .byte, .byte]
  resolved := Array.replicate 1451 none
  statics := none }

def pool18 : Array CpInfo := pool [(1, .class_ 2), (0, u "java/lang/Math"), (1, .class_ 6), (1, u "java/lang/Object"), (0, u "<init>"), (0, u "()V"), (89, .class_ 100), (1, u "java/lang/Math$RandomNumberGeneratorHolder"), (71, u "negativeZeroFloatBits"), (0, u "J"), (2, u "negativeZeroDoubleBits"), (21, u "max"), (2, u "min"), (43, u "$assertionsDisabled"), (0, u "Z"), (88, u "(II)I"), (2, u "twoToTheDoubleScaleDown"), (0, u "D"), (4, u "twoToTheDoubleScaleUp"), (9, u "E"), (3, u "PI"), (2, u "TAU"), (2, u "DEGREES_TO_RADIANS"), (0, u "RADIANS_TO_DEGREES")] 94

def k18m0 : Method := { name := "<init>", desc := "()V", sig := { parameters := [], returnType := none }, accessFlags := 2, code := none }
def k18c1 : Code := { maxStack := 2, maxLocals := 2, code := jdk_29_method_65_code, exceptionTable := #[], attributes := #[] }
def k18m1 : Method := { name := "max", desc := "(II)I", sig := { parameters := [.int, .int], returnType := some .int }, accessFlags := 9, code := some k18c1 }
def k18c2 : Code := { maxStack := 2, maxLocals := 2, code := jdk_29_method_69_code, exceptionTable := #[], attributes := #[] }
def k18m2 : Method := { name := "min", desc := "(II)I", sig := { parameters := [.int, .int], returnType := some .int }, accessFlags := 9, code := some k18c2 }
/-- java/lang/Math -/
def k18 : Class := { plain "java/lang/Math" (some 0) with
  accessFlags := 49
  interfaces := #[]
  cf := some (fileOf pool18 1 #[.nestMembers #[98]] #[{ accessFlags := 2, nameIndex := 7, descriptorIndex := 8, attributes := #[] }, { accessFlags := 9, nameIndex := 198, descriptorIndex := 335, attributes := #[] }, { accessFlags := 9, nameIndex := 201, descriptorIndex := 335, attributes := #[] }] 49 4 #[] #[{ accessFlags := 25, nameIndex := 354, descriptorIndex := 339, attributes := #[] }, { accessFlags := 25, nameIndex := 358, descriptorIndex := 339, attributes := #[] }, { accessFlags := 25, nameIndex := 361, descriptorIndex := 339, attributes := #[] }, { accessFlags := 26, nameIndex := 364, descriptorIndex := 339, attributes := #[] }, { accessFlags := 26, nameIndex := 365, descriptorIndex := 339, attributes := #[] }, { accessFlags := 26, nameIndex := 172, descriptorIndex := 173, attributes := #[] }, { accessFlags := 26, nameIndex := 176, descriptorIndex := 173, attributes := #[] }, { accessFlags := 8, nameIndex := 344, descriptorIndex := 339, attributes := #[] }, { accessFlags := 8, nameIndex := 338, descriptorIndex := 339, attributes := #[] }, { accessFlags := 4120, nameIndex := 245, descriptorIndex := 246, attributes := #[] }])
  fields := #[{ name := "E", type := .double, accessFlags := 25, slot := 0, constantValue := 0 }, { name := "PI", type := .double, accessFlags := 25, slot := 1, constantValue := 0 }, { name := "TAU", type := .double, accessFlags := 25, slot := 2, constantValue := 0 }, { name := "DEGREES_TO_RADIANS", type := .double, accessFlags := 26, slot := 3, constantValue := 0 }, { name := "RADIANS_TO_DEGREES", type := .double, accessFlags := 26, slot := 4, constantValue := 0 }, { name := "negativeZeroFloatBits", type := .long, accessFlags := 26, slot := 5, constantValue := 0 }, { name := "negativeZeroDoubleBits", type := .long, accessFlags := 26, slot := 6, constantValue := 0 }, { name := "twoToTheDoubleScaleUp", type := .double, accessFlags := 8, slot := 7, constantValue := 0 }, { name := "twoToTheDoubleScaleDown", type := .double, accessFlags := 8, slot := 8, constantValue := 0 }, { name := "$assertionsDisabled", type := .boolean, accessFlags := 4120, slot := 9, constantValue := 0 }]
  methods := #[k18m0, k18m1, k18m2]
  instanceTypes := #[]
  staticTypes := #[.double, .double, .double, .double, .double, .long, .long, .double, .double, .boolean]
  resolved := Array.replicate 460 none
  statics := none }

def pool19 : Array CpInfo := pool [(1, .methodref 2 3), (0, .class_ 4), (0, .nameAndType 5 6), (0, u "java/lang/Object"), (0, u "<init>"), (0, u "()V"), (0, .fieldref 8 9), (0, .class_ 10), (0, .nameAndType 11 12), (0, u "com/example/arcward/arcward/solver/Domains"), (0, u "trail"), (0, u "[I"), (0, .fieldref 8 14), (0, .nameAndType 15 12), (0, u "removedBy"), (0, .methodref 17 18), (0, .class_ 19), (0, .nameAndType 20 21), (0, u "com/example/arcward/arcward/model/Instance"), (0, u "variables"), (0, u "()Ljava/util/List;"), (0, .interfaceMethodref 23 24), (0, .class_ 25), (0, .nameAndType 26 27), (0, u "java/util/List"), (0, u "size"), (0, u "()I"), (0, .class_ 29), (0, u "[J"), (0, .fieldref 8 31), (0, .nameAndType 32 33), (0, u "bits"), (0, u "[[J"), (0, .fieldref 8 35), (0, .nameAndType 36 12), (0, u "sizes"), (0, .fieldref 8 38), (0, .nameAndType 39 12), (0, u "resized"), (0, .fieldref 8 41), (0, .nameAndType 42 43), (0, u "inResized"), (0, u "[Z"), (0, .interfaceMethodref 23 45), (0, .nameAndType 46 47), (0, u "get"), (0, u "(I)Ljava/lang/Object;"), (0, .class_ 49), (0, u "com/example/arcward/arcward/model/Variable"), (0, .methodref 48 24), (0, .methodref 8 52), (0, .nameAndType 53 54), (0, u "wordsFor"), (0, u "(I)I"), (0, .fieldref 8 56), (0, .nameAndType 57 58), (0, u "resizedCount"), (0, u "I"), (36, u "contains"), (0, u "(II)Z"), (0, .long 18446744073709551615), (9, .methodref 8 108), (0, .nameAndType 109 110), (0, u "remove"), (0, u "(III)V"), (0, .methodref 8 112), (0, .nameAndType 113 114), (0, u "markResized"), (0, u "(I)V"), (0, .fieldref 8 116), (0, .nameAndType 117 58), (0, u "trailLength"), (6, u "NO_ARC"), (2, u "(Lcom/example/arcward/arcward/model/Instance;I)V"), (14, u "(II)V"), (0, u "mark"), (0, u "restore")] 2

def k19c0 : Code := { maxStack := 7, maxLocals := 7, code := prog_50_method_1_code, exceptionTable := #[], attributes := #[] }
def k19m0 : Method := { name := "<init>", desc := "(Lcom/example/arcward/arcward/model/Instance;I)V", sig := { parameters := [(.object "com/example/arcward/arcward/model/Instance"), .int], returnType := none }, accessFlags := 0, code := some k19c0 }
def k19c1 : Code := { maxStack := 5, maxLocals := 3, code := prog_50_method_6_code, exceptionTable := #[], attributes := #[] }
def k19m1 : Method := { name := "contains", desc := "(II)Z", sig := { parameters := [.int, .int], returnType := some .boolean }, accessFlags := 0, code := some k19c1 }
def k19c2 : Code := { maxStack := 2, maxLocals := 1, code := prog_50_method_12_code, exceptionTable := #[], attributes := #[] }
def k19m2 : Method := { name := "wordsFor", desc := "(I)I", sig := { parameters := [.int], returnType := some .int }, accessFlags := 8, code := some k19c2 }
def k19c3 : Code := { maxStack := 4, maxLocals := 3, code := prog_50_method_18_code, exceptionTable := #[], attributes := #[] }
def k19m3 : Method := { name := "remove", desc := "(II)V", sig := { parameters := [.int, .int], returnType := none }, accessFlags := 0, code := some k19c3 }
def k19c4 : Code := { maxStack := 8, maxLocals := 4, code := prog_50_method_19_code, exceptionTable := #[], attributes := #[] }
def k19m4 : Method := { name := "remove", desc := "(III)V", sig := { parameters := [.int, .int, .int], returnType := none }, accessFlags := 0, code := some k19c4 }
def k19c5 : Code := { maxStack := 1, maxLocals := 1, code := prog_50_method_21_code, exceptionTable := #[], attributes := #[] }
def k19m5 : Method := { name := "mark", desc := "()I", sig := { parameters := [], returnType := some .int }, accessFlags := 0, code := some k19c5 }
def k19c6 : Code := { maxStack := 7, maxLocals := 5, code := prog_50_method_22_code, exceptionTable := #[], attributes := #[] }
def k19m6 : Method := { name := "restore", desc := "(I)V", sig := { parameters := [.int], returnType := none }, accessFlags := 0, code := some k19c6 }
def k19c7 : Code := { maxStack := 5, maxLocals := 2, code := prog_50_method_23_code, exceptionTable := #[], attributes := #[] }
def k19m7 : Method := { name := "markResized", desc := "(I)V", sig := { parameters := [.int], returnType := none }, accessFlags := 2, code := some k19c7 }
/-- com/example/arcward/arcward/solver/Domains -/
def k19 : Class := { plain "com/example/arcward/arcward/solver/Domains" (some 0) with
  accessFlags := 48
  interfaces := #[]
  cf := some (fileOf pool19 8 #[] #[{ accessFlags := 0, nameIndex := 5, descriptorIndex := 127, attributes := #[] }, { accessFlags := 0, nameIndex := 95, descriptorIndex := 96, attributes := #[] }, { accessFlags := 8, nameIndex := 53, descriptorIndex := 54, attributes := #[] }, { accessFlags := 0, nameIndex := 109, descriptorIndex := 142, attributes := #[] }, { accessFlags := 0, nameIndex := 109, descriptorIndex := 110, attributes := #[] }, { accessFlags := 0, nameIndex := 143, descriptorIndex := 27, attributes := #[] }, { accessFlags := 0, nameIndex := 144, descriptorIndex := 114, attributes := #[] }, { accessFlags := 2, nameIndex := 113, descriptorIndex := 114, attributes := #[] }] 48 2 #[] #[{ accessFlags := 26, nameIndex := 124, descriptorIndex := 58, attributes := #[] }, { accessFlags := 18, nameIndex := 32, descriptorIndex := 33, attributes := #[] }, { accessFlags := 18, nameIndex := 36, descriptorIndex := 12, attributes := #[] }, { accessFlags := 18, nameIndex := 15, descriptorIndex := 12, attributes := #[] }, { accessFlags := 18, nameIndex := 39, descriptorIndex := 12, attributes := #[] }, { accessFlags := 18, nameIndex := 42, descriptorIndex := 43, attributes := #[] }, { accessFlags := 2, nameIndex := 57, descriptorIndex := 58, attributes := #[] }, { accessFlags := 2, nameIndex := 11, descriptorIndex := 12, attributes := #[] }, { accessFlags := 2, nameIndex := 117, descriptorIndex := 58, attributes := #[] }])
  fields := #[{ name := "NO_ARC", type := .int, accessFlags := 26, slot := 0, constantValue := 0 }, { name := "bits", type := (.array (.array .long)), accessFlags := 18, slot := 0, constantValue := 0 }, { name := "sizes", type := (.array .int), accessFlags := 18, slot := 1, constantValue := 0 }, { name := "removedBy", type := (.array .int), accessFlags := 18, slot := 2, constantValue := 0 }, { name := "resized", type := (.array .int), accessFlags := 18, slot := 3, constantValue := 0 }, { name := "inResized", type := (.array .boolean), accessFlags := 18, slot := 4, constantValue := 0 }, { name := "resizedCount", type := .int, accessFlags := 2, slot := 5, constantValue := 0 }, { name := "trail", type := (.array .int), accessFlags := 2, slot := 6, constantValue := 0 }, { name := "trailLength", type := .int, accessFlags := 2, slot := 7, constantValue := 0 }]
  methods := #[k19m0, k19m1, k19m2, k19m3, k19m4, k19m5, k19m6, k19m7]
  instanceTypes := #[(.array (.array .long)), (.array .int), (.array .int), (.array .int), (.array .boolean), .int, (.array .int), .int]
  staticTypes := #[.int]
  resolved := Array.replicate 147 none
  statics := none }

def pool20 : Array CpInfo := pool [(1, .methodref 2 3), (0, .class_ 4), (0, .nameAndType 5 6), (0, u "java/lang/Object"), (0, u "<init>"), (0, u "()V"), (0, .interfaceMethodref 8 9), (0, .class_ 10), (0, .nameAndType 11 12), (0, u "java/util/List"), (0, u "copyOf"), (0, u "(Ljava/util/Collection;)Ljava/util/List;"), (0, .fieldref 14 15), (0, .class_ 16), (0, .nameAndType 17 18), (0, u "com/example/arcward/arcward/model/Instance"), (0, u "variables"), (0, u "Ljava/util/List;"), (0, .fieldref 14 20), (0, .nameAndType 21 18), (0, u "constraints"), (0, .interfaceMethodref 8 23), (0, .nameAndType 24 25), (0, u "size"), (0, u "()I"), (0, .interfaceMethodref 8 27), (0, .nameAndType 28 29), (0, u "get"), (0, u "(I)Ljava/lang/Object;"), (0, .class_ 31), (0, u "com/example/arcward/arcward/model/Variable"), (0, .methodref 30 33), (0, .nameAndType 34 25), (0, u "index"), (15, .interfaceMethodref 8 51), (0, .nameAndType 52 53), (0, u "iterator"), (0, u "()Ljava/util/Iterator;"), (0, .interfaceMethodref 55 56), (0, .class_ 57), (0, .nameAndType 58 59), (0, u "java/util/Iterator"), (0, u "hasNext"), (0, u "()Z"), (19, u "(Ljava/util/List;Ljava/util/List;)V"), (4, u "()Ljava/util/List;")] 21

def k20c0 : Code := { maxStack := 5, maxLocals := 7, code := prog_11_method_1_code, exceptionTable := #[], attributes := #[] }
def k20m0 : Method := { name := "<init>", desc := "(Ljava/util/List;Ljava/util/List;)V", sig := { parameters := [(.object "java/util/List"), (.object "java/util/List")], returnType := none }, accessFlags := 1, code := some k20c0 }
def k20c1 : Code := { maxStack := 1, maxLocals := 1, code := prog_11_method_2_code, exceptionTable := #[], attributes := #[] }
def k20m1 : Method := { name := "variables", desc := "()Ljava/util/List;", sig := { parameters := [], returnType := some (.object "java/util/List") }, accessFlags := 1, code := some k20c1 }
/-- com/example/arcward/arcward/model/Instance -/
def k20 : Class := { plain "com/example/arcward/arcward/model/Instance" (some 0) with
  accessFlags := 49
  interfaces := #[]
  cf := some (fileOf pool20 14 #[] #[{ accessFlags := 1, nameIndex := 5, descriptorIndex := 79, attributes := #[] }, { accessFlags := 1, nameIndex := 17, descriptorIndex := 84, attributes := #[] }] 49 2 #[] #[{ accessFlags := 18, nameIndex := 17, descriptorIndex := 18, attributes := #[] }, { accessFlags := 18, nameIndex := 21, descriptorIndex := 18, attributes := #[] }])
  fields := #[{ name := "variables", type := (.object "java/util/List"), accessFlags := 18, slot := 0, constantValue := 0 }, { name := "constraints", type := (.object "java/util/List"), accessFlags := 18, slot := 1, constantValue := 0 }]
  methods := #[k20m0, k20m1]
  instanceTypes := #[(.object "java/util/List"), (.object "java/util/List")]
  staticTypes := #[]
  resolved := Array.replicate 106 none
  statics := none }

def pool21 : Array CpInfo := pool [(2, .class_ 4), (1, u "java/lang/Object"), (0, u "<init>"), (0, u "()V"), (3, .class_ 11), (0, u "java/util/ImmutableCollections$List12"), (0, .class_ 13), (0, u "java/util/ImmutableCollections$ListN"), (3, u "Z"), (0, .class_ 19), (0, u "java/util/List"), (0, .interfaceMethodref 21 22), (0, .class_ 23), (0, .nameAndType 24 25), (0, u "java/util/Collection"), (0, u "isEmpty"), (0, u "()Z"), (0, .interfaceMethodref 18 27), (0, .nameAndType 28 29), (0, u "of"), (0, u "()Ljava/util/List;"), (0, .interfaceMethodref 21 31), (0, .nameAndType 32 33), (0, u "toArray"), (0, u "()[Ljava/lang/Object;"), (0, .interfaceMethodref 18 35), (0, .nameAndType 28 36), (0, u "([Ljava/lang/Object;)Ljava/util/List;"), (10, .class_ 49), (1, u "java/util/ImmutableCollections"), (0, u "$assertionsDisabled"), (5, u "[Ljava/lang/Object;"), (5, u "EMPTY_LIST"), (0, u "Ljava/util/ImmutableCollections$ListN;"), (8, u "EMPTY_LIST_NULLS"), (22, u "SALT32L"), (0, u "J"), (2, u "REVERSE"), (6, u "archivedObjects"), (2, u "EMPTY"), (0, u "Ljava/lang/Object;"), (0, .class_ 112), (0, u "java/util/ImmutableCollections$SetN"), (5, u "EMPTY_SET"), (0, u "Ljava/util/ImmutableCollections$SetN;"), (0, .class_ 121), (0, u "java/util/ImmutableCollections$MapN"), (3, u "EMPTY_MAP"), (0, u "Ljava/util/ImmutableCollections$MapN;"), (4, u "EXPAND_FACTOR"), (0, u "I"), (9, u "listCopy"), (0, u "(Ljava/util/Collection;)Ljava/util/List;"), (25, .class_ 170), (0, u "java/util/ImmutableCollections$MapN$MapNIterator"), (0, .class_ 172), (0, u "java/util/ImmutableCollections$MapN$1"), (0, .class_ 174), (0, u "java/util/ImmutableCollections$Map1"), (0, .class_ 176), (0, u "java/util/ImmutableCollections$AbstractImmutableMap"), (0, .class_ 178), (0, u "java/util/ImmutableCollections$SetN$SetNIterator"), (0, .class_ 180), (0, u "java/util/ImmutableCollections$Set12"), (0, .class_ 182), (0, u "java/util/ImmutableCollections$Set12$1"), (0, .class_ 184), (0, u "java/util/ImmutableCollections$AbstractImmutableSet"), (0, .class_ 186), (0, u "java/util/ImmutableCollections$SubList"), (0, .class_ 188), (0, u "java/util/ImmutableCollections$ListItr"), (0, .class_ 190), (0, u "java/util/ImmutableCollections$AbstractImmutableList"), (0, .class_ 192), (0, u "java/util/ImmutableCollections$AbstractImmutableCollection"), (0, .class_ 194), (0, u "java/util/ImmutableCollections$Access"), (0, .class_ 196), (0, u "java/util/ImmutableCollections$Access$1")] 16

def k21m0 : Method := { name := "<init>", desc := "()V", sig := { parameters := [], returnType := none }, accessFlags := 2, code := none }
def k21c1 : Code := { maxStack := 1, maxLocals := 2, code := jdk_56_method_3_code, exceptionTable := #[], attributes := #[] }
def k21m1 : Method := { name := "listCopy", desc := "(Ljava/util/Collection;)Ljava/util/List;", sig := { parameters := [(.object "java/util/Collection")], returnType := some (.object "java/util/List") }, accessFlags := 8, code := some k21c1 }
/-- java/util/ImmutableCollections -/
def k21 : Class := { plain "java/util/ImmutableCollections" (some 0) with
  accessFlags := 32
  interfaces := #[]
  cf := some (fileOf pool21 47 #[.nestMembers #[120, 169, 171, 173, 175, 111, 177, 179, 181, 183, 12, 10, 185, 187, 189, 191, 193, 195]] #[{ accessFlags := 2, nameIndex := 5, descriptorIndex := 6, attributes := #[] }, { accessFlags := 8, nameIndex := 142, descriptorIndex := 143, attributes := #[] }] 32 2 #[] #[{ accessFlags := 26, nameIndex := 95, descriptorIndex := 96, attributes := #[] }, { accessFlags := 26, nameIndex := 99, descriptorIndex := 17, attributes := #[] }, { accessFlags := 10, nameIndex := 106, descriptorIndex := 56, attributes := #[] }, { accessFlags := 26, nameIndex := 109, descriptorIndex := 110, attributes := #[] }, { accessFlags := 24, nameIndex := 62, descriptorIndex := 63, attributes := #[] }, { accessFlags := 24, nameIndex := 72, descriptorIndex := 63, attributes := #[] }, { accessFlags := 24, nameIndex := 118, descriptorIndex := 119, attributes := #[] }, { accessFlags := 24, nameIndex := 125, descriptorIndex := 126, attributes := #[] }, { accessFlags := 24, nameIndex := 131, descriptorIndex := 132, attributes := #[] }, { accessFlags := 4120, nameIndex := 50, descriptorIndex := 17, attributes := #[] }])
  fields := #[{ name := "SALT32L", type := .long, accessFlags := 26, slot := 0, constantValue := 0 }, { name := "REVERSE", type := .boolean, accessFlags := 26, slot := 1, constantValue := 0 }, { name := "archivedObjects", type := (.array (.object "java/lang/Object")), accessFlags := 10, slot := 2, constantValue := 0 }, { name := "EMPTY", type := (.object "java/lang/Object"), accessFlags := 26, slot := 3, constantValue := 0 }, { name := "EMPTY_LIST", type := (.object "java/util/ImmutableCollections$ListN"), accessFlags := 24, slot := 4, constantValue := 0 }, { name := "EMPTY_LIST_NULLS", type := (.object "java/util/ImmutableCollections$ListN"), accessFlags := 24, slot := 5, constantValue := 0 }, { name := "EMPTY_SET", type := (.object "java/util/ImmutableCollections$SetN"), accessFlags := 24, slot := 6, constantValue := 0 }, { name := "EMPTY_MAP", type := (.object "java/util/ImmutableCollections$MapN"), accessFlags := 24, slot := 7, constantValue := 0 }, { name := "EXPAND_FACTOR", type := .int, accessFlags := 24, slot := 8, constantValue := 0 }, { name := "$assertionsDisabled", type := .boolean, accessFlags := 4120, slot := 9, constantValue := 0 }]
  methods := #[k21m0, k21m1]
  instanceTypes := #[]
  staticTypes := #[.long, .boolean, (.array (.object "java/lang/Object")), (.object "java/lang/Object"), (.object "java/util/ImmutableCollections$ListN"), (.object "java/util/ImmutableCollections$ListN"), (.object "java/util/ImmutableCollections$SetN"), (.object "java/util/ImmutableCollections$MapN"), .int, .boolean]
  resolved := Array.replicate 213 none
  statics := some 1 }

def pool22 : Array CpInfo := pool [(1, .methodref 2 3), (0, .class_ 4), (0, .nameAndType 5 6), (0, u "java/util/AbstractCollection"), (0, u "<init>"), (0, u "()V"), (1, .class_ 10), (1, u "java/util/ImmutableCollections"), (2, .class_ 14), (0, u "java/util/ImmutableCollections$AbstractImmutableCollection")] 41

def k22c0 : Code := { maxStack := 1, maxLocals := 1, code := jdk_47_method_1_code, exceptionTable := #[], attributes := #[] }
def k22m0 : Method := { name := "<init>", desc := "()V", sig := { parameters := [], returnType := none }, accessFlags := 0, code := some k22c0 }
/-- java/util/ImmutableCollections$AbstractImmutableCollection -/
def k22 : Class := { plain "java/util/ImmutableCollections$AbstractImmutableCollection" (some 4) with
  accessFlags := 1056
  interfaces := #[]
  cf := some (fileOf pool22 13 #[.nestHost 8] #[{ accessFlags := 0, nameIndex := 5, descriptorIndex := 6, attributes := #[] }] 1056 2 #[] #[])
  fields := #[]
  methods := #[k22m0]
  instanceTypes := #[]
  staticTypes := #[]
  resolved := Array.replicate 56 none
  statics := none }

def pool23 : Array CpInfo := pool [(1, .methodref 2 3), (0, .class_ 4), (0, .nameAndType 5 6), (0, u "java/util/ImmutableCollections$AbstractImmutableCollection"), (0, u "<init>"), (0, u "()V"), (1, .class_ 10), (1, u "java/util/ImmutableCollections"), (2, .methodref 14 15), (0, .class_ 16), (0, .nameAndType 17 18), (0, u "java/util/ImmutableCollections$AbstractImmutableList"), (0, u "size"), (0, u "()I"), (42, .class_ 62), (0, u "java/util/ImmutableCollections$ListItr"), (0, .methodref 61 64), (0, .nameAndType 5 65), (0, u "(Ljava/util/List;I)V"), (11, .class_ 78), (0, u "java/util/List"), (2, u "iterator"), (0, u "()Ljava/util/Iterator;"), (41, .class_ 125), (0, u "java/util/RandomAccess")] 70

def k23c0 : Code := { maxStack := 1, maxLocals := 1, code := jdk_46_method_1_code, exceptionTable := #[], attributes := #[] }
def k23m0 : Method := { name := "<init>", desc := "()V", sig := { parameters := [], returnType := none }, accessFlags := 0, code := some k23c0 }
def k23c1 : Code := { maxStack := 4, maxLocals := 1, code := jdk_46_method_10_code, exceptionTable := #[], attributes := #[] }
def k23m1 : Method := { name := "iterator", desc := "()Ljava/util/Iterator;", sig := { parameters := [], returnType := some (.object "java/util/Iterator") }, accessFlags := 1, code := some k23c1 }
/-- java/util/ImmutableCollections$AbstractImmutableList -/
def k23 : Class := { plain "java/util/ImmutableCollections$AbstractImmutableList" (some 22) with
  accessFlags := 1056
  interfaces := #[6, 8]
  cf := some (fileOf pool23 14 #[.nestHost 8] #[{ accessFlags := 0, nameIndex := 5, descriptorIndex := 6, attributes := #[] }, { accessFlags := 1, nameIndex := 81, descriptorIndex := 82, attributes := #[] }] 1056 2 #[77, 124] #[])
  fields := #[]
  methods := #[k23m0, k23m1]
  instanceTypes := #[]
  staticTypes := #[]
  resolved := Array.replicate 196 none
  statics := none }

def pool24 : Array CpInfo := pool [(1, .methodref 2 3), (0, .class_ 4), (0, .nameAndType 5 6), (0, u "java/util/ImmutableCollections$AbstractImmutableList"), (0, u "<init>"), (0, u "()V"), (0, .methodref 8 9), (0, .class_ 10), (0, .nameAndType 11 12), (0, u "java/util/Objects"), (0, u "requireNonNull"), (0, u "(Ljava/lang/Object;)Ljava/lang/Object;"), (0, .fieldref 14 15), (0, .class_ 16), (0, .nameAndType 17 18), (0, u "java/util/ImmutableCollections$List12"), (0, u "e0"), (0, u "Ljava/lang/Object;"), (0, .fieldref 20 21), (0, .class_ 22), (0, .nameAndType 23 18), (0, u "java/util/ImmutableCollections"), (0, u "EMPTY"), (0, .fieldref 14 25), (0, .nameAndType 26 18), (0, u "e1"), (24, u "size"), (0, u "()I"), (17, .class_ 71), (0, u "java/io/Serializable"), (13, u "(Ljava/lang/Object;Ljava/lang/Object;)V"), (4, u "get"), (0, u "(I)Ljava/lang/Object;")] 33

def k24c0 : Code := { maxStack := 2, maxLocals := 3, code := jdk_44_method_2_code, exceptionTable := #[], attributes := #[] }
def k24m0 : Method := { name := "<init>", desc := "(Ljava/lang/Object;Ljava/lang/Object;)V", sig := { parameters := [(.object "java/lang/Object"), (.object "java/lang/Object")], returnType := none }, accessFlags := 0, code := some k24c0 }
def k24c1 : Code := { maxStack := 2, maxLocals := 1, code := jdk_44_method_3_code, exceptionTable := #[], attributes := #[] }
def k24m1 : Method := { name := "size", desc := "()I", sig := { parameters := [], returnType := some .int }, accessFlags := 1, code := some k24c1 }
def k24c2 : Code := { maxStack := 2, maxLocals := 2, code := jdk_44_method_5_code, exceptionTable := #[], attributes := #[] }
def k24m2 : Method := { name := "get", desc := "(I)Ljava/lang/Object;", sig := { parameters := [.int], returnType := some (.object "java/lang/Object") }, accessFlags := 1, code := some k24c2 }
/-- java/util/ImmutableCollections$List12 -/
def k24 : Class := { plain "java/util/ImmutableCollections$List12" (some 23) with
  accessFlags := 48
  interfaces := #[10]
  cf := some (fileOf pool24 14 #[.nestHost 20] #[{ accessFlags := 0, nameIndex := 5, descriptorIndex := 85, attributes := #[] }, { accessFlags := 1, nameIndex := 51, descriptorIndex := 52, attributes := #[] }, { accessFlags := 1, nameIndex := 90, descriptorIndex := 91, attributes := #[] }] 48 2 #[70] #[{ accessFlags := 18, nameIndex := 17, descriptorIndex := 18, attributes := #[] }, { accessFlags := 18, nameIndex := 26, descriptorIndex := 18, attributes := #[] }])
  fields := #[{ name := "e0", type := (.object "java/lang/Object"), accessFlags := 18, slot := 0, constantValue := 0 }, { name := "e1", type := (.object "java/lang/Object"), accessFlags := 18, slot := 1, constantValue := 0 }]
  methods := #[k24m0, k24m1, k24m2]
  instanceTypes := #[(.object "java/lang/Object"), (.object "java/lang/Object")]
  staticTypes := #[]
  resolved := Array.replicate 125 none
  statics := none }

def pool25 : Array CpInfo := pool [(2, .class_ 4), (1, u "java/util/ImmutableCollections$AbstractImmutableList"), (2, .fieldref 8 9), (0, .class_ 10), (0, .nameAndType 11 12), (0, u "java/util/ImmutableCollections$ListN"), (0, u "elements"), (0, u "[Ljava/lang/Object;"), (2, u "allowNulls"), (0, u "Z"), (42, .class_ 60), (0, u "java/io/Serializable"), (16, u "size"), (0, u "()I"), (35, .class_ 115), (0, u "java/util/ImmutableCollections")] 3

def k25c0 : Code := { maxStack := 1, maxLocals := 1, code := jdk_45_method_3_code, exceptionTable := #[], attributes := #[] }
def k25m0 : Method := { name := "size", desc := "()I", sig := { parameters := [], returnType := some .int }, accessFlags := 1, code := some k25c0 }
/-- java/util/ImmutableCollections$ListN -/
def k25 : Class := { plain "java/util/ImmutableCollections$ListN" (some 23) with
  accessFlags := 48
  interfaces := #[10]
  cf := some (fileOf pool25 8 #[.nestHost 114] #[{ accessFlags := 1, nameIndex := 77, descriptorIndex := 78, attributes := #[] }] 48 2 #[59] #[{ accessFlags := 18, nameIndex := 11, descriptorIndex := 12, attributes := #[] }, { accessFlags := 18, nameIndex := 15, descriptorIndex := 16, attributes := #[] }])
  fields := #[{ name := "elements", type := (.array (.object "java/lang/Object")), accessFlags := 18, slot := 0, constantValue := 0 }, { name := "allowNulls", type := .boolean, accessFlags := 18, slot := 1, constantValue := 0 }]
  methods := #[k25m0]
  instanceTypes := #[(.array (.object "java/lang/Object")), .boolean]
  staticTypes := #[]
  resolved := Array.replicate 119 none
  statics := none }

def pool26 : Array CpInfo := pool [(2, .class_ 4), (1, u "java/lang/Object"), (0, u "<init>"), (0, u "()V"), (7, .class_ 16), (1, u "java/util/Arrays"), (57, .class_ 76), (1, u "java/util/Arrays$NaturalOrder"), (9, .methodref 2 87), (0, .nameAndType 88 89), (0, u "getClass"), (0, u "()Ljava/lang/Class;"), (20, .class_ 111), (0, u "[Ljava/lang/Object;"), (1, .class_ 115), (1, u "java/util/Arrays$LegacyMergeSort"), (1, u "Z"), (32, .methodref 151 152), (0, .class_ 153), (0, .nameAndType 154 155), (0, u "java/lang/System"), (0, u "arraycopy"), (0, u "(Ljava/lang/Object;ILjava/lang/Object;II)V"), (144, .methodref 14 301), (0, .nameAndType 302 303), (0, u "copyOf"), (0, u "([Ljava/lang/Object;ILjava/lang/Class;)[Ljava/lang/Object;"), (0, .methodref 305 306), (0, .class_ 307), (0, .nameAndType 308 309), (0, u "java/lang/Math"), (0, u "min"), (0, u "(II)I"), (65, .class_ 376), (0, u "java/util/Arrays$ArrayList"), (68, u "$assertionsDisabled"), (269, u "MIN_ARRAY_SORT_GRAN"), (0, u "I"), (2, u "INSERTIONSORT_THRESHOLD"), (140, u "([Ljava/lang/Object;I)[Ljava/lang/Object;"), (114, .class_ 976), (0, u "java/util/Arrays$ArrayItr")] 52

def k26m0 : Method := { name := "<init>", desc := "()V", sig := { parameters := [], returnType := none }, accessFlags := 2, code := none }
def k26c1 : Code := { maxStack := 3, maxLocals := 2, code := jdk_65_method_119_code, exceptionTable := #[], attributes := #[] }
def k26m1 : Method := { name := "copyOf", desc := "([Ljava/lang/Object;I)[Ljava/lang/Object;", sig := { parameters := [(.array (.object "java/lang/Object")), .int], returnType := some (.array (.object "java/lang/Object")) }, accessFlags := 9, code := some k26c1 }
def k26c2 : Code := { maxStack := 6, maxLocals := 4, code := jdk_65_method_120_code, exceptionTable := #[], attributes := #[] }
def k26m2 : Method := { name := "copyOf", desc := "([Ljava/lang/Object;ILjava/lang/Class;)[Ljava/lang/Object;", sig := { parameters := [(.array (.object "java/lang/Object")), .int, (.object "java/lang/Class")], returnType := some (.array (.object "java/lang/Object")) }, accessFlags := 9, code := some k26c2 }
/-- java/util/Arrays -/
def k26 : Class := { plain "java/util/Arrays" (some 0) with
  accessFlags := 49
  interfaces := #[]
  cf := some (fileOf pool26 14 #[.nestMembers #[975, 375, 113, 74]] #[{ accessFlags := 2, nameIndex := 5, descriptorIndex := 6, attributes := #[] }, { accessFlags := 9, nameIndex := 302, descriptorIndex := 860, attributes := #[] }, { accessFlags := 9, nameIndex := 302, descriptorIndex := 303, attributes := #[] }] 49 2 #[] #[{ accessFlags := 26, nameIndex := 715, descriptorIndex := 716, attributes := #[] }, { accessFlags := 26, nameIndex := 719, descriptorIndex := 716, attributes := #[] }, { accessFlags := 4120, nameIndex := 445, descriptorIndex := 117, attributes := #[] }])
  fields := #[{ name := "MIN_ARRAY_SORT_GRAN", type := .int, accessFlags := 26, slot := 0, constantValue := 0 }, { name := "INSERTIONSORT_THRESHOLD", type := .int, accessFlags := 26, slot := 1, constantValue := 0 }, { name := "$assertionsDisabled", type := .boolean, accessFlags := 4120, slot := 2, constantValue := 0 }]
  methods := #[k26m0, k26m1, k26m2]
  instanceTypes := #[]
  staticTypes := #[.int, .int, .boolean]
  resolved := Array.replicate 1029 none
  statics := none }

def pool27 : Array CpInfo := pool [(2, .class_ 4), (1, u "java/lang/Object"), (0, u "<init>"), (0, u "()V"), (1, .class_ 10), (1, u "java/lang/System"), (0, u "allowSecurityManager"), (0, u "I"), (16, u "cons"), (0, u "Ljava/io/Console;"), (77, .class_ 110), (1, u "java/lang/System$CallersHolder"), (43, u "initialErrStream"), (0, u "Ljava/io/PrintStream;"), (19, u "security"), (0, u "Ljava/lang/SecurityManager;"), (31, .class_ 209), (0, u "java/lang/System$1"), (7, u "props"), (0, u "Ljava/util/Properties;"), (2, u "lineSeparator"), (0, u "Ljava/lang/String;"), (96, .class_ 321), (1, u "java/lang/System$LoggerFinder"), (5, .class_ 328), (0, u "java/lang/System$Logger"), (67, u "err"), (2, u "out"), (91, u "notSupportedJnuEncoding"), (15, u "in"), (17, u "initialIn"), (0, u "Ljava/io/InputStream;"), (35, u "bootLayer"), (0, u "Ljava/lang/ModuleLayer;"), (99, .class_ 664), (0, u "java/lang/System$2"), (9, u "NEVER"), (2, u "MAYBE"), (49, u "arraycopy"), (0, u "(Ljava/lang/Object;ILjava/lang/Object;II)V"), (72, .class_ 802), (0, u "java/lang/System$Logger$Level")] 31

def k27m0 : Method := { name := "<init>", desc := "()V", sig := { parameters := [], returnType := none }, accessFlags := 2, code := none }
def k27m1 : Method := { name := "arraycopy", desc := "(Ljava/lang/Object;ILjava/lang/Object;II)V", sig := { parameters := [(.object "java/lang/Object"), .int, (.object "java/lang/Object"), .int, .int], returnType := none }, accessFlags := 265, code := none }
/-- java/lang/System -/
def k27 : Class := { plain "java/lang/System" (some 0) with
  accessFlags := 49
  interfaces := #[]
  cf := some (fileOf pool27 8 #[.nestMembers #[319, 327, 801, 108, 663, 208]] #[{ accessFlags := 2, nameIndex := 5, descriptorIndex := 6, attributes := #[] }, { accessFlags := 265, nameIndex := 727, descriptorIndex := 728, attributes := #[] }] 49 2 #[] #[{ accessFlags := 25, nameIndex := 507, descriptorIndex := 526, attributes := #[] }, { accessFlags := 25, nameIndex := 399, descriptorIndex := 155, attributes := #[] }, { accessFlags := 25, nameIndex := 396, descriptorIndex := 155, attributes := #[] }, { accessFlags := 10, nameIndex := 525, descriptorIndex := 526, attributes := #[] }, { accessFlags := 26, nameIndex := 674, descriptorIndex := 12, attributes := #[] }, { accessFlags := 26, nameIndex := 677, descriptorIndex := 12, attributes := #[] }, { accessFlags := 10, nameIndex := 11, descriptorIndex := 12, attributes := #[] }, { accessFlags := 74, nameIndex := 175, descriptorIndex := 176, attributes := #[] }, { accessFlags := 10, nameIndex := 491, descriptorIndex := 222, attributes := #[] }, { accessFlags := 74, nameIndex := 29, descriptorIndex := 30, attributes := #[] }, { accessFlags := 74, nameIndex := 154, descriptorIndex := 155, attributes := #[] }, { accessFlags := 10, nameIndex := 217, descriptorIndex := 218, attributes := #[] }, { accessFlags := 10, nameIndex := 221, descriptorIndex := 222, attributes := #[] }, { accessFlags := 8, nameIndex := 562, descriptorIndex := 563, attributes := #[] }])
  fields := #[{ name := "in", type := (.object "java/io/InputStream"), accessFlags := 25, slot := 0, constantValue := 0 }, { name := "out", type := (.object "java/io/PrintStream"), accessFlags := 25, slot := 1, constantValue := 0 }, { name := "err", type := (.object "java/io/PrintStream"), accessFlags := 25, slot := 2, constantValue := 0 }, { name := "initialIn", type := (.object "java/io/InputStream"), accessFlags := 10, slot := 3, constantValue := 0 }, { name := "NEVER", type := .int, accessFlags := 26, slot := 4, constantValue := 0 }, { name := "MAYBE", type := .int, accessFlags := 26, slot := 5, constantValue := 0 }, { name := "allowSecurityManager", type := .int, accessFlags := 10, slot := 6, constantValue := 0 }, { name := "security", type := (.object "java/lang/SecurityManager"), accessFlags := 74, slot := 7, constantValue := 0 }, { name := "notSupportedJnuEncoding", type := (.object "java/lang/String"), accessFlags := 10, slot := 8, constantValue := 0 }, { name := "cons", type := (.object "java/io/Console"), accessFlags := 74, slot := 9, constantValue := 0 }, { name := "initialErrStream", type := (.object "java/io/PrintStream"), accessFlags := 74, slot := 10, constantValue := 0 }, { name := "props", type := (.object "java/util/Properties"), accessFlags := 10, slot := 11, constantValue := 0 }, { name := "lineSeparator", type := (.object "java/lang/String"), accessFlags := 10, slot := 12, constantValue := 0 }, { name := "bootLayer", type := (.object "java/lang/ModuleLayer"), accessFlags := 8, slot := 13, constantValue := 0 }]
  methods := #[k27m0, k27m1]
  instanceTypes := #[]
  staticTypes := #[(.object "java/io/InputStream"), (.object "java/io/PrintStream"), (.object "java/io/PrintStream"), (.object "java/io/InputStream"), .int, .int, .int, (.object "java/lang/SecurityManager"), (.object "java/lang/String"), (.object "java/io/Console"), (.object "java/io/PrintStream"), (.object "java/util/Properties"), (.object "java/lang/String"), (.object "java/lang/ModuleLayer")]
  resolved := Array.replicate 834 none
  statics := none }

def pool28 : Array CpInfo := pool [(2, .class_ 4), (1, u "java/lang/Object"), (0, u "<init>"), (0, u "()V"), (35, .class_ 44), (1, u "java/util/Objects"), (0, u "requireNonNull"), (0, u "(Ljava/lang/Object;)Ljava/lang/Object;")] 137

def k28m0 : Method := { name := "<init>", desc := "()V", sig := { parameters := [], returnType := none }, accessFlags := 2, code := none }
def k28c1 : Code := { maxStack := 2, maxLocals := 1, code := jdk_31_method_10_code, exceptionTable := #[], attributes := #[] }
def k28m1 : Method := { name := "requireNonNull", desc := "(Ljava/lang/Object;)Ljava/lang/Object;", sig := { parameters := [(.object "java/lang/Object")], returnType := some (.object "java/lang/Object") }, accessFlags := 9, code := some k28c1 }
/-- java/util/Objects -/
def k28 : Class := { plain "java/util/Objects" (some 0) with
  accessFlags := 49
  interfaces := #[]
  cf := some (fileOf pool28 42 #[] #[{ accessFlags := 2, nameIndex := 5, descriptorIndex := 6, attributes := #[] }, { accessFlags := 9, nameIndex := 45, descriptorIndex := 46, attributes := #[] }] 49 2 #[] #[])
  fields := #[]
  methods := #[k28m0, k28m1]
  instanceTypes := #[]
  staticTypes := #[]
  resolved := Array.replicate 184 none
  statics := none }

def pool29 : Array CpInfo := pool [(16, .class_ 18), (1, u "java/util/Iterator"), (0, u "hasNext"), (0, u "()Z"), (10, .class_ 32), (0, u "java/lang/Object")] 20

def k29m0 : Method := { name := "hasNext", desc := "()Z", sig := { parameters := [], returnType := some .boolean }, accessFlags := 1025, code := none }
/-- java/util/Iterator -/
def k29 : Class := { plain "java/util/Iterator" (some 0) with
  accessFlags := 1537
  interfaces := #[]
  cf := some (fileOf pool29 16 #[] #[{ accessFlags := 1025, nameIndex := 19, descriptorIndex := 20, attributes := #[] }] 1537 31 #[] #[])
  fields := #[]
  methods := #[k29m0]
  instanceTypes := #[]
  staticTypes := #[]
  resolved := Array.replicate 53 none
  statics := none }

def pool30 : Array CpInfo := pool [(1, .class_ 2), (0, u "java/util/ListIterator"), (0, .class_ 4), (0, u "java/lang/Object"), (0, .class_ 6), (0, u "java/util/Iterator")] 20

/-- java/util/ListIterator -/
def k30 : Class := { plain "java/util/ListIterator" (some 0) with
  accessFlags := 1537
  interfaces := #[29]
  cf := some (fileOf pool30 1 #[] #[] 1537 3 #[5] #[])
  fields := #[]
  methods := #[]
  instanceTypes := #[]
  staticTypes := #[]
  resolved := Array.replicate 27 none
  statics := none }

def pool31 : Array CpInfo := pool [(1, .methodref 2 3), (0, .class_ 4), (0, .nameAndType 5 6), (0, u "java/lang/Object"), (0, u "<init>"), (0, u "()V"), (0, .fieldref 8 9), (0, .class_ 10), (0, .nameAndType 11 12), (0, u "java/util/ImmutableCollections$ListItr"), (0, u "list"), (0, u "Ljava/util/List;"), (0, .fieldref 8 14), (0, .nameAndType 15 16), (0, u "size"), (0, u "I"), (0, .fieldref 8 18), (0, .nameAndType 19 16), (0, u "cursor"), (0, .fieldref 8 21), (0, .nameAndType 22 23), (0, u "isListIterator"), (0, u "Z"), (12, .class_ 38), (1, u "java/util/ImmutableCollections"), (2, .class_ 42), (0, u "java/util/ListIterator"), (4, u "(Ljava/util/List;I)V"), (11, u "hasNext"), (0, u "()Z")] 25

def k31c0 : Code := { maxStack := 2, maxLocals := 3, code := jdk_53_method_1_code, exceptionTable := #[], attributes := #[] }
def k31m0 : Method := { name := "<init>", desc := "(Ljava/util/List;I)V", sig := { parameters := [(.object "java/util/List"), .int], returnType := none }, accessFlags := 0, code := some k31c0 }
def k31c1 : Code := { maxStack := 2, maxLocals := 1, code := jdk_53_method_3_code, exceptionTable := #[], attributes := #[] }
def k31m1 : Method := { name := "hasNext", desc := "()Z", sig := { parameters := [], returnType := some .boolean }, accessFlags := 1, code := some k31c1 }
/-- java/util/ImmutableCollections$ListItr -/
def k31 : Class := { plain "java/util/ImmutableCollections$ListItr" (some 0) with
  accessFlags := 48
  interfaces := #[30]
  cf := some (fileOf pool31 8 #[.nestHost 36] #[{ accessFlags := 0, nameIndex := 5, descriptorIndex := 47, attributes := #[] }, { accessFlags := 1, nameIndex := 59, descriptorIndex := 60, attributes := #[] }] 48 2 #[41] #[{ accessFlags := 18, nameIndex := 11, descriptorIndex := 12, attributes := #[] }, { accessFlags := 18, nameIndex := 15, descriptorIndex := 16, attributes := #[] }, { accessFlags := 18, nameIndex := 22, descriptorIndex := 23, attributes := #[] }, { accessFlags := 2, nameIndex := 19, descriptorIndex := 16, attributes := #[] }])
  fields := #[{ name := "list", type := (.object "java/util/List"), accessFlags := 18, slot := 0, constantValue := 0 }, { name := "size", type := .int, accessFlags := 18, slot := 1, constantValue := 0 }, { name := "isListIterator", type := .boolean, accessFlags := 18, slot := 2, constantValue := 0 }, { name := "cursor", type := .int, accessFlags := 2, slot := 3, constantValue := 0 }]
  methods := #[k31m0, k31m1]
  instanceTypes := #[(.object "java/util/List"), .int, .boolean, .int]
  staticTypes := #[]
  resolved := Array.replicate 86 none
  statics := none }

def pool32 : Array CpInfo := pool [(1, u "java/lang/Class"), (0, .class_ 1), (0, u "java/lang/Object"), (0, .class_ 3)] 0

/-- java/lang/Class -/
def k32 : Class := { plain "java/lang/Class" (some 0) with
  accessFlags := 49
  interfaces := #[]
  cf := some (fileOf pool32 2 #[] #[] 49 4 #[] #[])
  fields := #[]
  methods := #[]
  instanceTypes := #[]
  staticTypes := #[]
  resolved := Array.replicate 5 none
  statics := none }

/-- the primitive boolean -/
def k33 : Class := { plain "boolean" none with kind := .primitive 'Z', accessFlags := 0x411 }
/-- [Z -/
def k34 : Class := { plain "[Z" (some 0) with kind := .array 33 .boolean, interfaces := #[9, 10], accessFlags := 1041 }

/-- the primitive byte -/
def k35 : Class := { plain "byte" none with kind := .primitive 'B', accessFlags := 0x411 }
/-- [B -/
def k36 : Class := { plain "[B" (some 0) with kind := .array 35 .byte, interfaces := #[9, 10], accessFlags := 1041 }

/-- the primitive int -/
def k37 : Class := { plain "int" none with kind := .primitive 'I', accessFlags := 0x411 }
/-- [I -/
def k38 : Class := { plain "[I" (some 0) with kind := .array 37 .int, interfaces := #[9, 10], accessFlags := 1041 }

/-- the primitive long -/
def k39 : Class := { plain "long" none with kind := .primitive 'J', accessFlags := 0x411 }
/-- [J -/
def k40 : Class := { plain "[J" (some 0) with kind := .array 39 .long, interfaces := #[9, 10], accessFlags := 1041 }

/-- [Ljava/lang/Object; -/
def k41 : Class := { plain "[Ljava/lang/Object;" (some 0) with mirror := some 2, kind := .array 0 (.object "java/lang/Object"), interfaces := #[9, 10], accessFlags := 1041 }

/-- [[J -/
def k42 : Class := { plain "[[J" (some 0) with kind := .array 40 (.array .long), interfaces := #[9, 10], accessFlags := 1041 }

def heap : Heap := #[{ cls := 11, slots := #[.long 0, .int 0, .ref 3, .ref 4], vm := .statics 11 },
  { cls := 21, slots := #[.long 0, .int 0, .null, .ref 6, .ref 5, .null, .null, .null, .int 0, .int 1], vm := .statics 21 },
  { cls := 32, slots := #[], vm := .mirror 41 },
  { cls := 41, slots := #[], vm := .none },
  { cls := 41, slots := #[], vm := .none },
  { cls := 25, slots := #[.ref 7, .int 0], vm := .none },
  { cls := 0, slots := #[], vm := .none },
  { cls := 41, slots := #[], vm := .none }]
def classes : Array Class := #[k0, k1, k2, k3, k4, k5, k6, k7, k8, k9, k10, k11, k12, k13, k14, k15, k16, k17, k18, k19, k20, k21, k22, k23, k24, k25, k26, k27, k28, k29, k30, k31, k32, k33, k34, k35, k36, k37, k38, k39, k40, k41, k42]
def interned : List (Array UInt16 × Addr) := []
def slotsUsed : Nat := 16
def theMethod : MethodId := ⟨1, 2⟩
def args0 : Array Value := #[.int 5, .int 3, .int 1, .int 28]
def aboutOver (below : List Frame) : State where
  vm := { classes := classes, interned := interned.toArray }
  heap := heap
  slotsUsed := slotsUsed
  threads := #[{ frames := .invoking theMethod args0 :: below }]
def below0 : List Frame := [.native { method := ⟨0, 0⟩, args := #[] }]
def about1 : State := aboutOver below0
def p0 : Program := .bare "" "" ""
def e0 : Env := launch0.env 0 0 0
theorem w_frames : about1.frames = Frame.invoking theMethod args0 :: below0 := rfl
set_option maxRecDepth 65536 in
theorem w_args : argsFit about1.vm theMethod args0 = true := by decide +kernel
set_option maxRecDepth 65536 in
theorem w_heap : heapFits about1 = true := by decide +kernel
set_option maxRecDepth 65536 in
theorem w_runnable : about1.curStatus? = some .runnable := by decide +kernel
set_option maxRecDepth 65536 in
theorem w_alone : about1.alone = true := by decide +kernel
set_option maxRecDepth 65536 in
theorem w_named : about1.methodNamed? x = some theMethod := by decide +kernel
set_option maxRecDepth 65536 in
theorem w_hears : about1.hears theMethod below0 = true := by decide +kernel
set_option maxRecDepth 65536 in
theorem w_ripe : about1.ripe theMethod args0 below0 = true := by decide +kernel
theorem w_running : about1.status = .running := rfl
set_option maxRecDepth 65536 in
theorem w_room : about1.hasRoom e0.platform room_1 = true :=
  launch0.hasRoom_least _ room_1 (by decide +kernel) (by decide +kernel) (by decide +kernel) (by decide +kernel) (by decide +kernel) (by decide +kernel)
theorem allAtoms_all (ts : List Jvm.Cond) (a : Array Jvm.Value) (st : Jvm.State) : (allAtoms ts).before a st = ts.all (fun c => c.before a st) := by
  induction ts with
  | nil => rfl
  | cons c t ih =>
    show (Jvm.Cond.and c (allAtoms t)).before a st = _
    rw [Jvm.Cond.before_and, ih, List.all_cons]
def words1 : List Jvm.Cond := Jvm.Cond.code x code maxLocals ret :: tables_1
/-- a 'code' word, met by the world's own term for the bytes: nothing is compared byte by byte -/
theorem code_word {y : MethodName} {bytes : ByteArray} {mx : Nat} {rt : Option FieldType} {a : Array Value} {s : State} {m : MethodId} {meth : Method} {c : Code} (h1 : s.methodNamed? y = some m) (h2 : s.vm.method? m = some meth) (h3 : meth.code = some c) (h4 : c.code = bytes)
    (h5 : (c.maxLocals == mx && c.exceptionTable.isEmpty && decide (c.maxStack ≤ mostOperands) && decide (meth.sig.returnType = rt) && !meth.locks && decide (parseMethodDescriptor y.desc = some meth.sig)) = true) : (Jvm.Cond.code y bytes mx rt).before a s = true := by
  simp only [Bool.and_eq_true, beq_iff_eq, Bool.not_eq_true', decide_eq_true_eq] at h5
  obtain ⟨⟨⟨⟨⟨g1, g2⟩, g3⟩, g4⟩, g5⟩, g6⟩ := h5
  simp [Cond.before, Cond.holds, Cond.value, h1, h2, h3, h4, g1, g2, g3, g4, g5, g6]
def isCode : Jvm.Cond → Bool
  | .code _ _ _ _ => true
  | _ => false
theorem all_split {L : List Jvm.Cond} {P : Jvm.Cond → Bool} (h1 : L.all (fun c => isCode c || P c) = true) (h2 : ∀ c ∈ L.filter isCode, P c = true) : L.all P = true := by
  refine List.all_eq_true.mpr fun c hc => ?_
  have h := List.all_eq_true.mp h1 c hc
  rcases Bool.eq_false_or_eq_true (isCode c) with hi | hi
  · exact h2 c (List.mem_filter.mpr ⟨hc, hi⟩)
  · simpa [hi] using h
set_option maxRecDepth 65536 in
theorem w_c0 : (Jvm.Cond.code x code maxLocals ret).before args0 about1 = true := code_word (m := ⟨1, 2⟩) (meth := k1m2) (c := k1c2) (by decide +kernel) rfl rfl rfl (by decide +kernel)
set_option maxRecDepth 65536 in
theorem w_c1 : (Jvm.Cond.code ({ cls := "java/util/ArrayList", name := "<init>", desc := "()V" } : Jvm.MethodName) jdk_38_method_2_code (1 : Nat) (Option.none : Option Jvm.ClassFile.FieldType)).before args0 about1 = true := code_word (m := ⟨11, 0⟩) (meth := k11m0) (c := k11c0) (by decide +kernel) rfl rfl rfl (by decide +kernel)
set_option maxRecDepth 65536 in
theorem w_c2 : (Jvm.Cond.code ({ cls := "java/util/AbstractList", name := "<init>", desc := "()V" } : Jvm.MethodName) jdk_39_method_1_code (1 : Nat) (Option.none : Option Jvm.ClassFile.FieldType)).before args0 about1 = true := code_word (m := ⟨7, 0⟩) (meth := k7m0) (c := k7c0) (by decide +kernel) rfl rfl rfl (by decide +kernel)
set_option maxRecDepth 65536 in
theorem w_c3 : (Jvm.Cond.code ({ cls := "java/util/AbstractCollection", name := "<init>", desc := "()V" } : Jvm.MethodName) jdk_22_method_1_code (1 : Nat) (Option.none : Option Jvm.ClassFile.FieldType)).before args0 about1 = true := code_word (m := ⟨4, 0⟩) (meth := k4m0) (c := k4c0) (by decide +kernel) rfl rfl rfl (by decide +kernel)
set_option maxRecDepth 65536 in
theorem w_c4 : (Jvm.Cond.code ({ cls := "java/lang/Object", name := "<init>", desc := "()V" } : Jvm.MethodName) object_method_1_code (1 : Nat) (Option.none : Option Jvm.ClassFile.FieldType)).before args0 about1 = true := code_word (m := ⟨0, 0⟩) (meth := k0m0) (c := k0c0) (by decide +kernel) rfl rfl rfl (by decide +kernel)
set_option maxRecDepth 65536 in
theorem w_c5 : (Jvm.Cond.code ({ cls := "com/example/arcward/arcward/model/Variable", name := "<init>", desc := "(Ljava/lang/String;I[I)V" } : Jvm.MethodName) prog_43_method_1_code (5 : Nat) (Option.none : Option Jvm.ClassFile.FieldType)).before args0 about1 = true := code_word (m := ⟨12, 0⟩) (meth := k12m0) (c := k12c0) (by decide +kernel) rfl rfl rfl (by decide +kernel)
set_option maxRecDepth 65536 in
theorem w_c6 : (Jvm.Cond.code ({ cls := "java/util/ArrayList", name := "add", desc := "(Ljava/lang/Object;)Z" } : Jvm.MethodName) jdk_38_method_25_code (2 : Nat) (Option.some Jvm.ClassFile.FieldType.boolean)).before args0 about1 = true := code_word (m := ⟨11, 6⟩) (meth := k11m6) (c := k11c6) (by decide +kernel) rfl rfl rfl (by decide +kernel)
set_option maxRecDepth 65536 in
theorem w_c7 : (Jvm.Cond.code ({ cls := "java/util/ArrayList", name := "add", desc := "(Ljava/lang/Object;[Ljava/lang/Object;I)V" } : Jvm.MethodName) jdk_38_method_24_code (4 : Nat) (Option.none : Option Jvm.ClassFile.FieldType)).before args0 about1 = true := code_word (m := ⟨11, 5⟩) (meth := k11m5) (c := k11c5) (by decide +kernel) rfl rfl rfl (by decide +kernel)
set_option maxRecDepth 65536 in
theorem w_c8 : (Jvm.Cond.code ({ cls := "java/util/ArrayList", name := "grow", desc := "()[Ljava/lang/Object;" } : Jvm.MethodName) jdk_38_method_7_code (1 : Nat) (Option.some (Jvm.ClassFile.FieldType.array (Jvm.ClassFile.FieldType.object "java/lang/Object")))).before args0 about1 = true := code_word (m := ⟨11, 2⟩) (meth := k11m2) (c := k11c2) (by decide +kernel) rfl rfl rfl (by decide +kernel)
set_option maxRecDepth 65536 in
theorem w_c9 : (Jvm.Cond.code ({ cls := "java/util/ArrayList", name := "grow", desc := "(I)[Ljava/lang/Object;" } : Jvm.MethodName) jdk_38_method_6_code (4 : Nat) (Option.some (Jvm.ClassFile.FieldType.array (Jvm.ClassFile.FieldType.object "java/lang/Object")))).before args0 about1 = true := code_word (m := ⟨11, 1⟩) (meth := k11m1) (c := k11c1) (by decide +kernel) rfl rfl rfl (by decide +kernel)
set_option maxRecDepth 65536 in
theorem w_c10 : (Jvm.Cond.code ({ cls := "java/lang/Math", name := "max", desc := "(II)I" } : Jvm.MethodName) jdk_29_method_65_code (2 : Nat) (Option.some Jvm.ClassFile.FieldType.int)).before args0 about1 = true := code_word (m := ⟨18, 1⟩) (meth := k18m1) (c := k18c1) (by decide +kernel) rfl rfl rfl (by decide +kernel)
set_option maxRecDepth 65536 in
theorem w_c11 : (Jvm.Cond.code ({ cls := "com/example/arcward/arcward/model/Instance", name := "<init>", desc := "(Ljava/util/List;Ljava/util/List;)V" } : Jvm.MethodName) prog_11_method_1_code (7 : Nat) (Option.none : Option Jvm.ClassFile.FieldType)).before args0 about1 = true := code_word (m := ⟨20, 0⟩) (meth := k20m0) (c := k20c0) (by decide +kernel) rfl rfl rfl (by decide +kernel)
set_option maxRecDepth 65536 in
theorem w_c12 : (Jvm.Cond.code ({ cls := "java/util/List", name := "copyOf", desc := "(Ljava/util/Collection;)Ljava/util/List;" } : Jvm.MethodName) jdk_40_method_48_code (1 : Nat) (Option.some (Jvm.ClassFile.FieldType.object "java/util/List"))).before args0 about1 = true := code_word (m := ⟨6, 5⟩) (meth := k6m5) (c := k6c5) (by decide +kernel) rfl rfl rfl (by decide +kernel)
set_option maxRecDepth 65536 in
theorem w_c13 : (Jvm.Cond.code ({ cls := "java/util/ImmutableCollections", name := "listCopy", desc := "(Ljava/util/Collection;)Ljava/util/List;" } : Jvm.MethodName) jdk_56_method_3_code (2 : Nat) (Option.some (Jvm.ClassFile.FieldType.object "java/util/List"))).before args0 about1 = true := code_word (m := ⟨21, 1⟩) (meth := k21m1) (c := k21c1) (by decide +kernel) rfl rfl rfl (by decide +kernel)
set_option maxRecDepth 65536 in
theorem w_c14 : (Jvm.Cond.code ({ cls := "java/util/ArrayList", name := "isEmpty", desc := "()Z" } : Jvm.MethodName) jdk_38_method_9_code (1 : Nat) (Option.some Jvm.ClassFile.FieldType.boolean)).before args0 about1 = true := code_word (m := ⟨11, 3⟩) (meth := k11m3) (c := k11c3) (by decide +kernel) rfl rfl rfl (by decide +kernel)
set_option maxRecDepth 65536 in
theorem w_c15 : (Jvm.Cond.code ({ cls := "java/util/ArrayList", name := "toArray", desc := "()[Ljava/lang/Object;" } : Jvm.MethodName) jdk_38_method_16_code (1 : Nat) (Option.some (Jvm.ClassFile.FieldType.array (Jvm.ClassFile.FieldType.object "java/lang/Object")))).before args0 about1 = true := code_word (m := ⟨11, 4⟩) (meth := k11m4) (c := k11c4) (by decide +kernel) rfl rfl rfl (by decide +kernel)
set_option maxRecDepth 65536 in
theorem w_c16 : (Jvm.Cond.code ({ cls := "java/util/Arrays", name := "copyOf", desc := "([Ljava/lang/Object;I)[Ljava/lang/Object;" } : Jvm.MethodName) jdk_65_method_119_code (2 : Nat) (Option.some (Jvm.ClassFile.FieldType.array (Jvm.ClassFile.FieldType.object "java/lang/Object")))).before args0 about1 = true := code_word (m := ⟨26, 1⟩) (meth := k26m1) (c := k26c1) (by decide +kernel) rfl rfl rfl (by decide +kernel)
set_option maxRecDepth 65536 in
theorem w_c17 : (Jvm.Cond.code ({ cls := "java/util/Arrays", name := "copyOf", desc := "([Ljava/lang/Object;ILjava/lang/Class;)[Ljava/lang/Object;" } : Jvm.MethodName) jdk_65_method_120_code (4 : Nat) (Option.some (Jvm.ClassFile.FieldType.array (Jvm.ClassFile.FieldType.object "java/lang/Object")))).before args0 about1 = true := code_word (m := ⟨26, 2⟩) (meth := k26m2) (c := k26c2) (by decide +kernel) rfl rfl rfl (by decide +kernel)
set_option maxRecDepth 65536 in
theorem w_c18 : (Jvm.Cond.code ({ cls := "java/lang/Math", name := "min", desc := "(II)I" } : Jvm.MethodName) jdk_29_method_69_code (2 : Nat) (Option.some Jvm.ClassFile.FieldType.int)).before args0 about1 = true := code_word (m := ⟨18, 2⟩) (meth := k18m2) (c := k18c2) (by decide +kernel) rfl rfl rfl (by decide +kernel)
set_option maxRecDepth 65536 in
theorem w_c19 : (Jvm.Cond.code ({ cls := "java/util/List", name := "of", desc := "([Ljava/lang/Object;)Ljava/util/List;" } : Jvm.MethodName) jdk_40_method_47_code (2 : Nat) (Option.some (Jvm.ClassFile.FieldType.object "java/util/List"))).before args0 about1 = true := code_word (m := ⟨6, 4⟩) (meth := k6m4) (c := k6c4) (by decide +kernel) rfl rfl rfl (by decide +kernel)
set_option maxRecDepth 65536 in
theorem w_c20 : (Jvm.Cond.code ({ cls := "java/util/ImmutableCollections$List12", name := "<init>", desc := "(Ljava/lang/Object;Ljava/lang/Object;)V" } : Jvm.MethodName) jdk_44_method_2_code (3 : Nat) (Option.none : Option Jvm.ClassFile.FieldType)).before args0 about1 = true := code_word (m := ⟨24, 0⟩) (meth := k24m0) (c := k24c0) (by decide +kernel) rfl rfl rfl (by decide +kernel)
set_option maxRecDepth 65536 in
theorem w_c21 : (Jvm.Cond.code ({ cls := "java/util/ImmutableCollections$AbstractImmutableList", name := "<init>", desc := "()V" } : Jvm.MethodName) jdk_46_method_1_code (1 : Nat) (Option.none : Option Jvm.ClassFile.FieldType)).before args0 about1 = true := code_word (m := ⟨23, 0⟩) (meth := k23m0) (c := k23c0) (by decide +kernel) rfl rfl rfl (by decide +kernel)
set_option maxRecDepth 65536 in
theorem w_c22 : (Jvm.Cond.code ({ cls := "java/util/ImmutableCollections$AbstractImmutableCollection", name := "<init>", desc := "()V" } : Jvm.MethodName) jdk_47_method_1_code (1 : Nat) (Option.none : Option Jvm.ClassFile.FieldType)).before args0 about1 = true := code_word (m := ⟨22, 0⟩) (meth := k22m0) (c := k22c0) (by decide +kernel) rfl rfl rfl (by decide +kernel)
set_option maxRecDepth 65536 in
theorem w_c23 : (Jvm.Cond.code ({ cls := "java/util/Objects", name := "requireNonNull", desc := "(Ljava/lang/Object;)Ljava/lang/Object;" } : Jvm.MethodName) jdk_31_method_10_code (1 : Nat) (Option.some (Jvm.ClassFile.FieldType.object "java/lang/Object"))).before args0 about1 = true := code_word (m := ⟨28, 1⟩) (meth := k28m1) (c := k28c1) (by decide +kernel) rfl rfl rfl (by decide +kernel)
set_option maxRecDepth 65536 in
theorem w_c24 : (Jvm.Cond.code ({ cls := "java/util/List", name := "of", desc := "()Ljava/util/List;" } : Jvm.MethodName) jdk_40_method_36_code (0 : Nat) (Option.some (Jvm.ClassFile.FieldType.object "java/util/List"))).before args0 about1 = true := code_word (m := ⟨6, 3⟩) (meth := k6m3) (c := k6c3) (by decide +kernel) rfl rfl rfl (by decide +kernel)
set_option maxRecDepth 65536 in
theorem w_c25 : (Jvm.Cond.code ({ cls := "java/util/ImmutableCollections$List12", name := "size", desc := "()I" } : Jvm.MethodName) jdk_44_method_3_code (1 : Nat) (Option.some Jvm.ClassFile.FieldType.int)).before args0 about1 = true := code_word (m := ⟨24, 1⟩) (meth := k24m1) (c := k24c1) (by decide +kernel) rfl rfl rfl (by decide +kernel)
set_option maxRecDepth 65536 in
theorem w_c26 : (Jvm.Cond.code ({ cls := "java/util/ImmutableCollections$List12", name := "get", desc := "(I)Ljava/lang/Object;" } : Jvm.MethodName) jdk_44_method_5_code (2 : Nat) (Option.some (Jvm.ClassFile.FieldType.object "java/lang/Object"))).before args0 about1 = true := code_word (m := ⟨24, 2⟩) (meth := k24m2) (c := k24c2) (by decide +kernel) rfl rfl rfl (by decide +kernel)
set_option maxRecDepth 65536 in
theorem w_c27 : (Jvm.Cond.code ({ cls := "com/example/arcward/arcward/model/Variable", name := "index", desc := "()I" } : Jvm.MethodName) prog_43_method_3_code (1 : Nat) (Option.some Jvm.ClassFile.FieldType.int)).before args0 about1 = true := code_word (m := ⟨12, 1⟩) (meth := k12m1) (c := k12c1) (by decide +kernel) rfl rfl rfl (by decide +kernel)
set_option maxRecDepth 65536 in
theorem w_c28 : (Jvm.Cond.code ({ cls := "java/util/ImmutableCollections$AbstractImmutableList", name := "iterator", desc := "()Ljava/util/Iterator;" } : Jvm.MethodName) jdk_46_method_10_code (1 : Nat) (Option.some (Jvm.ClassFile.FieldType.object "java/util/Iterator"))).before args0 about1 = true := code_word (m := ⟨23, 1⟩) (meth := k23m1) (c := k23c1) (by decide +kernel) rfl rfl rfl (by decide +kernel)
set_option maxRecDepth 65536 in
theorem w_c29 : (Jvm.Cond.code ({ cls := "java/util/ImmutableCollections$ListN", name := "size", desc := "()I" } : Jvm.MethodName) jdk_45_method_3_code (1 : Nat) (Option.some Jvm.ClassFile.FieldType.int)).before args0 about1 = true := code_word (m := ⟨25, 0⟩) (meth := k25m0) (c := k25c0) (by decide +kernel) rfl rfl rfl (by decide +kernel)
set_option maxRecDepth 65536 in
theorem w_c30 : (Jvm.Cond.code ({ cls := "java/util/ImmutableCollections$ListItr", name := "<init>", desc := "(Ljava/util/List;I)V" } : Jvm.MethodName) jdk_53_method_1_code (3 : Nat) (Option.none : Option Jvm.ClassFile.FieldType)).before args0 about1 = true := code_word (m := ⟨31, 0⟩) (meth := k31m0) (c := k31c0) (by decide +kernel) rfl rfl rfl (by decide +kernel)
set_option maxRecDepth 65536 in
theorem w_c31 : (Jvm.Cond.code ({ cls := "java/util/ImmutableCollections$ListItr", name := "hasNext", desc := "()Z" } : Jvm.MethodName) jdk_53_method_3_code (1 : Nat) (Option.some Jvm.ClassFile.FieldType.boolean)).before args0 about1 = true := code_word (m := ⟨31, 1⟩) (meth := k31m1) (c := k31c1) (by decide +kernel) rfl rfl rfl (by decide +kernel)
set_option maxRecDepth 65536 in
theorem w_c32 : (Jvm.Cond.code ({ cls := "com/example/arcward/arcward/solver/Domains", name := "<init>", desc := "(Lcom/example/arcward/arcward/model/Instance;I)V" } : Jvm.MethodName) prog_50_method_1_code (7 : Nat) (Option.none : Option Jvm.ClassFile.FieldType)).before args0 about1 = true := code_word (m := ⟨19, 0⟩) (meth := k19m0) (c := k19c0) (by decide +kernel) rfl rfl rfl (by decide +kernel)
set_option maxRecDepth 65536 in
theorem w_c33 : (Jvm.Cond.code ({ cls := "com/example/arcward/arcward/model/Instance", name := "variables", desc := "()Ljava/util/List;" } : Jvm.MethodName) prog_11_method_2_code (1 : Nat) (Option.some (Jvm.ClassFile.FieldType.object "java/util/List"))).before args0 about1 = true := code_word (m := ⟨20, 1⟩) (meth := k20m1) (c := k20c1) (by decide +kernel) rfl rfl rfl (by decide +kernel)
set_option maxRecDepth 65536 in
theorem w_c34 : (Jvm.Cond.code ({ cls := "com/example/arcward/arcward/model/Variable", name := "size", desc := "()I" } : Jvm.MethodName) prog_43_method_4_code (1 : Nat) (Option.some Jvm.ClassFile.FieldType.int)).before args0 about1 = true := code_word (m := ⟨12, 2⟩) (meth := k12m2) (c := k12c2) (by decide +kernel) rfl rfl rfl (by decide +kernel)
set_option maxRecDepth 65536 in
theorem w_c35 : (Jvm.Cond.code ({ cls := "com/example/arcward/arcward/solver/Domains", name := "wordsFor", desc := "(I)I" } : Jvm.MethodName) prog_50_method_12_code (1 : Nat) (Option.some Jvm.ClassFile.FieldType.int)).before args0 about1 = true := code_word (m := ⟨19, 2⟩) (meth := k19m2) (c := k19c2) (by decide +kernel) rfl rfl rfl (by decide +kernel)
set_option maxRecDepth 65536 in
theorem w_c36 : (Jvm.Cond.code ({ cls := "com/example/arcward/arcward/solver/DomainsContainsPinLaw", name := "sizeOf", desc := "(I)I" } : Jvm.MethodName) method_2_code (1 : Nat) (Option.some Jvm.ClassFile.FieldType.int)).before args0 about1 = true := code_word (m := ⟨1, 1⟩) (meth := k1m1) (c := k1c1) (by decide +kernel) rfl rfl rfl (by decide +kernel)
set_option maxRecDepth 65536 in
theorem w_c37 : (Jvm.Cond.code ({ cls := "com/example/arcward/arcward/solver/Domains", name := "mark", desc := "()I" } : Jvm.MethodName) prog_50_method_21_code (1 : Nat) (Option.some Jvm.ClassFile.FieldType.int)).before args0 about1 = true := code_word (m := ⟨19, 5⟩) (meth := k19m5) (c := k19c5) (by decide +kernel) rfl rfl rfl (by decide +kernel)
set_option maxRecDepth 65536 in
theorem w_c38 : (Jvm.Cond.code ({ cls := "com/example/arcward/arcward/solver/Domains", name := "contains", desc := "(II)Z" } : Jvm.MethodName) prog_50_method_6_code (3 : Nat) (Option.some Jvm.ClassFile.FieldType.boolean)).before args0 about1 = true := code_word (m := ⟨19, 1⟩) (meth := k19m1) (c := k19c1) (by decide +kernel) rfl rfl rfl (by decide +kernel)
set_option maxRecDepth 65536 in
theorem w_c39 : (Jvm.Cond.code ({ cls := "com/example/arcward/arcward/solver/Domains", name := "restore", desc := "(I)V" } : Jvm.MethodName) prog_50_method_22_code (5 : Nat) (Option.none : Option Jvm.ClassFile.FieldType)).before args0 about1 = true := code_word (m := ⟨19, 6⟩) (meth := k19m6) (c := k19c6) (by decide +kernel) rfl rfl rfl (by decide +kernel)
set_option maxRecDepth 65536 in
theorem w_c40 : (Jvm.Cond.code ({ cls := "com/example/arcward/arcward/solver/Domains", name := "remove", desc := "(II)V" } : Jvm.MethodName) prog_50_method_18_code (3 : Nat) (Option.none : Option Jvm.ClassFile.FieldType)).before args0 about1 = true := code_word (m := ⟨19, 3⟩) (meth := k19m3) (c := k19c3) (by decide +kernel) rfl rfl rfl (by decide +kernel)
set_option maxRecDepth 65536 in
theorem w_c41 : (Jvm.Cond.code ({ cls := "com/example/arcward/arcward/solver/Domains", name := "remove", desc := "(III)V" } : Jvm.MethodName) prog_50_method_19_code (4 : Nat) (Option.none : Option Jvm.ClassFile.FieldType)).before args0 about1 = true := code_word (m := ⟨19, 4⟩) (meth := k19m4) (c := k19c4) (by decide +kernel) rfl rfl rfl (by decide +kernel)
set_option maxRecDepth 65536 in
theorem w_c42 : (Jvm.Cond.code ({ cls := "com/example/arcward/arcward/solver/Domains", name := "markResized", desc := "(I)V" } : Jvm.MethodName) prog_50_method_23_code (2 : Nat) (Option.none : Option Jvm.ClassFile.FieldType)).before args0 about1 = true := code_word (m := ⟨19, 7⟩) (meth := k19m7) (c := k19c7) (by decide +kernel) rfl rfl rfl (by decide +kernel)
def codes1 : List Jvm.Cond := [Jvm.Cond.code x code maxLocals ret, Jvm.Cond.code ({ cls := "java/util/ArrayList", name := "<init>", desc := "()V" } : Jvm.MethodName) jdk_38_method_2_code (1 : Nat) (Option.none : Option Jvm.ClassFile.FieldType), Jvm.Cond.code ({ cls := "java/util/AbstractList", name := "<init>", desc := "()V" } : Jvm.MethodName) jdk_39_method_1_code (1 : Nat) (Option.none : Option Jvm.ClassFile.FieldType), Jvm.Cond.code ({ cls := "java/util/AbstractCollection", name := "<init>", desc := "()V" } : Jvm.MethodName) jdk_22_method_1_code (1 : Nat) (Option.none : Option Jvm.ClassFile.FieldType), Jvm.Cond.code ({ cls := "java/lang/Object", name := "<init>", desc := "()V" } : Jvm.MethodName) object_method_1_code (1 : Nat) (Option.none : Option Jvm.ClassFile.FieldType), Jvm.Cond.code ({ cls := "com/example/arcward/arcward/model/Variable", name := "<init>", desc := "(Ljava/lang/String;I[I)V" } : Jvm.MethodName) prog_43_method_1_code (5 : Nat) (Option.none : Option Jvm.ClassFile.FieldType), Jvm.Cond.code ({ cls := "java/util/ArrayList", name := "add", desc := "(Ljava/lang/Object;)Z" } : Jvm.MethodName) jdk_38_method_25_code (2 : Nat) (Option.some Jvm.ClassFile.FieldType.boolean), Jvm.Cond.code ({ cls := "java/util/ArrayList", name := "add", desc := "(Ljava/lang/Object;[Ljava/lang/Object;I)V" } : Jvm.MethodName) jdk_38_method_24_code (4 : Nat) (Option.none : Option Jvm.ClassFile.FieldType), Jvm.Cond.code ({ cls := "java/util/ArrayList", name := "grow", desc := "()[Ljava/lang/Object;" } : Jvm.MethodName) jdk_38_method_7_code (1 : Nat) (Option.some (Jvm.ClassFile.FieldType.array (Jvm.ClassFile.FieldType.object "java/lang/Object"))), Jvm.Cond.code ({ cls := "java/util/ArrayList", name := "grow", desc := "(I)[Ljava/lang/Object;" } : Jvm.MethodName) jdk_38_method_6_code (4 : Nat) (Option.some (Jvm.ClassFile.FieldType.array (Jvm.ClassFile.FieldType.object "java/lang/Object"))), Jvm.Cond.code ({ cls := "java/lang/Math", name := "max", desc := "(II)I" } : Jvm.MethodName) jdk_29_method_65_code (2 : Nat) (Option.some Jvm.ClassFile.FieldType.int), Jvm.Cond.code ({ cls := "com/example/arcward/arcward/model/Instance", name := "<init>", desc := "(Ljava/util/List;Ljava/util/List;)V" } : Jvm.MethodName) prog_11_method_1_code (7 : Nat) (Option.none : Option Jvm.ClassFile.FieldType), Jvm.Cond.code ({ cls := "java/util/List", name := "copyOf", desc := "(Ljava/util/Collection;)Ljava/util/List;" } : Jvm.MethodName) jdk_40_method_48_code (1 : Nat) (Option.some (Jvm.ClassFile.FieldType.object "java/util/List")), Jvm.Cond.code ({ cls := "java/util/ImmutableCollections", name := "listCopy", desc := "(Ljava/util/Collection;)Ljava/util/List;" } : Jvm.MethodName) jdk_56_method_3_code (2 : Nat) (Option.some (Jvm.ClassFile.FieldType.object "java/util/List")), Jvm.Cond.code ({ cls := "java/util/ArrayList", name := "isEmpty", desc := "()Z" } : Jvm.MethodName) jdk_38_method_9_code (1 : Nat) (Option.some Jvm.ClassFile.FieldType.boolean), Jvm.Cond.code ({ cls := "java/util/ArrayList", name := "toArray", desc := "()[Ljava/lang/Object;" } : Jvm.MethodName) jdk_38_method_16_code (1 : Nat) (Option.some (Jvm.ClassFile.FieldType.array (Jvm.ClassFile.FieldType.object "java/lang/Object"))), Jvm.Cond.code ({ cls := "java/util/Arrays", name := "copyOf", desc := "([Ljava/lang/Object;I)[Ljava/lang/Object;" } : Jvm.MethodName) jdk_65_method_119_code (2 : Nat) (Option.some (Jvm.ClassFile.FieldType.array (Jvm.ClassFile.FieldType.object "java/lang/Object"))), Jvm.Cond.code ({ cls := "java/util/Arrays", name := "copyOf", desc := "([Ljava/lang/Object;ILjava/lang/Class;)[Ljava/lang/Object;" } : Jvm.MethodName) jdk_65_method_120_code (4 : Nat) (Option.some (Jvm.ClassFile.FieldType.array (Jvm.ClassFile.FieldType.object "java/lang/Object"))), Jvm.Cond.code ({ cls := "java/lang/Math", name := "min", desc := "(II)I" } : Jvm.MethodName) jdk_29_method_69_code (2 : Nat) (Option.some Jvm.ClassFile.FieldType.int), Jvm.Cond.code ({ cls := "java/util/List", name := "of", desc := "([Ljava/lang/Object;)Ljava/util/List;" } : Jvm.MethodName) jdk_40_method_47_code (2 : Nat) (Option.some (Jvm.ClassFile.FieldType.object "java/util/List")), Jvm.Cond.code ({ cls := "java/util/ImmutableCollections$List12", name := "<init>", desc := "(Ljava/lang/Object;Ljava/lang/Object;)V" } : Jvm.MethodName) jdk_44_method_2_code (3 : Nat) (Option.none : Option Jvm.ClassFile.FieldType), Jvm.Cond.code ({ cls := "java/util/ImmutableCollections$AbstractImmutableList", name := "<init>", desc := "()V" } : Jvm.MethodName) jdk_46_method_1_code (1 : Nat) (Option.none : Option Jvm.ClassFile.FieldType), Jvm.Cond.code ({ cls := "java/util/ImmutableCollections$AbstractImmutableCollection", name := "<init>", desc := "()V" } : Jvm.MethodName) jdk_47_method_1_code (1 : Nat) (Option.none : Option Jvm.ClassFile.FieldType), Jvm.Cond.code ({ cls := "java/util/Objects", name := "requireNonNull", desc := "(Ljava/lang/Object;)Ljava/lang/Object;" } : Jvm.MethodName) jdk_31_method_10_code (1 : Nat) (Option.some (Jvm.ClassFile.FieldType.object "java/lang/Object")), Jvm.Cond.code ({ cls := "java/util/List", name := "of", desc := "()Ljava/util/List;" } : Jvm.MethodName) jdk_40_method_36_code (0 : Nat) (Option.some (Jvm.ClassFile.FieldType.object "java/util/List")), Jvm.Cond.code ({ cls := "java/util/ImmutableCollections$List12", name := "size", desc := "()I" } : Jvm.MethodName) jdk_44_method_3_code (1 : Nat) (Option.some Jvm.ClassFile.FieldType.int), Jvm.Cond.code ({ cls := "java/util/ImmutableCollections$List12", name := "get", desc := "(I)Ljava/lang/Object;" } : Jvm.MethodName) jdk_44_method_5_code (2 : Nat) (Option.some (Jvm.ClassFile.FieldType.object "java/lang/Object")), Jvm.Cond.code ({ cls := "com/example/arcward/arcward/model/Variable", name := "index", desc := "()I" } : Jvm.MethodName) prog_43_method_3_code (1 : Nat) (Option.some Jvm.ClassFile.FieldType.int), Jvm.Cond.code ({ cls := "java/util/ImmutableCollections$AbstractImmutableList", name := "iterator", desc := "()Ljava/util/Iterator;" } : Jvm.MethodName) jdk_46_method_10_code (1 : Nat) (Option.some (Jvm.ClassFile.FieldType.object "java/util/Iterator")), Jvm.Cond.code ({ cls := "java/util/ImmutableCollections$ListN", name := "size", desc := "()I" } : Jvm.MethodName) jdk_45_method_3_code (1 : Nat) (Option.some Jvm.ClassFile.FieldType.int), Jvm.Cond.code ({ cls := "java/util/ImmutableCollections$ListItr", name := "<init>", desc := "(Ljava/util/List;I)V" } : Jvm.MethodName) jdk_53_method_1_code (3 : Nat) (Option.none : Option Jvm.ClassFile.FieldType), Jvm.Cond.code ({ cls := "java/util/ImmutableCollections$ListItr", name := "hasNext", desc := "()Z" } : Jvm.MethodName) jdk_53_method_3_code (1 : Nat) (Option.some Jvm.ClassFile.FieldType.boolean), Jvm.Cond.code ({ cls := "com/example/arcward/arcward/solver/Domains", name := "<init>", desc := "(Lcom/example/arcward/arcward/model/Instance;I)V" } : Jvm.MethodName) prog_50_method_1_code (7 : Nat) (Option.none : Option Jvm.ClassFile.FieldType), Jvm.Cond.code ({ cls := "com/example/arcward/arcward/model/Instance", name := "variables", desc := "()Ljava/util/List;" } : Jvm.MethodName) prog_11_method_2_code (1 : Nat) (Option.some (Jvm.ClassFile.FieldType.object "java/util/List")), Jvm.Cond.code ({ cls := "com/example/arcward/arcward/model/Variable", name := "size", desc := "()I" } : Jvm.MethodName) prog_43_method_4_code (1 : Nat) (Option.some Jvm.ClassFile.FieldType.int), Jvm.Cond.code ({ cls := "com/example/arcward/arcward/solver/Domains", name := "wordsFor", desc := "(I)I" } : Jvm.MethodName) prog_50_method_12_code (1 : Nat) (Option.some Jvm.ClassFile.FieldType.int), Jvm.Cond.code ({ cls := "com/example/arcward/arcward/solver/DomainsContainsPinLaw", name := "sizeOf", desc := "(I)I" } : Jvm.MethodName) method_2_code (1 : Nat) (Option.some Jvm.ClassFile.FieldType.int), Jvm.Cond.code ({ cls := "com/example/arcward/arcward/solver/Domains", name := "mark", desc := "()I" } : Jvm.MethodName) prog_50_method_21_code (1 : Nat) (Option.some Jvm.ClassFile.FieldType.int), Jvm.Cond.code ({ cls := "com/example/arcward/arcward/solver/Domains", name := "contains", desc := "(II)Z" } : Jvm.MethodName) prog_50_method_6_code (3 : Nat) (Option.some Jvm.ClassFile.FieldType.boolean), Jvm.Cond.code ({ cls := "com/example/arcward/arcward/solver/Domains", name := "restore", desc := "(I)V" } : Jvm.MethodName) prog_50_method_22_code (5 : Nat) (Option.none : Option Jvm.ClassFile.FieldType), Jvm.Cond.code ({ cls := "com/example/arcward/arcward/solver/Domains", name := "remove", desc := "(II)V" } : Jvm.MethodName) prog_50_method_18_code (3 : Nat) (Option.none : Option Jvm.ClassFile.FieldType), Jvm.Cond.code ({ cls := "com/example/arcward/arcward/solver/Domains", name := "remove", desc := "(III)V" } : Jvm.MethodName) prog_50_method_19_code (4 : Nat) (Option.none : Option Jvm.ClassFile.FieldType), Jvm.Cond.code ({ cls := "com/example/arcward/arcward/solver/Domains", name := "markResized", desc := "(I)V" } : Jvm.MethodName) prog_50_method_23_code (2 : Nat) (Option.none : Option Jvm.ClassFile.FieldType)]
set_option maxRecDepth 65536 in
theorem codes_eq : words1.filter isCode = codes1 := rfl
theorem w_codes : ∀ c ∈ words1.filter isCode, c.before args0 about1 = true := by
  rw [codes_eq]
  intro c hc
  simp only [codes1, List.mem_cons, List.not_mem_nil, or_false] at hc
  rcases hc with rfl | rfl | rfl | rfl | rfl | rfl | rfl | rfl | rfl | rfl | rfl | rfl | rfl | rfl | rfl | rfl | rfl | rfl | rfl | rfl | rfl | rfl | rfl | rfl | rfl | rfl | rfl | rfl | rfl | rfl | rfl | rfl | rfl | rfl | rfl | rfl | rfl | rfl | rfl | rfl | rfl | rfl | rfl
  · exact w_c0
  · exact w_c1
  · exact w_c2
  · exact w_c3
  · exact w_c4
  · exact w_c5
  · exact w_c6
  · exact w_c7
  · exact w_c8
  · exact w_c9
  · exact w_c10
  · exact w_c11
  · exact w_c12
  · exact w_c13
  · exact w_c14
  · exact w_c15
  · exact w_c16
  · exact w_c17
  · exact w_c18
  · exact w_c19
  · exact w_c20
  · exact w_c21
  · exact w_c22
  · exact w_c23
  · exact w_c24
  · exact w_c25
  · exact w_c26
  · exact w_c27
  · exact w_c28
  · exact w_c29
  · exact w_c30
  · exact w_c31
  · exact w_c32
  · exact w_c33
  · exact w_c34
  · exact w_c35
  · exact w_c36
  · exact w_c37
  · exact w_c38
  · exact w_c39
  · exact w_c40
  · exact w_c41
  · exact w_c42
set_option maxRecDepth 65536 in
theorem w_t1 : (words1.take 24).all (fun c => isCode c || c.before args0 about1) = true := by decide +kernel
set_option maxRecDepth 65536 in
theorem w_t2 : ((words1.drop 24).take 24).all (fun c => isCode c || c.before args0 about1) = true := by decide +kernel
set_option maxRecDepth 65536 in
theorem w_t3 : (((words1.drop 24).drop 24).take 24).all (fun c => isCode c || c.before args0 about1) = true := by decide +kernel
set_option maxRecDepth 65536 in
theorem w_t4 : ((((words1.drop 24).drop 24).drop 24).take 24).all (fun c => isCode c || c.before args0 about1) = true := by decide +kernel
set_option maxRecDepth 65536 in
theorem w_t5 : (((((words1.drop 24).drop 24).drop 24).drop 24).take 24).all (fun c => isCode c || c.before args0 about1) = true := by decide +kernel
set_option maxRecDepth 65536 in
theorem w_t6 : ((((((words1.drop 24).drop 24).drop 24).drop 24).drop 24).take 24).all (fun c => isCode c || c.before args0 about1) = true := by decide +kernel
set_option maxRecDepth 65536 in
theorem w_t7 : (((((((words1.drop 24).drop 24).drop 24).drop 24).drop 24).drop 24).take 24).all (fun c => isCode c || c.before args0 about1) = true := by decide +kernel
set_option maxRecDepth 65536 in
theorem w_t8 : ((((((((words1.drop 24).drop 24).drop 24).drop 24).drop 24).drop 24).drop 24).take 24).all (fun c => isCode c || c.before args0 about1) = true := by decide +kernel
set_option maxRecDepth 65536 in
theorem w_t9 : (((((((((words1.drop 24).drop 24).drop 24).drop 24).drop 24).drop 24).drop 24).drop 24).take 24).all (fun c => isCode c || c.before args0 about1) = true := by decide +kernel
set_option maxRecDepth 65536 in
theorem w_t10 : ((((((((((words1.drop 24).drop 24).drop 24).drop 24).drop 24).drop 24).drop 24).drop 24).drop 24).take 24).all (fun c => isCode c || c.before args0 about1) = true := by decide +kernel
set_option maxRecDepth 65536 in
theorem w_t11 : (((((((((((words1.drop 24).drop 24).drop 24).drop 24).drop 24).drop 24).drop 24).drop 24).drop 24).drop 24).take 24).all (fun c => isCode c || c.before args0 about1) = true := by decide +kernel
set_option maxRecDepth 65536 in
theorem w_t12 : ((((((((((((words1.drop 24).drop 24).drop 24).drop 24).drop 24).drop 24).drop 24).drop 24).drop 24).drop 24).drop 24).take 24).all (fun c => isCode c || c.before args0 about1) = true := by decide +kernel
set_option maxRecDepth 65536 in
theorem w_t13 : (((((((((((((words1.drop 24).drop 24).drop 24).drop 24).drop 24).drop 24).drop 24).drop 24).drop 24).drop 24).drop 24).drop 24).take 24).all (fun c => isCode c || c.before args0 about1) = true := by decide +kernel
set_option maxRecDepth 65536 in
theorem w_t14 : ((((((((((((((words1.drop 24).drop 24).drop 24).drop 24).drop 24).drop 24).drop 24).drop 24).drop 24).drop 24).drop 24).drop 24).drop 24).take 24).all (fun c => isCode c || c.before args0 about1) = true := by decide +kernel
set_option maxRecDepth 65536 in
theorem w_t15 : ((((((((((((((words1.drop 24).drop 24).drop 24).drop 24).drop 24).drop 24).drop 24).drop 24).drop 24).drop 24).drop 24).drop 24).drop 24).drop 24).all (fun c => isCode c || c.before args0 about1) = true := by decide +kernel
theorem w_tables : (allAtoms (Jvm.Cond.code x code maxLocals ret :: tables_1)).before args0 about1 = true := by
  rw [allAtoms_all]
  show words1.all (fun c => c.before args0 about1) = true
  refine all_split ?_ w_codes
  rw [← List.take_append_drop 24 words1, List.all_append, w_t1, ← List.take_append_drop 24 (words1.drop 24), List.all_append, w_t2, ← List.take_append_drop 24 ((words1.drop 24).drop 24), List.all_append, w_t3, ← List.take_append_drop 24 (((words1.drop 24).drop 24).drop 24), List.all_append, w_t4, ← List.take_append_drop 24 ((((words1.drop 24).drop 24).drop 24).drop 24), List.all_append, w_t5, ← List.take_append_drop 24 (((((words1.drop 24).drop 24).drop 24).drop 24).drop 24), List.all_append, w_t6, ← List.take_append_drop 24 ((((((words1.drop 24).drop 24).drop 24).drop 24).drop 24).drop 24), List.all_append, w_t7, ← List.take_append_drop 24 (((((((words1.drop 24).drop 24).drop 24).drop 24).drop 24).drop 24).drop 24), List.all_append, w_t8, ← List.take_append_drop 24 ((((((((words1.drop 24).drop 24).drop 24).drop 24).drop 24).drop 24).drop 24).drop 24), List.all_append, w_t9, ← List.take_append_drop 24 (((((((((words1.drop 24).drop 24).drop 24).drop 24).drop 24).drop 24).drop 24).drop 24).drop 24), List.all_append, w_t10, ← List.take_append_drop 24 ((((((((((words1.drop 24).drop 24).drop 24).drop 24).drop 24).drop 24).drop 24).drop 24).drop 24).drop 24), List.all_append, w_t11, ← List.take_append_drop 24 (((((((((((words1.drop 24).drop 24).drop 24).drop 24).drop 24).drop 24).drop 24).drop 24).drop 24).drop 24).drop 24), List.all_append, w_t12, ← List.take_append_drop 24 ((((((((((((words1.drop 24).drop 24).drop 24).drop 24).drop 24).drop 24).drop 24).drop 24).drop 24).drop 24).drop 24).drop 24), List.all_append, w_t13, ← List.take_append_drop 24 (((((((((((((words1.drop 24).drop 24).drop 24).drop 24).drop 24).drop 24).drop 24).drop 24).drop 24).drop 24).drop 24).drop 24).drop 24), List.all_append, w_t14, w_t15]
  rfl
set_option maxRecDepth 65536 in
theorem w_rest : rest_1_c.before args0 about1 = true := by decide +kernel
set_option maxRecDepth 65536 in
theorem w_case : (Jvm.Cond.and given_1 narrow_1).before args0 about1 = true := by decide +kernel
theorem w_applies : (headSpec (Jvm.Cond.code x code maxLocals ret :: tables_1) room_1).applies x e0.platform about1 = true :=
  (Spec.applies_iff w_frames).mpr ⟨w_running, w_runnable, w_alone, w_named, w_hears, w_ripe, w_room, w_tables⟩
theorem atStart : AtStart classFile x code maxLocals ret World_1 tables_1 room_1 Calls_1 rest_1 Pre_1 launch0 p0 e0 about1 theMethod args0 below0 :=
  ⟨lists_1, trivial, launch0.admits_env _ _ _, launch0.least_env, fairChoices_fair.cas, fairChoices_fair.clock, w_frames, w_args, w_heap, w_applies, ⟨⟨41, k41, 2, by decide +kernel, rfl, rfl, _, rfl, rfl⟩, trivial⟩, w_rest, w_case⟩
end start1
theorem witness_1 : WitnessClaimed_1 := ⟨start1.p0, start1.e0, start1.about1, start1.theMethod, start1.args0, start1.below0, start1.atStart⟩
end Jvm.Pilot.@@N@@
